import JvmDerived
import JvmDerived.Pilot.@@N@@Statement
import JvmDerived.Pilot.@@N@@Code
set_option linter.unusedVariables false
set_option linter.unusedSimpArgs false
/- laws to paste: Road.backV, Road.lenW, Road.chN, Road.codOf, pair_says, Road.wide_lo, Road.wide_hi, shr1, shr0 (cut by pick.py; bodies as the Statement names them) -/
namespace Jvm.Pilot.@@N@@
namespace StrChars
open Jvm Sem ClassFile Op Lib Jvm.Stand Jvm.Free.XT Jvm.Free.ALB Jvm.Free.JM Jvm.Free
open Jvm.Lib.Cold (StaticIs)
/-- a char array whose places are chars -/
def Ch (a : Addr) (A : Cell) (U : State) : Prop := Arr .char a A U ∧ Typed .char A
theorem Ch.mv {a : Addr} {A : Cell} {U U' : State} (h : Ch a A U) (hal : U.vm.Alike U'.vm) (hh : U'.heap = U.heap) : Ch a A U' := ⟨h.1.mv hal hh, h.2⟩
theorem Ch.keep {a : Addr} {A : Cell} {U U' : State} (h : Ch a A U) (hal : U.vm.Alike U'.vm) (hk : U'.heap[a]? = some A) : Ch a A U' := ⟨h.1.keep hal hk, h.2⟩
/-- what place i of a char[]'s cell holds -/
def cv (A : Cell) (i : Nat) : Int32 := match A.slots[i]? with | some (.int x) => x | _ => 0
theorem Ch.get {a : Addr} {A : Cell} {U : State} (h : Ch a A U) {i : Nat} (hi : i < A.slots.size) : A.slots[i]? = some (.int (cv A i)) := by
  have e := Array.getElem?_eq_getElem hi
  have f := h.2 i _ e
  unfold cv; rw [e]
  generalize A.slots[i] = v at f
  cases v <;> simp [fits] at f ⊢
/-- the byte that i2b leaves of a char -/
def lo8 (x : Int32) : Int32 := x.toInt8.toInt32
theorem fits_lo8 (y : Int32) : fits .byte (.int (lo8 y)) = true := by
  have h1 := y.toInt8.le_toInt
  have h2 := y.toInt8.toInt_lt
  simp only [lo8, fits, Bool.and_eq_true, decide_eq_true_eq, Int32.le_iff_toInt_le, Int8.toInt_toInt32, show (-128 : Int32).toInt = -128 from by decide, show (127 : Int32).toInt = 127 from by decide]
  omega
/-- A' is A but that each place j of lo .. hi - 1 holds f j -/
def Laid (A A' : Cell) (lo hi : Nat) (f : Nat → Value) : Prop := A'.cls = A.cls ∧ A'.vm = A.vm ∧ A'.slots.size = A.slots.size ∧ ∀ i, A'.slots[i]? = if lo ≤ i ∧ i < hi then some (f i) else A.slots[i]?
theorem Laid.zero (A : Cell) (lo : Nat) (f : Nat → Value) : Laid A A lo (lo + 0) f := ⟨rfl, rfl, rfl, fun i => by rw [if_neg (by omega)]⟩
theorem Laid.step {A Ak : Cell} {lo k : Nat} {f : Nat → Value} {v : Value} (h : Laid A Ak lo k f) (hlo : lo ≤ k) (hk : k < Ak.slots.size) (hv : v = f k) : Laid A (Ak.setSlot k v) lo (k + 1) f := by
  refine ⟨h.1, h.2.1, by simpa [Cell.setSlot] using h.2.2.1, fun i => ?_⟩
  by_cases e : k = i
  · subst e; rw [Cell.slots_setSlot_self v hk, if_pos (by omega), hv]
  · rw [Cell.slots_setSlot_ne v e, h.2.2.2 i]
    by_cases q : lo ≤ i ∧ i < k
    · rw [if_pos q, if_pos (by omega)]
    · rw [if_neg q, if_neg (by omega)]
def U16 : String := "java/lang/StringUTF16"
namespace Cmp5
def yN : MethodName := ⟨"java/lang/StringUTF16", "compress", "([CI[BII)I"⟩
abbrev yB : ByteArray := jdk_52_method_21_code
theorem d0 : decode yB 0 = .ok (.iconst 0, 1) := by decide +kernel
theorem d1 : decode yB 1 = .ok (.istore 5, 2) := by decide +kernel
theorem d3 : decode yB 3 = .ok (.iload 5, 2) := by decide +kernel
theorem d5 : decode yB 5 = .ok (.iload 4, 2) := by decide +kernel
theorem d7 : decode yB 7 = .ok (.if_icmp (.ge) 37, 3) := by decide +kernel
theorem d10 : decode yB 10 = .ok (.aload_n 0, 1) := by decide +kernel
theorem d11 : decode yB 11 = .ok (.iload_n 1, 1) := by decide +kernel
theorem d12 : decode yB 12 = .ok (.caload, 1) := by decide +kernel
theorem d13 : decode yB 13 = .ok (.istore 6, 2) := by decide +kernel
theorem d15 : decode yB 15 = .ok (.iload 6, 2) := by decide +kernel
theorem d17 : decode yB 17 = .ok (.sipush 255, 3) := by decide +kernel
theorem d20 : decode yB 20 = .ok (.if_icmp (.le) 6, 3) := by decide +kernel
theorem d26 : decode yB 26 = .ok (.aload_n 2, 1) := by decide +kernel
theorem d27 : decode yB 27 = .ok (.iload_n 3, 1) := by decide +kernel
theorem d28 : decode yB 28 = .ok (.iload 6, 2) := by decide +kernel
theorem d30 : decode yB 30 = .ok (.i2b, 1) := by decide +kernel
theorem d31 : decode yB 31 = .ok (.bastore, 1) := by decide +kernel
theorem d32 : decode yB 32 = .ok (.iinc 1 1, 3) := by decide +kernel
theorem d35 : decode yB 35 = .ok (.iinc 3 1, 3) := by decide +kernel
theorem d38 : decode yB 38 = .ok (.iinc 5 1, 3) := by decide +kernel
theorem d41 : decode yB 41 = .ok (.goto (-38), 3) := by decide +kernel
theorem d44 : decode yB 44 = .ok (.iload 4, 2) := by decide +kernel
theorem d46 : decode yB 46 = .ok (.ireturn, 1) := by decide +kernel
def site : List Cond := []
def tab : Cond := tabOf yN yB 7 (some .int) site
def P (b : Addr) (A : Cell) (d : Addr) (B : Cell) (o q len : Nat) (args : Array Value) (s : State) : Prop := args = #[.ref b, .int (Int32.ofNat o), .ref d, .int (Int32.ofNat q), .int (Int32.ofNat len)] ∧ Ch b A s ∧ Arr .byte d B s ∧ b ≠ d ∧ o + len ≤ A.slots.size ∧ q + len ≤ B.slots.size ∧ ∀ i, i < len → ¬ 255 < cv A (o + i)
def E (b : Addr) (A : Cell) (d : Addr) (B : Cell) (o q len : Nat) (r : Option Value) (s u : State) : Prop := r = some (.int (Int32.ofNat len)) ∧ ∃ B', Put d B' s u ∧ Laid B B' q (q + len) (fun j => Value.int (lo8 (cv A (o + (j - q)))))
/-- no char of the range above 255: len; the places written hold each char's low byte -/
theorem law (l : Launch) (b : Addr) (A : Cell) (d : Addr) (B : Cell) (o q len : Nat) : Law l yN 5 5 0 0 yB 7 (some .int) site (P b A d B o q len) (E b A d B o q len) (copyLocs d q len) 0 0 := by
  refine Law.of_walk (plainFor_of_name (by decide +kernel)) (by decide +kernel) (by decide +kernel) (by decide) (fun _ _ h => by rw [h.1]; rfl) (fun _ U U' hal hh h => ⟨h.1, h.2.1.mv hal hh, h.2.2.1.mv hal hh, h.2.2.2⟩) (fun r U U' V V' h1 hal h2 h => ⟨h.1, h.2.elim fun B' q => ⟨B', q.1.mv h1 h2, q.2⟩⟩) ?_
  intro p e s m args below meth c s₁ X0 hexec hbytes hml hret hlk hnm hown hh0 W hP
  obtain ⟨rfl, hA, hB, hne, l1, l2, hp⟩ := hP
  have c1 : Steps p.tables e below (s₁.setTop (entryFrame m #[.ref b, .int (Int32.ofNat o), .ref d, .int (Int32.ofNat q), .int (Int32.ofNat len)] 7)) (s₁.setTop (mkF m 0 #[.val (.ref b), .val (.int (Int32.ofNat o)), .val (.ref d), .val (.int (Int32.ofNat q)), .val (.int (Int32.ofNat len)), .unset, .unset] [])) := entry rfl
  have hA0 := hA.1.mv X0.warmed.alike hh0
  have hB0 := hB.mv X0.warmed.alike hh0
  have a31 := hA.1.2.2.2
  have c2 : Steps p.tables e below (s₁.setTop (entryFrame m #[.ref b, .int (Int32.ofNat o), .ref d, .int (Int32.ofNat q), .int (Int32.ofNat len)] 7)) (s₁.setTop (mkF m 3 #[.val (.ref b), .val (.int (Int32.ofNat o)), .val (.ref d), .val (.int (Int32.ofNat q)), .val (.int (Int32.ofNat len)), .val (.int 0), .unset] [])) := c1.trans (by
    refine iconstV X0.here hexec rfl 0 (hb hbytes d0) (by decide) ?_
    refine XS.istore X0.here hexec rfl (hb hbytes d1) rfl rfl ?_
    exact Steps.refl _)
  have loop : ∀ (r i : Nat), i + r = len → ∀ (z : Slot), (z = .unset ∨ ∃ w, z = .val w ∧ w.category = 1) → ∀ (Tl : State) (Bk : Cell), Stand p l e { frames := 0, locals := 0, cells := 0, slots := 0 } s m #[.ref b, .int (Int32.ofNat o), .ref d, .int (Int32.ofNat q), .int (Int32.ofNat len)] below meth c Tl ([] ++ copyLocs d q i) 0 0 → Put d Bk s₁ Tl → Laid B Bk q (q + i) (fun j => Value.int (lo8 (cv A (o + (j - q))))) →
      Steps p.tables e below (s₁.setTop (entryFrame m #[.ref b, .int (Int32.ofNat o), .ref d, .int (Int32.ofNat q), .int (Int32.ofNat len)] 7)) (Tl.setTop (mkF m 3 #[.val (.ref b), .val (.int (Int32.ofNat (o + i))), .val (.ref d), .val (.int (Int32.ofNat (q + i))), .val (.int (Int32.ofNat len)), .val (.int (Int32.ofNat i)), z] [])) → ∃ (T' : State) (B' : Cell) (z' : Slot), Stand p l e { frames := 0, locals := 0, cells := 0, slots := 0 } s m #[.ref b, .int (Int32.ofNat o), .ref d, .int (Int32.ofNat q), .int (Int32.ofNat len)] below meth c T' ([] ++ copyLocs d q len) 0 0 ∧ Put d B' s₁ T' ∧ Laid B B' q (q + len) (fun j => Value.int (lo8 (cv A (o + (j - q))))) ∧
      Steps p.tables e below (s₁.setTop (entryFrame m #[.ref b, .int (Int32.ofNat o), .ref d, .int (Int32.ofNat q), .int (Int32.ofNat len)] 7)) (T'.setTop (mkF m 3 #[.val (.ref b), .val (.int (Int32.ofNat (o + len))), .val (.ref d), .val (.int (Int32.ofNat (q + len))), .val (.int (Int32.ofNat len)), .val (.int (Int32.ofNat len)), z'] [])) := by
    intro r
    induction r with
    | zero =>
      intro i hi z hz Tl Bk Xl pl fl cl
      have hil : i = len := by omega
      rw [hil] at Xl fl cl
      exact ⟨Tl, Bk, z, Xl, pl, fl, cl⟩
    | succ r ih =>
      intro i hi z hz Tl Bk Xl pl fl cl
      have all := X0.warmed.alike.symm.trans Xl.warmed.alike
      have hAl := hA0.keep all (pl.other hne hA0.1)
      have hBk := hB0.like all pl.1 fl.1 fl.2.1 fl.2.2.1
      have hlt : q + i < Bk.slots.size := by rw [fl.2.2.1]; omega
      have c3 : Steps p.tables e below (s₁.setTop (entryFrame m #[.ref b, .int (Int32.ofNat o), .ref d, .int (Int32.ofNat q), .int (Int32.ofNat len)] 7)) (Tl.setTop (mkF m 12 #[.val (.ref b), .val (.int (Int32.ofNat (o + i))), .val (.ref d), .val (.int (Int32.ofNat (q + i))), .val (.int (Int32.ofNat len)), .val (.int (Int32.ofNat i)), z] [.int (Int32.ofNat (o + i)), .ref b])) := cl.trans (by
        refine XS.iload Xl.here hexec rfl (hb hbytes d3) rfl ?_
        refine XS.iload Xl.here hexec rfl (hb hbytes d5) rfl ?_
        refine XS.icmpNo Xl.here hexec rfl (hb hbytes d7) rfl (ii_ge_f (lt32 (by omega) (by omega))) ?_
        refine XS.aloadN Xl.here hexec rfl (hb hbytes d10) rfl rfl ?_
        refine XS.iloadN Xl.here hexec rfl (hb hbytes d11) rfl ?_
        exact Steps.refl _)
      have c4 : Steps p.tables e below (s₁.setTop (entryFrame m #[.ref b, .int (Int32.ofNat o), .ref d, .int (Int32.ofNat q), .int (Int32.ofNat len)] 7)) (Tl.setTop (mkF m 13 #[.val (.ref b), .val (.int (Int32.ofNat (o + i))), .val (.ref d), .val (.int (Int32.ofNat (q + i))), .val (.int (Int32.ofNat len)), .val (.int (Int32.ofNat i)), z] [.int (cv A (o + i))])) := c3.trans (by
        refine Xl.aget hexec hAl rfl (hA.get (i := o + i) (by omega)) rfl rfl (hb hbytes d12) ?_
        exact Steps.refl _)
      have c5 : Steps p.tables e below (s₁.setTop (entryFrame m #[.ref b, .int (Int32.ofNat o), .ref d, .int (Int32.ofNat q), .int (Int32.ofNat len)] 7)) (Tl.setTop (mkF m 15 #[.val (.ref b), .val (.int (Int32.ofNat (o + i))), .val (.ref d), .val (.int (Int32.ofNat (q + i))), .val (.int (Int32.ofNat len)), .val (.int (Int32.ofNat i)), .val (.int (cv A (o + i)))] [])) := c4.trans (by
        refine XS.istoreS Xl.here hexec rfl (hb hbytes d13) rfl rfl hz ?_
        exact Steps.refl _)
      have c6 : Steps p.tables e below (s₁.setTop (entryFrame m #[.ref b, .int (Int32.ofNat o), .ref d, .int (Int32.ofNat q), .int (Int32.ofNat len)] 7)) (Tl.setTop (mkF m 31 #[.val (.ref b), .val (.int (Int32.ofNat (o + i))), .val (.ref d), .val (.int (Int32.ofNat (q + i))), .val (.int (Int32.ofNat len)), .val (.int (Int32.ofNat i)), .val (.int (cv A (o + i)))] [.int (lo8 (cv A (o + i))), .int (Int32.ofNat (q + i)), .ref d])) := c5.trans (by
        refine XS.iload Xl.here hexec rfl (hb hbytes d15) rfl ?_
        refine sipushV Xl.here hexec rfl 255 (hb hbytes d17) (by decide) ?_
        refine XS.icmpYes Xl.here hexec rfl (pc0 := 20) rfl (hb hbytes d20) rfl (ii_le_t (hp i (by omega))) (by decide) rfl ?_
        refine XS.aloadN Xl.here hexec rfl (hb hbytes d26) rfl rfl ?_
        refine XS.iloadN Xl.here hexec rfl (hb hbytes d27) rfl ?_
        refine XS.iload Xl.here hexec rfl (hb hbytes d28) rfl ?_
        refine i2b Xl.here hexec rfl (hb hbytes d30) rfl ?_
        exact Steps.refl _)
      obtain ⟨T7, X7, p7, st7⟩ := Xl.aput hexec hBk rfl hlt rfl (fits_lo8 (cv A (o + i))) (g := (mkF m 31 #[.val (.ref b), .val (.int (Int32.ofNat (o + i))), .val (.ref d), .val (.int (Int32.ofNat (q + i))), .val (.int (Int32.ofNat len)), .val (.int (Int32.ofNat i)), .val (.int (cv A (o + i)))] [.int (lo8 (cv A (o + i))), .int (Int32.ofNat (q + i)), .ref d])) rfl (rest := []) rfl (hb hbytes d31)
      have c8 : Steps p.tables e below (s₁.setTop (entryFrame m #[.ref b, .int (Int32.ofNat o), .ref d, .int (Int32.ofNat q), .int (Int32.ofNat len)] 7)) (T7.setTop (mkF m 32 #[.val (.ref b), .val (.int (Int32.ofNat (o + i))), .val (.ref d), .val (.int (Int32.ofNat (q + i))), .val (.int (Int32.ofNat len)), .val (.int (Int32.ofNat i)), .val (.int (cv A (o + i)))] [])) := c6.trans (st7 _ (Steps.refl _))
      have c9 : Steps p.tables e below (s₁.setTop (entryFrame m #[.ref b, .int (Int32.ofNat o), .ref d, .int (Int32.ofNat q), .int (Int32.ofNat len)] 7)) (T7.setTop (mkF m 3 #[.val (.ref b), .val (.int (Int32.ofNat (o + i) + 1)), .val (.ref d), .val (.int (Int32.ofNat (q + i) + 1)), .val (.int (Int32.ofNat len)), .val (.int (Int32.ofNat i + 1)), .val (.int (cv A (o + i)))] [])) := c8.trans (by
        refine iincV X7.here hexec rfl 1 (hb hbytes d32) (by decide) rfl rfl ?_
        refine iincV X7.here hexec rfl 1 (hb hbytes d35) (by decide) rfl rfl ?_
        refine iincV X7.here hexec rfl 1 (hb hbytes d38) (by decide) rfl rfl ?_
        refine XS.goto X7.here hexec rfl (pc0 := 41) rfl (hb hbytes d41) (by decide) rfl ?_
        exact Steps.refl _)
      have c10 : Steps p.tables e below (s₁.setTop (entryFrame m #[.ref b, .int (Int32.ofNat o), .ref d, .int (Int32.ofNat q), .int (Int32.ofNat len)] 7)) (T7.setTop (mkF m 3 #[.val (.ref b), .val (.int (Int32.ofNat (o + (i + 1)))), .val (.ref d), .val (.int (Int32.ofNat (q + (i + 1)))), .val (.int (Int32.ofNat len)), .val (.int (Int32.ofNat (i + 1))), .val (.int (cv A (o + i)))] [])) := by
        have := c9
        rw [succ32, succ32, succ32] at this
        exact this
      exact ih (i + 1) (by omega) _ (Or.inr ⟨_, rfl, rfl⟩) T7 _ (by rw [copyLocs_step, ← List.append_assoc]; exact X7) (pl.trans p7) (fl.step (by omega) hlt (by simp)) c10
  obtain ⟨T9, B9, z9, X9, p9, f9, g9⟩ := loop len 0 (by omega) .unset (Or.inl rfl) s₁ B (by simpa [copyLocs] using X0) ⟨hB0.1, fun _ _ => rfl, rfl⟩ (Laid.zero _ _ _) c2
  have c11 : Steps p.tables e below (s₁.setTop (entryFrame m #[.ref b, .int (Int32.ofNat o), .ref d, .int (Int32.ofNat q), .int (Int32.ofNat len)] 7)) (T9.setTop (mkF m 46 #[.val (.ref b), .val (.int (Int32.ofNat (o + len))), .val (.ref d), .val (.int (Int32.ofNat (q + len))), .val (.int (Int32.ofNat len)), .val (.int (Int32.ofNat len)), z9] [.int (Int32.ofNat len)])) := g9.trans (by
    refine XS.iload X9.here hexec rfl (hb hbytes d3) rfl ?_
    refine XS.iload X9.here hexec rfl (hb hbytes d5) rfl ?_
    refine XS.icmpYes X9.here hexec rfl (pc0 := 7) rfl (hb hbytes d7) rfl (ii_ge_t (nlt32 (by omega) (Nat.le_refl _))) (by decide) rfl ?_
    refine XS.iload X9.here hexec rfl (hb hbytes d44) rfl ?_
    exact Steps.refl _)
  exact ⟨T9, some (.int (Int32.ofNat len)), _, _, _, X9, by simp, rfl, rfl, (fun h => by cases h), ⟨rfl, B9, p9.from hh0, f9⟩, fun fs hl => c11.trans (X9.ireturnOut hexec hret rfl (Or.inl rfl) (hb hbytes d46) hl)⟩
end Cmp5
namespace Cmp3
def yN : MethodName := ⟨"java/lang/StringUTF16", "compress", "([CII)[B"⟩
abbrev yB : ByteArray := jdk_52_method_16_code
theorem d0 : decode yB 0 = .ok (.iload_n 2, 1) := by decide +kernel
theorem d1 : decode yB 1 = .ok (.newarray .byte, 2) := by decide +kernel
theorem d3 : decode yB 3 = .ok (.astore_n 3, 1) := by decide +kernel
theorem d4 : decode yB 4 = .ok (.aload_n 0, 1) := by decide +kernel
theorem d5 : decode yB 5 = .ok (.iload_n 1, 1) := by decide +kernel
theorem d6 : decode yB 6 = .ok (.aload_n 3, 1) := by decide +kernel
theorem d7 : decode yB 7 = .ok (.iconst 0, 1) := by decide +kernel
theorem d8 : decode yB 8 = .ok (.iload_n 2, 1) := by decide +kernel
theorem d9 : decode yB 9 = .ok (.invokestatic 115, 3) := by decide +kernel
theorem d12 : decode yB 12 = .ok (.istore 4, 2) := by decide +kernel
theorem d14 : decode yB 14 = .ok (.iload 4, 2) := by decide +kernel
theorem d16 : decode yB 16 = .ok (.iload_n 2, 1) := by decide +kernel
theorem d17 : decode yB 17 = .ok (.if_icmp (.eq) 40, 3) := by decide +kernel
theorem d57 : decode yB 57 = .ok (.aload_n 3, 1) := by decide +kernel
theorem d58 : decode yB 58 = .ok (.areturn, 1) := by decide +kernel
def site : List Cond := [.arrayClass .byte, Cmp5.tab] ++ staticW U16 115 Cmp5.yN
def tab : Cond := tabOf yN yB 6 (some (.array .byte)) site
def P (b : Addr) (A : Cell) (o len : Nat) (args : Array Value) (s : State) : Prop := args = #[.ref b, .int (Int32.ofNat o), .int (Int32.ofNat len)] ∧ Ch b A s ∧ o + len ≤ A.slots.size ∧ len ≤ 536870912 ∧ ∀ i, i < len → ¬ 255 < cv A (o + i)
def E (b : Addr) (A : Cell) (o len : Nat) (r : Option Value) (s u : State) : Prop := NewArr .byte "[B" len (fun j => .int (lo8 (cv A (o + j)))) r s u ∧ u.heap.size = s.heap.size + 1
/-- no char of the range above 255: a new byte[] of their low bytes -/
theorem law (l : Launch) (b : Addr) (A : Cell) (o len : Nat) : Law l yN 3 3 1 18 yB 6 (some (.array .byte)) site (P b A o len) (E b A o len) [] 1 len := by
  refine Law.of_walk (plainFor_of_name (by decide +kernel)) (by decide +kernel) (by decide +kernel) (by decide) (fun _ _ h => by rw [h.1]; rfl) (fun _ U U' hal hh h => ⟨h.1, h.2.1.mv hal hh, h.2.2⟩) (fun r U U' V V' h1 hal h2 h => ⟨NewArr.mv r U U' V V' h1 hal h2 h.1, by rw [h1, h2]; exact h.2⟩) ?_
  intro p e s m args below meth c s₁ X0 hexec hbytes hml hret hlk hnm hown hh0 W hP
  obtain ⟨rfl, hA, l1, l2, hp⟩ := hP
  have a31 := hA.1.2.2.2
  have c1 : Steps p.tables e below (s₁.setTop (entryFrame m #[.ref b, .int (Int32.ofNat o), .int (Int32.ofNat len)] 6)) (s₁.setTop (mkF m 0 #[.val (.ref b), .val (.int (Int32.ofNat o)), .val (.int (Int32.ofNat len)), .unset, .unset, .unset] [])) := entry rfl
  have c2 : Steps p.tables e below (s₁.setTop (entryFrame m #[.ref b, .int (Int32.ofNat o), .int (Int32.ofNat len)] 6)) (s₁.setTop (mkF m 1 #[.val (.ref b), .val (.int (Int32.ofNat o)), .val (.int (Int32.ofNat len)), .unset, .unset, .unset] [.int (Int32.ofNat len)])) := c1.trans (by
    refine XS.iloadN X0.here hexec rfl (hb hbytes d0) rfl ?_
    exact Steps.refl _)
  obtain ⟨T3, B3, X3, ba3, bs3, bv3, bh3, bf3, st3⟩ := X0.anew hexec (atype := .byte) (wk W (.arrayClass .byte)) rfl (by show len * 1 ≤ _; omega) (by omega) (g := (mkF m 1 #[.val (.ref b), .val (.int (Int32.ofNat o)), .val (.int (Int32.ofNat len)), .unset, .unset, .unset] [.int (Int32.ofNat len)])) rfl (hb hbytes d1) (rest := []) rfl (Nat.le_refl _) (by show 0 + len ≤ len; omega)
  rw [hh0] at ba3 st3
  have kp3 : XT.Kept s T3 := (XT.Kept.of_eq hh0).push bh3
  have hA3 := hA.keep X3.warmed.alike (kp3 _ _ hA.1.1)
  have hne : b ≠ s.heap.size := hA.1.ne
  have c4 : Steps p.tables e below (s₁.setTop (entryFrame m #[.ref b, .int (Int32.ofNat o), .int (Int32.ofNat len)] 6)) (T3.setTop (mkF m 3 #[.val (.ref b), .val (.int (Int32.ofNat o)), .val (.int (Int32.ofNat len)), .unset, .unset, .unset] [.ref s.heap.size])) := c2.trans (st3 _ (Steps.refl _))
  have c5 : Steps p.tables e below (s₁.setTop (entryFrame m #[.ref b, .int (Int32.ofNat o), .int (Int32.ofNat len)] 6)) (T3.setTop (mkF m 9 #[.val (.ref b), .val (.int (Int32.ofNat o)), .val (.int (Int32.ofNat len)), .val (.ref s.heap.size), .unset, .unset] [.int (Int32.ofNat len), .int 0, .ref s.heap.size, .int (Int32.ofNat o), .ref b])) := c4.trans (by
    refine XS.astoreN X3.here hexec rfl (hb hbytes d3) rfl rfl rfl ?_
    refine XS.aloadN X3.here hexec rfl (hb hbytes d4) rfl rfl ?_
    refine XS.iloadN X3.here hexec rfl (hb hbytes d5) rfl ?_
    refine XS.aloadN X3.here hexec rfl (hb hbytes d6) rfl rfl ?_
    refine iconstV X3.here hexec rfl 0 (hb hbytes d7) (by decide) ?_
    refine XS.iloadN X3.here hexec rfl (hb hbytes d8) rfl ?_
    exact Steps.refl _)
  obtain ⟨v6, T6, X6, E6, g6⟩ := X3.callS hexec (Cmp5.law l b A s.heap.size B3 o 0 len) hown (wks W (staticW U16 115 Cmp5.yN)) (wk W Cmp5.tab) (W := 0) (Nat.le_of_ble_eq_true rfl) (Nat.le_of_ble_eq_true rfl) (Nat.le_refl _) (by show 0 + len + 0 ≤ len; omega) (g := (mkF m 9 #[.val (.ref b), .val (.int (Int32.ofNat o)), .val (.int (Int32.ofNat len)), .val (.ref s.heap.size), .unset, .unset] [.int (Int32.ofNat len), .int (Int32.ofNat 0), .ref s.heap.size, .int (Int32.ofNat o), .ref b])) rfl (by rw [hml]; rfl) c5 (argsL := [.ref b, .int (Int32.ofNat o), .ref s.heap.size, .int (Int32.ofNat 0), .int (Int32.ofNat len)]) (rest := []) rfl rfl (by show 2 * 0 + 0 ≤ _; decide) (hb hbytes d9) (⟨rfl, hA3, ba3, hne, l1, by rw [bs3]; simp, hp⟩)
  obtain ⟨rfl, B6, p6, f6⟩ := E6
  have c7 : Steps p.tables e below (s₁.setTop (entryFrame m #[.ref b, .int (Int32.ofNat o), .int (Int32.ofNat len)] 6)) (T6.setTop (mkF m 12 #[.val (.ref b), .val (.int (Int32.ofNat o)), .val (.int (Int32.ofNat len)), .val (.ref s.heap.size), .unset, .unset] [.int (Int32.ofNat len)])) := g6
  have c8 : Steps p.tables e below (s₁.setTop (entryFrame m #[.ref b, .int (Int32.ofNat o), .int (Int32.ofNat len)] 6)) (T6.setTop (mkF m 58 #[.val (.ref b), .val (.int (Int32.ofNat o)), .val (.int (Int32.ofNat len)), .val (.ref s.heap.size), .val (.int (Int32.ofNat len)), .unset] [.ref s.heap.size])) := c7.trans (by
    refine XS.istore X6.here hexec rfl (hb hbytes d12) rfl rfl ?_
    refine XS.iload X6.here hexec rfl (hb hbytes d14) rfl ?_
    refine XS.iloadN X6.here hexec rfl (hb hbytes d16) rfl ?_
    refine XS.icmpYes X6.here hexec rfl (pc0 := 17) rfl (hb hbytes d17) rfl (ii_eq_t rfl) (by decide) rfl ?_
    refine XS.aloadN X6.here hexec rfl (hb hbytes d57) rfl rfl ?_
    exact Steps.refl _)
  have X8 := X6.wide (L' := []) (cells' := 1) (slots' := len) (fun x hx hlt => by
    simp only [List.nil_append, copyLocs, List.mem_map, List.mem_range] at hx
    obtain ⟨i, -, rfl⟩ := hx
    exact absurd hlt (Nat.lt_irrefl _)) (Nat.le_refl _) (by omega)
  exact ⟨T6, some (.ref s.heap.size), _, _, _, X8, rfl, rfl, rfl, (fun h => by cases h), ⟨⟨rfl, B6, ba3.like (X3.warmed.alike.symm.trans X6.warmed.alike) p6.1 f6.1 f6.2.1 f6.2.2.1, f6.2.1.trans bv3, by rw [X6.warmed.alike.findClass, f6.1]; exact bf3, by rw [f6.2.2.1, bs3]; simp, fun j hj => by rw [f6.2.2.2 j, if_pos (by omega)]; rfl, kp3.put p6 (Nat.le_refl _)⟩, by rw [p6.2.2, bh3, hh0]; simp⟩, fun fs hl => c8.trans (X8.areturnOut hexec rfl hret rfl (hb hbytes d58) hl)⟩
end Cmp3
namespace CodL
def yN : MethodName := ⟨"java/lang/StringUTF16", "coderFromArrayLen", "([BI)B"⟩
abbrev yB : ByteArray := jdk_52_method_15_code
theorem d0 : decode yB 0 = .ok (.iload_n 1, 1) := by decide +kernel
theorem d1 : decode yB 1 = .ok (.aload_n 0, 1) := by decide +kernel
theorem d2 : decode yB 2 = .ok (.arraylength, 1) := by decide +kernel
theorem d3 : decode yB 3 = .ok (.isub, 1) := by decide +kernel
theorem d4 : decode yB 4 = .ok (.bipush 31, 2) := by decide +kernel
theorem d6 : decode yB 6 = .ok (.iushr, 1) := by decide +kernel
theorem d7 : decode yB 7 = .ok (.i2b, 1) := by decide +kernel
theorem d8 : decode yB 8 = .ok (.ireturn, 1) := by decide +kernel
def site : List Cond := []
def tab : Cond := tabOf yN yB 2 (some .byte) site
def P (d : Addr) (B : Cell) (args : Array Value) (s : State) : Prop := args = #[.ref d, .int (Int32.ofNat B.slots.size)] ∧ Arr .byte d B s
def E (r : Option Value) (s u : State) : Prop := XT.PureE (some (.int 0)) r s u
/-- an array as long as the number of chars: LATIN1 -/
theorem law (l : Launch) (d : Addr) (B : Cell) : Law l yN 2 2 0 0 yB 2 (some .byte) site (P d B) E [] 0 0 := by
  refine Law.of_walk (plainFor_of_name (by decide +kernel)) (by decide +kernel) (by decide +kernel) (by decide) (fun _ _ h => by rw [h.1]; rfl) (fun _ U U' hal hh h => ⟨h.1, h.2.mv hal hh⟩) (fun r U U' V V' h1 hal h2 h => XT.PureE.mv r U U' V V' h1 hal h2 h) ?_
  intro p e s m args below meth c s₁ X0 hexec hbytes hml hret hlk hnm hown hh0 W hP
  obtain ⟨rfl, hB⟩ := hP
  have hB0 := hB.mv X0.warmed.alike hh0
  have c1 : Steps p.tables e below (s₁.setTop (entryFrame m #[.ref d, .int (Int32.ofNat B.slots.size)] 2)) (s₁.setTop (mkF m 0 #[.val (.ref d), .val (.int (Int32.ofNat B.slots.size))] [])) := entry rfl
  have c2 : Steps p.tables e below (s₁.setTop (entryFrame m #[.ref d, .int (Int32.ofNat B.slots.size)] 2)) (s₁.setTop (mkF m 2 #[.val (.ref d), .val (.int (Int32.ofNat B.slots.size))] [.ref d, .int (Int32.ofNat B.slots.size)])) := c1.trans (by
    refine XS.iloadN X0.here hexec rfl (hb hbytes d0) rfl ?_
    refine XS.aloadN X0.here hexec rfl (hb hbytes d1) rfl rfl ?_
    exact Steps.refl _)
  have c3 : Steps p.tables e below (s₁.setTop (entryFrame m #[.ref d, .int (Int32.ofNat B.slots.size)] 2)) (s₁.setTop (mkF m 8 #[.val (.ref d), .val (.int (Int32.ofNat B.slots.size))] [.int (lo8 (ushr (Int32.ofNat B.slots.size - Int32.ofNat B.slots.size) 31))])) := c2.trans (by
    refine X0.alen hexec hB0 rfl rfl (hb hbytes d2) ?_
    refine XS.isub X0.here hexec rfl (hb hbytes d3) rfl ?_
    refine bipushV X0.here hexec rfl 31 (hb hbytes d4) (by decide) ?_
    refine iushr X0.here hexec rfl (hb hbytes d6) rfl ?_
    refine i2b X0.here hexec rfl (hb hbytes d7) rfl ?_
    exact Steps.refl _)
  have e0 : lo8 (ushr (Int32.ofNat B.slots.size - Int32.ofNat B.slots.size) 31) = 0 := by rw [Int32.sub_self]; decide
  rw [e0] at c3
  exact ⟨s₁, some (.int 0), _, _, _, X0, rfl, rfl, rfl, (fun h => by cases h), ⟨rfl, hh0⟩, fun fs hl => c3.trans (X0.ireturnOut hexec hret rfl (Or.inr (Or.inr (Or.inl rfl))) (hb hbytes d8) hl)⟩
end CodL
/-- the String at a is Latin-1 over a new byte[] (the heap's one new cell): the low bytes of the len chars of A from o on; every cell but a is kept -/
def Got (a : Addr) (D : Cell) (fV fC : Field) (A : Cell) (o len : Nat) (r : Option Value) (s u : State) : Prop := r = none ∧ ∃ D' V : Cell, Blank "java/lang/String" a D' u ∧ Same D D' [fV.slot, fC.slot] ∧ D'.slots[fV.slot]? = some (.ref s.heap.size) ∧ D'.slots[fC.slot]? = some (.int 0) ∧ Arr .byte s.heap.size V u ∧ V.vm = .none ∧ u.vm.findClass "[B" = some V.cls ∧ V.slots.size = len ∧ (∀ j, j < len → V.slots[j]? = some (.int (lo8 (cv A (o + j))))) ∧ (∀ (y : Addr) (c : Cell), y ≠ a → s.heap[y]? = some c → u.heap[y]? = some c) ∧ u.heap.size = s.heap.size + 1
theorem Got.mv {a : Addr} {D A : Cell} {fV fC : Field} {o len : Nat} : ∀ r (U U' V V' : State), U'.heap = U.heap → V.vm.Alike V'.vm → V'.heap = V.heap → Got a D fV fC A o len r U V → Got a D fV fC A o len r U' V' :=
  fun r U U' V V' h1 hal h2 ⟨e0, D', X, a1, a2, a3, a4, a5, a6, a7, a8, a9, a10, a11⟩ => ⟨e0, D', X, a1.mv hal h2, a2, by rw [h1]; exact a3, a4, by rw [h1]; exact a5.mv hal h2, a6, by rw [hal.findClass]; exact a7, a8, a9, by rw [h1, h2]; exact a10, by rw [h1, h2]; exact a11⟩
namespace New4
def yN : MethodName := ⟨"java/lang/String", "<init>", "([CIILjava/lang/Void;)V"⟩
abbrev yB : ByteArray := jdk_42_method_149_code
theorem d0 : decode yB 0 = .ok (.aload_n 0, 1) := by decide +kernel
theorem d1 : decode yB 1 = .ok (.invokespecial 1, 3) := by decide +kernel
theorem d4 : decode yB 4 = .ok (.iload_n 3, 1) := by decide +kernel
theorem d5 : decode yB 5 = .ok (.ifCond (.ne) 22, 3) := by decide +kernel
theorem d27 : decode yB 27 = .ok (.getstatic 38, 3) := by decide +kernel
theorem d30 : decode yB 30 = .ok (.ifCond (.eq) 28, 3) := by decide +kernel
theorem d33 : decode yB 33 = .ok (.aload_n 1, 1) := by decide +kernel
theorem d34 : decode yB 34 = .ok (.iload_n 2, 1) := by decide +kernel
theorem d35 : decode yB 35 = .ok (.iload_n 3, 1) := by decide +kernel
theorem d36 : decode yB 36 = .ok (.invokestatic 177, 3) := by decide +kernel
theorem d39 : decode yB 39 = .ok (.astore 5, 2) := by decide +kernel
theorem d41 : decode yB 41 = .ok (.aload_n 0, 1) := by decide +kernel
theorem d42 : decode yB 42 = .ok (.aload 5, 2) := by decide +kernel
theorem d44 : decode yB 44 = .ok (.iload_n 3, 1) := by decide +kernel
theorem d45 : decode yB 45 = .ok (.invokestatic 47, 3) := by decide +kernel
theorem d48 : decode yB 48 = .ok (.putfield 15, 3) := by decide +kernel
theorem d51 : decode yB 51 = .ok (.aload_n 0, 1) := by decide +kernel
theorem d52 : decode yB 52 = .ok (.aload 5, 2) := by decide +kernel
theorem d54 : decode yB 54 = .ok (.putfield 9, 3) := by decide +kernel
theorem d57 : decode yB 57 = .ok (.return_, 1) := by decide +kernel
def site : List Cond := [.fieldLink "java/lang/String" 38 "java/lang/String" "COMPACT_STRINGS" "Z", Cmp3.tab, CodL.tab, .laysFinal "java/lang/String" "java/lang/String" "value" "[B", .fieldLink "java/lang/String" 9 "java/lang/String" "value" "[B", .laysFinal "java/lang/String" "java/lang/String" "coder" "B", .fieldLink "java/lang/String" 15 "java/lang/String" "coder" "B"] ++ objW "java/lang/String" 1 ++ staticW "java/lang/String" 177 Cmp3.yN ++ staticW "java/lang/String" 47 CodL.yN
def tab : Cond := tabOf yN yB 6 none site
def P (a : Addr) (D : Cell) (fV fC : Field) (b : Addr) (A : Cell) (z : Int32) (o len : Nat) (args : Array Value) (s : State) : Prop := args = #[.ref a, .ref b, .int (Int32.ofNat o), .int (Int32.ofNat len), .null] ∧ Blank "java/lang/String" a D s ∧ Found "java/lang/String" "value" "[B" fV s ∧ Found "java/lang/String" "coder" "B" fC s ∧ Ch b A s ∧ StaticIs s "java/lang/String" "COMPACT_STRINGS" "Z" (.int z) ∧ ¬ z = 0 ∧ 0 < len ∧ o + len ≤ A.slots.size ∧ len ≤ 536870912 ∧ ∀ i, i < len → ¬ 255 < cv A (o + i)
def E (a : Addr) (D : Cell) (fV fC : Field) (A : Cell) (o len : Nat) (r : Option Value) (s u : State) : Prop := Got a D fV fC A o len r s u
/-- len > 0, no char of the range above 255: a Latin-1 String of their low bytes -/
theorem law (l : Launch) (a : Addr) (D : Cell) (fV fC : Field) (b : Addr) (A : Cell) (z : Int32) (o len : Nat) : Law l yN 5 4 2 35 yB 6 none site (P a D fV fC b A z o len) (E a D fV fC A o len) [⟨a, fC.slot⟩, ⟨a, fV.slot⟩] 1 len := by
  refine Law.of_walk (plainFor_of_name (by decide +kernel)) (by decide +kernel) (by decide +kernel) (by decide) (fun _ _ h => by rw [h.1]; rfl) (fun _ U U' hal hh h => ⟨h.1, h.2.1.mv hal hh, h.2.2.1.al hal, h.2.2.2.1.al hal, h.2.2.2.2.1.mv hal hh, h.2.2.2.2.2.1.there hal hh, h.2.2.2.2.2.2⟩) (fun r U U' V V' h1 hal h2 h => Got.mv r U U' V V' h1 hal h2 h) ?_
  intro p e s m args below meth c s₁ X0 hexec hbytes hml hret hlk hnm hown hh0 W hP
  obtain ⟨rfl, hB, f1, f2, hA, s1, hz, l0, l1, l2, hp⟩ := hP
  have a31 := hA.1.2.2.2
  have c1 : Steps p.tables e below (s₁.setTop (entryFrame m #[.ref a, .ref b, .int (Int32.ofNat o), .int (Int32.ofNat len), .null] 6)) (s₁.setTop (mkF m 0 #[.val (.ref a), .val (.ref b), .val (.int (Int32.ofNat o)), .val (.int (Int32.ofNat len)), .val .null, .unset] [])) := entry rfl
  have c2 : Steps p.tables e below (s₁.setTop (entryFrame m #[.ref a, .ref b, .int (Int32.ofNat o), .int (Int32.ofNat len), .null] 6)) (s₁.setTop (mkF m 1 #[.val (.ref a), .val (.ref b), .val (.int (Int32.ofNat o)), .val (.int (Int32.ofNat len)), .val .null, .unset] [.ref a])) := c1.trans (by
    refine XS.aloadN X0.here hexec rfl (hb hbytes d0) rfl rfl ?_
    exact Steps.refl _)
  obtain ⟨T3, X3, q3, st3⟩ := X0.oinit hexec hown (wks W (objW "java/lang/String" 1)) (g := (mkF m 1 #[.val (.ref a), .val (.ref b), .val (.int (Int32.ofNat o)), .val (.int (Int32.ofNat len)), .val .null, .unset] [.ref a])) rfl (by rw [hml]; rfl) (rest := []) rfl (hb hbytes d1) (W := 0) (by show 2 * 0 + 0 ≤ _; decide) (Nat.le_of_ble_eq_true rfl) (Nat.le_of_ble_eq_true rfl)
  have hh3 := q3.trans hh0
  have c4 : Steps p.tables e below (s₁.setTop (entryFrame m #[.ref a, .ref b, .int (Int32.ofNat o), .int (Int32.ofNat len), .null] 6)) (T3.setTop (mkF m 27 #[.val (.ref a), .val (.ref b), .val (.int (Int32.ofNat o)), .val (.int (Int32.ofNat len)), .val .null, .unset] [])) := (c2.trans (st3 _ (Steps.refl _))).trans (by
    refine XS.iloadN X3.here hexec rfl (hb hbytes d4) rfl ?_
    refine XS.ifYes X3.here hexec rfl (pc0 := 5) rfl (hb hbytes d5) rfl (i0_ne_t (nz32 (by omega) l0)) (by decide) rfl ?_
    exact Steps.refl _)
  obtain ⟨T5, X5, q5, st5⟩ := X3.sget hexec hown (wk W (.fieldLink "java/lang/String" 38 "java/lang/String" "COMPACT_STRINGS" "Z")) s1 (fun _ _ h => by rw [hh3]; exact h) (g := (mkF m 27 #[.val (.ref a), .val (.ref b), .val (.int (Int32.ofNat o)), .val (.int (Int32.ofNat len)), .val .null, .unset] [])) rfl (hb hbytes d27)
  have hh5 := q5.trans hh3
  have c6 : Steps p.tables e below (s₁.setTop (entryFrame m #[.ref a, .ref b, .int (Int32.ofNat o), .int (Int32.ofNat len), .null] 6)) (T5.setTop (mkF m 30 #[.val (.ref a), .val (.ref b), .val (.int (Int32.ofNat o)), .val (.int (Int32.ofNat len)), .val .null, .unset] [.int z])) := c4.trans (st5 _ (Steps.refl _))
  have c7 : Steps p.tables e below (s₁.setTop (entryFrame m #[.ref a, .ref b, .int (Int32.ofNat o), .int (Int32.ofNat len), .null] 6)) (T5.setTop (mkF m 36 #[.val (.ref a), .val (.ref b), .val (.int (Int32.ofNat o)), .val (.int (Int32.ofNat len)), .val .null, .unset] [.int (Int32.ofNat len), .int (Int32.ofNat o), .ref b])) := c6.trans (by
    refine XS.ifNo X5.here hexec rfl (hb hbytes d30) rfl (i0_eq_f hz) ?_
    refine XS.aloadN X5.here hexec rfl (hb hbytes d33) rfl rfl ?_
    refine XS.iloadN X5.here hexec rfl (hb hbytes d34) rfl ?_
    refine XS.iloadN X5.here hexec rfl (hb hbytes d35) rfl ?_
    exact Steps.refl _)
  obtain ⟨v8, T8, X8, E8, g8⟩ := X5.callS hexec (Cmp3.law l b A o len) hown (wks W (staticW "java/lang/String" 177 Cmp3.yN)) (wk W Cmp3.tab) (W := 0) (Nat.le_of_ble_eq_true rfl) (Nat.le_of_ble_eq_true rfl) (Nat.le_refl _) (by show 0 + len ≤ len; omega) (g := (mkF m 36 #[.val (.ref a), .val (.ref b), .val (.int (Int32.ofNat o)), .val (.int (Int32.ofNat len)), .val .null, .unset] [.int (Int32.ofNat len), .int (Int32.ofNat o), .ref b])) rfl (by rw [hml]; rfl) c7 (argsL := [.ref b, .int (Int32.ofNat o), .int (Int32.ofNat len)]) (rest := []) rfl rfl (by show 2 * 0 + 0 ≤ _; decide) (hb hbytes d36) (⟨rfl, hA.mv X5.warmed.alike hh5, l1, l2, hp⟩)
  obtain ⟨e8, z8⟩ := E8
  obtain ⟨rfl, N, n1, n2, n3, n4, n5, n6⟩ := NewArr.mv _ T5 s _ _ hh5.symm (Vm.Alike.refl _) rfl e8
  rw [hh5] at z8
  have hB1 := hB.keep X8.warmed.alike (n6 _ _ hB.1)
  have hne : s.heap.size ≠ a := (Nat.ne_of_lt (Array.getElem?_eq_some_iff.mp hB.1).1).symm
  have c9 : Steps p.tables e below (s₁.setTop (entryFrame m #[.ref a, .ref b, .int (Int32.ofNat o), .int (Int32.ofNat len), .null] 6)) (T8.setTop (mkF m 39 #[.val (.ref a), .val (.ref b), .val (.int (Int32.ofNat o)), .val (.int (Int32.ofNat len)), .val .null, .unset] [.ref s.heap.size])) := g8
  have c10 : Steps p.tables e below (s₁.setTop (entryFrame m #[.ref a, .ref b, .int (Int32.ofNat o), .int (Int32.ofNat len), .null] 6)) (T8.setTop (mkF m 45 #[.val (.ref a), .val (.ref b), .val (.int (Int32.ofNat o)), .val (.int (Int32.ofNat len)), .val .null, .val (.ref s.heap.size)] [.int (Int32.ofNat N.slots.size), .ref s.heap.size, .ref a])) := by
    have hc : Steps p.tables e below (s₁.setTop (entryFrame m #[.ref a, .ref b, .int (Int32.ofNat o), .int (Int32.ofNat len), .null] 6)) (T8.setTop (mkF m 45 #[.val (.ref a), .val (.ref b), .val (.int (Int32.ofNat o)), .val (.int (Int32.ofNat len)), .val .null, .val (.ref s.heap.size)] [.int (Int32.ofNat len), .ref s.heap.size, .ref a])) := c9.trans (by
      refine XS.astore X8.here hexec rfl (hb hbytes d39) rfl rfl rfl ?_
      refine XS.aloadN X8.here hexec rfl (hb hbytes d41) rfl rfl ?_
      refine XS.aload X8.here hexec rfl (hb hbytes d42) rfl rfl ?_
      refine XS.iloadN X8.here hexec rfl (hb hbytes d44) rfl ?_
      exact Steps.refl _)
    rw [n4]; exact hc
  obtain ⟨v11, T11, X11, E11, g11⟩ := X8.callS hexec (CodL.law l s.heap.size N) hown (wks W (staticW "java/lang/String" 47 CodL.yN)) (wk W CodL.tab) (W := 1) (Nat.le_of_ble_eq_true rfl) (Nat.le_of_ble_eq_true rfl) (Nat.le_refl _) (by show 0 + len + 0 ≤ len; omega) (g := (mkF m 45 #[.val (.ref a), .val (.ref b), .val (.int (Int32.ofNat o)), .val (.int (Int32.ofNat len)), .val .null, .val (.ref s.heap.size)] [.int (Int32.ofNat N.slots.size), .ref s.heap.size, .ref a])) rfl (by rw [hml]; rfl) c10 (argsL := [.ref s.heap.size, .int (Int32.ofNat N.slots.size)]) (rest := [.ref a]) rfl rfl (by show 2 * 0 + (1 + 0) ≤ _; decide) (hb hbytes d45) (⟨rfl, n1⟩)
  obtain ⟨rfl, q11⟩ := E11
  have hB11 := hB1.mv (X8.warmed.alike.symm.trans X11.warmed.alike) q11
  have c12 : Steps p.tables e below (s₁.setTop (entryFrame m #[.ref a, .ref b, .int (Int32.ofNat o), .int (Int32.ofNat len), .null] 6)) (T11.setTop (mkF m 48 #[.val (.ref a), .val (.ref b), .val (.int (Int32.ofNat o)), .val (.int (Int32.ofNat len)), .val .null, .val (.ref s.heap.size)] [.int 0, .ref a])) := g11
  obtain ⟨T13, X13, p13, bl13, sl13, st13⟩ := X11.finit hexec hown (wk W (.fieldLink "java/lang/String" 15 "java/lang/String" "coder" "B")) (Or.inr ⟨_, (wk W (.laysFinal "java/lang/String" "java/lang/String" "coder" "B"))⟩) (Or.inl ⟨rfl, hnm⟩) f2 (Or.inl rfl) hB11 (t := .byte) (by decide +kernel) rfl (g := (mkF m 48 #[.val (.ref a), .val (.ref b), .val (.int (Int32.ofNat o)), .val (.int (Int32.ofNat len)), .val .null, .val (.ref s.heap.size)] [.int 0, .ref a])) rfl (rest := []) rfl (hb hbytes d48)
  have c14 : Steps p.tables e below (s₁.setTop (entryFrame m #[.ref a, .ref b, .int (Int32.ofNat o), .int (Int32.ofNat len), .null] 6)) (T13.setTop (mkF m 54 #[.val (.ref a), .val (.ref b), .val (.int (Int32.ofNat o)), .val (.int (Int32.ofNat len)), .val .null, .val (.ref s.heap.size)] [.ref s.heap.size, .ref a])) := (c12.trans (st13 _ (Steps.refl _))).trans (by
    refine XS.aloadN X13.here hexec rfl (hb hbytes d51) rfl rfl ?_
    refine XS.aload X13.here hexec rfl (hb hbytes d52) rfl rfl ?_
    exact Steps.refl _)
  obtain ⟨T15, X15, p15, bl15, sl15, st15⟩ := X13.finit hexec hown (wk W (.fieldLink "java/lang/String" 9 "java/lang/String" "value" "[B")) (Or.inr ⟨_, (wk W (.laysFinal "java/lang/String" "java/lang/String" "value" "[B"))⟩) (Or.inl ⟨rfl, hnm⟩) f1 (Or.inl rfl) bl13 (t := (.array .byte)) (by decide +kernel) rfl (g := (mkF m 54 #[.val (.ref a), .val (.ref b), .val (.int (Int32.ofNat o)), .val (.int (Int32.ofNat len)), .val .null, .val (.ref s.heap.size)] [.ref s.heap.size, .ref a])) rfl (rest := []) rfl (hb hbytes d54)
  have c16 : Steps p.tables e below (s₁.setTop (entryFrame m #[.ref a, .ref b, .int (Int32.ofNat o), .int (Int32.ofNat len), .null] 6)) (T15.setTop (mkF m 57 #[.val (.ref a), .val (.ref b), .val (.int (Int32.ofNat o)), .val (.int (Int32.ofNat len)), .val .null, .val (.ref s.heap.size)] [])) := c14.trans (st15 _ (Steps.refl _))
  have ap := apart (Or.inr ⟨_, (wk W (.laysFinal "java/lang/String" "java/lang/String" "value" "[B"))⟩) (Or.inr ⟨_, (wk W (.laysFinal "java/lang/String" "java/lang/String" "coder" "B"))⟩) f1 f2 (t₁ := .array .byte) (t₂ := .byte) (by decide +kernel) (by decide +kernel) (by decide)
  have al := X8.warmed.alike.symm.trans X15.warmed.alike
  have n7 : T11.heap[s.heap.size]? = some N := by rw [q11]; exact n1.1
  exact ⟨T15, none, _, _, _, X15, by simp, rfl, by omega, (fun _ => rfl), ⟨rfl, _, N, bl15, ((Same.refl D _).set _ (by simp)).set _ (by simp), sl15, (Cell.slots_setSlot_ne _ ap).trans sl13, n1.keep al (p15.other hne (p13.other hne n7)), n2, by rw [al.findClass]; exact n3, n4, n5, fun y c h1 h2 => p15.other h1 (p13.other h1 (by rw [q11]; exact n6 y c h2)), by rw [p15.2.2, p13.2.2, q11]; exact z8⟩, fun fs hl => c16.trans (X15.returnOut hexec hret (hb hbytes d57) hl)⟩
end New4
namespace New1
def yN : MethodName := ⟨"java/lang/String", "<init>", "([C)V"⟩
abbrev yB : ByteArray := jdk_42_method_3_code
theorem d0 : decode yB 0 = .ok (.aload_n 0, 1) := by decide +kernel
theorem d1 : decode yB 1 = .ok (.aload_n 1, 1) := by decide +kernel
theorem d2 : decode yB 2 = .ok (.iconst 0, 1) := by decide +kernel
theorem d3 : decode yB 3 = .ok (.aload_n 1, 1) := by decide +kernel
theorem d4 : decode yB 4 = .ok (.arraylength, 1) := by decide +kernel
theorem d5 : decode yB 5 = .ok (.aconst_null, 1) := by decide +kernel
theorem d6 : decode yB 6 = .ok (.invokespecial 27, 3) := by decide +kernel
theorem d9 : decode yB 9 = .ok (.return_, 1) := by decide +kernel
def site : List Cond := [New4.tab] ++ initW "java/lang/String" 27 New4.yN
def tab : Cond := tabOf yN yB 2 none site
def P (a : Addr) (D : Cell) (fV fC : Field) (b : Addr) (A : Cell) (z : Int32) (args : Array Value) (s : State) : Prop := args = #[.ref a, .ref b] ∧ Blank "java/lang/String" a D s ∧ Found "java/lang/String" "value" "[B" fV s ∧ Found "java/lang/String" "coder" "B" fC s ∧ Ch b A s ∧ StaticIs s "java/lang/String" "COMPACT_STRINGS" "Z" (.int z) ∧ ¬ z = 0 ∧ 0 < A.slots.size ∧ A.slots.size ≤ 536870912 ∧ ∀ i, i < A.slots.size → ¬ 255 < cv A i
def E (a : Addr) (D : Cell) (fV fC : Field) (A : Cell) (r : Option Value) (s u : State) : Prop := Got a D fV fC A 0 A.slots.size r s u
/-- new String(chars), not empty, no char above 255: a Latin-1 String of their low bytes -/
theorem law (l : Launch) (a : Addr) (D : Cell) (fV fC : Field) (b : Addr) (A : Cell) (z : Int32) : Law l yN 2 1 3 52 yB 2 none site (P a D fV fC b A z) (E a D fV fC A) [⟨a, fC.slot⟩, ⟨a, fV.slot⟩] 1 A.slots.size := by
  refine Law.of_walk (plainFor_of_name (by decide +kernel)) (by decide +kernel) (by decide +kernel) (by decide) (fun _ _ h => by rw [h.1]; rfl) (fun _ U U' hal hh h => ⟨h.1, h.2.1.mv hal hh, h.2.2.1.al hal, h.2.2.2.1.al hal, h.2.2.2.2.1.mv hal hh, h.2.2.2.2.2.1.there hal hh, h.2.2.2.2.2.2⟩) (fun r U U' V V' h1 hal h2 h => Got.mv r U U' V V' h1 hal h2 h) ?_
  intro p e s m args below meth c s₁ X0 hexec hbytes hml hret hlk hnm hown hh0 W hP
  obtain ⟨rfl, hB, f1, f2, hA, s1, hz, l0, l2, hp⟩ := hP
  have c1 : Steps p.tables e below (s₁.setTop (entryFrame m #[.ref a, .ref b] 2)) (s₁.setTop (mkF m 0 #[.val (.ref a), .val (.ref b)] [])) := entry rfl
  have c2 : Steps p.tables e below (s₁.setTop (entryFrame m #[.ref a, .ref b] 2)) (s₁.setTop (mkF m 6 #[.val (.ref a), .val (.ref b)] [.null, .int (Int32.ofNat A.slots.size), .int 0, .ref b, .ref a])) := c1.trans (by
    refine XS.aloadN X0.here hexec rfl (hb hbytes d0) rfl rfl ?_
    refine XS.aloadN X0.here hexec rfl (hb hbytes d1) rfl rfl ?_
    refine iconstV X0.here hexec rfl 0 (hb hbytes d2) (by decide) ?_
    refine XS.aloadN X0.here hexec rfl (hb hbytes d3) rfl rfl ?_
    refine X0.alen hexec (hA.1.mv X0.warmed.alike hh0) rfl rfl (hb hbytes d4) ?_
    refine XS.aconstNull X0.here hexec rfl (hb hbytes d5) ?_
    exact Steps.refl _)
  obtain ⟨v3, T3, X3, E3, g3⟩ := X0.callN hexec (New4.law l a D fV fC b A z 0 A.slots.size) rfl hown (wks W (initW "java/lang/String" 27 New4.yN)) (W New4.tab (by simp only [site, List.mem_cons, List.mem_append, true_or, or_true])) (W := 0) (Nat.le_of_ble_eq_true rfl) (Nat.le_of_ble_eq_true rfl) (Nat.le_refl _) (by show 0 + A.slots.size ≤ A.slots.size; omega) (g := (mkF m 6 #[.val (.ref a), .val (.ref b)] [.null, .int (Int32.ofNat A.slots.size), .int (Int32.ofNat 0), .ref b, .ref a])) rfl (by rw [hml]; rfl) c2 (argsL := [.ref b, .int (Int32.ofNat 0), .int (Int32.ofNat A.slots.size), .null]) (rest := []) rfl rfl (by show 2 * 0 + 0 ≤ _; decide) (hb hbytes d6) (⟨rfl, hB.mv X0.warmed.alike hh0, f1.al X0.warmed.alike, f2.al X0.warmed.alike, hA.mv X0.warmed.alike hh0, s1.there X0.warmed.alike hh0, hz, l0, by omega, l2, fun i hi => by rw [Nat.zero_add]; exact hp i hi⟩)
  have e0 := Got.mv _ s₁ s _ _ hh0.symm (Vm.Alike.refl _) rfl E3
  obtain rfl := e0.1
  have c4 : Steps p.tables e below (s₁.setTop (entryFrame m #[.ref a, .ref b] 2)) (T3.setTop (mkF m 9 #[.val (.ref a), .val (.ref b)] [])) := g3
  exact ⟨T3, none, _, _, _, X3, by simp, rfl, by omega, (fun _ => rfl), e0, fun fs hl => c4.trans (X3.returnOut hexec hret (hb hbytes d9) hl)⟩
theorem pays {l : Launch} {R : Room} {p : Program} {e : Env} {below : List Frame} {s : State} {sargs : Array Value} {len W : Nat} (a : Addr) (D : Cell) (fV fC : Field) (b : Addr) (A : Cell) (z : Int32) (htab : tab.before sargs s = true) (hfr : 4 ≤ R.frames) (hlo : W + 65 ≤ R.locals) :
    Back l R p e below s sargs yN len W (fun A₁ a₁ => A₁.cells + 1 ≤ R.cells ∧ A₁.slots + A.slots.size ≤ R.slots ∧ P a D fV fC b A z a₁ A₁.U) (fun A₁ _ v₁ B₁ => E a D fV fC A v₁ A₁.U B₁.U ∧ B₁.locs = A₁.locs ++ [⟨a, fC.slot⟩, ⟨a, fV.slot⟩] ∧ B₁.cells = A₁.cells + 1 ∧ B₁.slots = A₁.slots + A.slots.size) :=
  (law l a D fV fC b A z).pays htab hfr (by omega)
end New1
/-- the byte, read back as charAt reads it, is the char -/
theorem lo8_mask {x : Int32} (h0 : ¬ x < 0) (h1 : ¬ 255 < x) : lo8 x &&& 255 = x := by
  have t : ∀ k : Fin 256, lo8 (Int32.ofNat k.val) &&& 255 = Int32.ofNat k.val := by decide +kernel
  rw [Int32.lt_iff_toInt_lt] at h0 h1
  have e0 : (0 : Int32).toInt = 0 := rfl
  have e1 : (255 : Int32).toInt = 255 := rfl
  obtain ⟨k, hk⟩ : ∃ k : Nat, x.toInt = k := ⟨x.toInt.toNat, by omega⟩
  have hx : x = Int32.ofNat k := Int32.toInt_inj.mp (by rw [hk, Int32.toInt_ofNat_small (by omega)])
  rw [hx]
  exact t ⟨k, by omega⟩
end StrChars
namespace StrChars.Road
open Jvm Sem ClassFile Op Lib Jvm.Stand Jvm.Free Jvm.Free.XT
open Jvm.Lib.Cold (StaticIs)
abbrev ST : String := "java/lang/String"
/-- every table word that New1's law asks, flat -/
abbrev words : List Jvm.Cond := [.code New1.yN New1.yB 2 none, .initialized ST, .methodLink ST 27 New4.yN, .instanceMethod New4.yN,
  .code New4.yN New4.yB 6 none, .fieldLink ST 38 ST "COMPACT_STRINGS" "Z", .laysFinal ST ST "value" "[B", .fieldLink ST 9 ST "value" "[B", .laysFinal ST ST "coder" "B", .fieldLink ST 15 ST "coder" "B",
  .methodLink ST 1 Lib.objectInit, .instanceMethod Lib.objectInit, .code Lib.objectInit ⟨#[0xb1]⟩ 1 none, .methodLink ST 177 Cmp3.yN, .static Cmp3.yN, .methodLink ST 47 CodL.yN, .static CodL.yN,
  .code Cmp3.yN Cmp3.yB 6 (some (.array .byte)), .initialized U16, .arrayClass .byte, .methodLink U16 115 Cmp5.yN, .static Cmp5.yN, .code Cmp5.yN Cmp5.yB 7 (some .int), .code CodL.yN CodL.yB 2 (some .byte)]
theorem tab_of {a : Array Value} {s : State} (h : ∀ w ∈ words, w.before a s = true) : New1.tab.before a s = true := by
  have h5 : Cmp5.tab.before a s = true := unparts (wk h (.code Cmp5.yN Cmp5.yB 7 (some .int))) (wks h (.initialized Cmp5.yN.cls :: Cmp5.site))
  have hc : CodL.tab.before a s = true := unparts (wk h (.code CodL.yN CodL.yB 2 (some .byte))) (wks h (.initialized CodL.yN.cls :: CodL.site))
  have q5 : ∀ w ∈ Cmp5.tab :: words, w.before a s = true := fun w hw => (List.mem_cons.mp hw).elim (fun e => e ▸ h5) (h w)
  have h3 : Cmp3.tab.before a s = true := unparts (wk q5 (.code Cmp3.yN Cmp3.yB 6 (some (.array .byte)))) (wks q5 (.initialized Cmp3.yN.cls :: Cmp3.site))
  have q3 : ∀ w ∈ Cmp3.tab :: CodL.tab :: words, w.before a s = true := fun w hw => (List.mem_cons.mp hw).elim (fun e => e ▸ h3) fun hw => (List.mem_cons.mp hw).elim (fun e => e ▸ hc) (h w)
  have h4 : New4.tab.before a s = true := unparts (wk q3 (.code New4.yN New4.yB 6 none)) (wks q3 (.initialized New4.yN.cls :: New4.site))
  have q4 : ∀ w ∈ New4.tab :: words, w.before a s = true := fun w hw => (List.mem_cons.mp hw).elim (fun e => e ▸ h4) (h w)
  exact unparts (wk q4 (.code New1.yN New1.yB 2 none)) (wks q4 (.initialized New1.yN.cls :: New1.site))
/-- the words ride from the start Z to the walk's own state -/
theorem moved {Z s : State} {a0 args : Array Value} (hZ : Z.Warmed39 s.vm) (hw : ∀ d ∈ words, d.before a0 Z = true) : ∀ d ∈ words, d.before args s = true := fun d hd => by
  have q := hw d hd
  have t : ∀ d ∈ words, d = .arrayClass .byte ∨ (d.onTables && d.keepsFace) = true := by decide +kernel
  rcases t d hd with rfl | t
  · exact RoadKit.mvA hZ q
  · exact RoadKit.mv hZ q t
/-- WHAT COMES BACK, over the tables of the start Z: h the heap at the call, h' behind it -/
def Q (Z : State) (x : Addr) (A : Cell) (h : Heap) (v : Option Value) (h' : Heap) (L : List Loc) : Prop := v = none ∧ (∀ y ∈ L, y.base = x) ∧ RoadKit.Keep h h' [x] ∧ h'.size = h.size + 1 ∧ RoadKit.Exa Z h' x ST ∧ RoadKit.Fld Z h' x ST "value" "[B" (.ref h.size) ∧ RoadKit.Fld Z h' x ST "coder" "B" (.int 0) ∧
  (∃ V : Cell, RoadKit.Arr Z h' h.size V .byte ∧ V.vm = .none ∧ Z.vm.findClass "[B" = some V.cls ∧ V.slots.size = A.slots.size ∧ ∀ j, j < A.slots.size → V.slots[j]? = some (.int (lo8 (cv A j)))) ∧
  ∀ (O n d : String) (w : Value), RoadKit.Fld Z h x O n d w → RoadKit.slotOf Z O n d ≠ RoadKit.slotOf Z ST "value" "[B" → RoadKit.slotOf Z O n d ≠ RoadKit.slotOf Z ST "coder" "B" → RoadKit.Fld Z h' x O n d w
/-- **new String(chars) AT A CALL, IN THE ROAD'S FORM**: for specialBack behind newO: x the fresh String, b the char[] with the cell A -/
theorem back {p : Program} {l : Launch} {e : Env} {R : Room} {s : State} {args : Array Value} {below : List Frame} {len W : Nat} {Z : State} {a0 : Array Value} {h : Heap} (hZ : Z.Warmed39 s.vm) (hw : ∀ d ∈ words, d.before a0 Z = true) {kI : Nat} (wi : (Jvm.Cond.instantiable ST kI).before a0 Z = true)
    {x b : Addr} {A : Cell} {z : Int32} {v0 c0 : Value} (E : RoadKit.Exa Z h x ST) (V : RoadKit.Fld Z h x ST "value" "[B" v0) (C : RoadKit.Fld Z h x ST "coder" "B" c0) (K : RoadKit.Arr Z h b A .char) (hty : Typed .char A) (S : RoadKit.Sta Z h ST "COMPACT_STRINGS" "Z" (.int z)) (hz : ¬ z = 0)
    (l0 : 0 < A.slots.size) (l2 : A.slots.size ≤ 536870912) (hp : ∀ i, i < A.slots.size → ¬ 255 < cv A i) (hfr : 4 ≤ R.frames) (hlo : W + 65 ≤ R.locals) :
    Back l R p e below s args New1.yN len W (fun P a => a = #[.ref x, .ref b] ∧ P.U.heap = h ∧ P.cells + 1 ≤ R.cells ∧ P.slots + A.slots.size ≤ R.slots)
      (fun P _ v B => ∃ L, Q Z x A h v B.U.heap L ∧ B.locs = P.locs ++ L ∧ B.cells = P.cells + 1 ∧ B.slots = P.slots + A.slots.size) := by
  intro m meth c P g ig mk a X hg hsize hdg hW hn hp'
  obtain ⟨rfl, rfl, r1, r2⟩ := hp'
  have al : Z.vm.Alike P.U.vm := hZ.alike.trans X.warmed.alike
  obtain ⟨D, cfV, kV, iV, fV, hD, gV, stV, knV, obV, asV, slV⟩ := id V
  obtain ⟨D', cfC, kC, iC, fC, hD', gC, stC, -, -, asC, slC⟩ := id C
  cases hD.symm.trans hD'
  obtain ⟨D2, kD, e1, e2, e3, e4, e5⟩ := id E
  cases hD.symm.trans e1
  obtain ⟨c2, k2, i1, i2, i3, -⟩ := Cond.instantiable_spec wi
  cases e2.symm.trans i1
  cases e3.symm.trans i2
  obtain ⟨kU, u1, u2⟩ := al.2.2 _ _ e3
  have hB : Blank ST x D P.U := ⟨hD, ⟨knV, fun q hq => by rw [hq] at obV; cases obV⟩, by rw [al.findClass]; exact e2, kU, u1, by rw [u2]; exact i3, by rw [u2]; exact e5 i3⟩
  have F1 : Found ST "value" "[B" fV P.U := ⟨SBG.found_only al ⟨cfV, kV, iV, gV⟩, stV⟩
  have F2 : Found ST "coder" "B" fC P.U := ⟨SBG.found_only al ⟨cfC, kC, iC, gC⟩, stC⟩
  have hA : Ch b A P.U := ⟨⟨K.1, State.isArrayOf_alike al K.2.1, K.2.2, by omega⟩, hty⟩
  have hS : StaticIs P.U ST "COMPACT_STRINGS" "Z" (.int z) := by
    obtain ⟨cfS, iS, kS, fS, st, cS, t1, t2, t3, t4, t5, t6, t7⟩ := S
    exact StaticIs.there (s := { Z with heap := P.U.heap }) ⟨cfS, iS, kS, fS, st, cS, t1, t2, t3, t4, t5, (fun q => by rw [q] at t6; cases t6), t7⟩ al rfl
  obtain ⟨v, B, X', ⟨⟨hv, E', V', q1, q2, q3, q4, q5, q6, q7, q8, q9, q10, q11⟩, hl, hc, hs⟩, st⟩ := New1.pays x D fV fC b A z (tab_of (moved hZ hw)) hfr hlo m meth c P g ig mk _ X hg hsize hdg hW hn ⟨r1, r2, rfl, hB, F1, F2, hA, hS, hz, l0, l2, hp⟩
  have al' : Z.vm.Alike B.U.vm := hZ.alike.trans X'.warmed.alike
  have hsz : E'.slots.size = D.slots.size := by
    obtain ⟨-, -, -, kB, w1, w2, w3⟩ := q1
    obtain ⟨kB', y1, y2⟩ := al'.2.2 _ _ e3
    rw [q2.2.1] at w1
    cases w1.symm.trans y1
    rw [w3, e5 i3, y2]
  refine ⟨v, B, X', ⟨_, ⟨hv, ?_, ⟨by omega, fun y cy hy hn' => q10 y cy (by simpa using hn') hy, fun y cy hy => ?_⟩, q11, ⟨E', _, q1.1, by rw [q2.2.1]; exact e2, by rw [q2.2.1]; exact e3, by rw [q2.1]; exact obV, fun _ => by rw [hsz]; exact e5 i3⟩,
    ⟨E', cfV, kV, iV, fV, q1.1, gV, stV, by rw [q2.1]; exact knV, by rw [q2.1]; exact obV, by rw [q2.2.1]; exact asV, q3⟩, ⟨E', cfC, kC, iC, fC, q1.1, gC, stC, by rw [q2.1]; exact knV, by rw [q2.1]; exact obV, by rw [q2.2.1]; exact asC, q4⟩,
    ⟨V', ⟨q5.1, State.isArrayOf_alike al'.symm q5.2.1, q5.2.2.1⟩, q6, by rw [← al'.findClass]; exact q7, q8, fun j hj => by have := q9 j hj; rwa [Nat.zero_add] at this⟩, fun O n d w F n1 n2 => ?_⟩, hl, hc, hs⟩, st⟩
  · intro y hy
    simp only [List.mem_cons, List.not_mem_nil, or_false] at hy
    rcases hy with rfl | rfl <;> rfl
  · by_cases q : y = x
    · subst q
      cases hD.symm.trans hy
      exact ⟨E', q1.1, q2.2.1, q2.1, hsz⟩
    · exact ⟨cy, q10 y cy q hy, rfl, rfl, rfl⟩
  · obtain ⟨D3, cf, k, i, f, g1, g2, g3, g4, g5, g6, g7⟩ := F
    cases hD.symm.trans g1
    simp only [RoadKit.slotOf, g2, gV, gC, Option.map_some, Option.getD_some] at n1 n2
    exact ⟨E', cf, k, i, f, q1.1, g2, g3, by rw [q2.1]; exact g4, by rw [q2.1]; exact g5, by rw [q2.2.1]; exact g6, by rw [q2.2.2 f.slot (by simp [n1, n2])]; exact g7⟩
end StrChars.Road
namespace StrChars.Road
open Jvm Sem ClassFile Op Lib Jvm.Stand Jvm.Free Jvm.Free.XT
/-- WHAT COMES BACK, the byte[] as a list of values -/
def QA (Z : State) (x : Addr) (zn : Int32) (cs : List Int32) (h : Heap) (v : Option Value) (h' : Heap) (L : List Loc) : Prop := v = none ∧ (∀ y ∈ L, y.base = x) ∧ RoadKit.Keep h h' [x] ∧ h'.size = h.size + 1 ∧ RoadKit.Exa Z h' x ST ∧ RoadKit.Fld Z h' x ST "value" "[B" (.ref h.size) ∧ RoadKit.Fld Z h' x ST "coder" "B" (.int 0) ∧
  (∃ kb, Z.vm.findClass "[B" = some kb ∧ RoadKit.Arv Z h' h.size kb .byte zn (cs.map fun c => .int (lo8 c)) (.int 0)) ∧
  ∀ (O n d : String) (w : Value), RoadKit.Fld Z h x O n d w → RoadKit.slotOf Z O n d ≠ RoadKit.slotOf Z ST "value" "[B" → RoadKit.slotOf Z O n d ≠ RoadKit.slotOf Z ST "coder" "B" → RoadKit.Fld Z h' x O n d w
/-- **new String(chars) AT A CALL, THE ARRAYS AS LISTS**: the char[] at b holds cs, not empty, no char above 255 -/
theorem backArv {p : Program} {l : Launch} {e : Env} {R : Room} {s : State} {args : Array Value} {below : List Frame} {len W : Nat} {Z : State} {a0 : Array Value} {h : Heap} (hZ : Z.Warmed39 s.vm) (hw : ∀ d ∈ words, d.before a0 Z = true) {kI : Nat} (wi : (Jvm.Cond.instantiable ST kI).before a0 Z = true)
    {x b : Addr} {k : ClassId} {zn z : Int32} {cs : List Int32} {dv v0 c0 : Value} (E : RoadKit.Exa Z h x ST) (V : RoadKit.Fld Z h x ST "value" "[B" v0) (C : RoadKit.Fld Z h x ST "coder" "B" c0) (K : RoadKit.Arv Z h b k .char zn (cs.map Value.int) dv) (S : RoadKit.Sta Z h ST "COMPACT_STRINGS" "Z" (.int z)) (hz : ¬ z = 0)
    (hlen : zn.toNatClampNeg = cs.length) (h0 : 0 < cs.length) (hbig : cs.length ≤ 536870912) (hall : ∀ c ∈ cs, ¬ 255 < c) (hfr : 4 ≤ R.frames) (hlo : W + 65 ≤ R.locals) :
    Back l R p e below s args New1.yN len W (fun P a => a = #[.ref x, .ref b] ∧ P.U.heap = h ∧ P.cells + 1 ≤ R.cells ∧ P.slots + cs.length ≤ R.slots)
      (fun P _ v B => ∃ L, QA Z x zn cs h v B.U.heap L ∧ B.locs = P.locs ++ L ∧ B.cells = P.cells + 1 ∧ B.slots = P.slots + cs.length) := by
  obtain ⟨A, K1, K2, K3, K4, K5, K6⟩ := K
  have e : A.slots.size = cs.length := K3.trans hlen
  have hat : ∀ (i : Nat) (hi : i < cs.length), A.slots[i]? = some (.int cs[i]) := fun i hi => by rw [K5 i (by omega)]; simp [List.getD_eq_getElem?_getD, hi]
  have hcv : ∀ (i : Nat) (hi : i < cs.length), cv A i = cs[i] := fun i hi => by unfold cv; rw [hat i hi]
  have hty : Typed .char A := fun i v hv => by
    have hi : i < A.slots.size := (Array.getElem?_eq_some_iff.mp hv).1
    have q := K5 i hi
    rw [hv] at q
    rw [Option.some.inj q]
    exact K6 i hi
  refine Back.mono (back hZ hw wi E V C K1 hty S hz (by omega) (by omega) (fun i hi => by rw [hcv i (by omega)]; exact hall _ (List.getElem_mem _)) hfr hlo) (fun P a hp => ⟨hp.1, hp.2.1, hp.2.2.1, by rw [e]; exact hp.2.2.2⟩) (fun P a v B hp hq => ?_)
  obtain ⟨L, ⟨q1, q2, q3, q4, q5, q6, q7, ⟨V', v1, v2, v3, v4, v5⟩, q9⟩, hl, hc, hs⟩ := hq
  refine ⟨L, ⟨q1, q2, q3, q4, q5, q6, q7, ⟨V'.cls, v3, V', v1, rfl, by rw [v4, e, hlen], K4, fun i hi => ?_, fun i hi => ?_⟩, q9⟩, hl, hc, by rw [hs, e]⟩
  · have hi' : i < cs.length := by omega
    rw [v5 i (by omega), hcv i hi']; simp [List.getD_eq_getElem?_getD, hi']
  · have hi' : i < cs.length := by omega
    simp only [List.getD_eq_getElem?_getD, List.getElem?_map, List.getElem?_eq_getElem hi', Option.map_some, Option.getD_some]
    exact fits_lo8 _
end StrChars.Road
namespace StrChars.Road
open Jvm Sem ClassFile Op Lib Jvm.Stand Jvm.Free Jvm.Free.XT
/-- WHAT COMES BACK, in the writer's own shape -/
def QV (Z : State) (x : Addr) (N : Int32) (bs : List Int32) (h : Heap) (n0 : Nat) (v : Option Value) (h' : Heap) (L : List Loc) : Prop := v = none ∧ RoadKit.Fr n0 L ∧ RoadKit.Keep h h' [x] ∧ RoadKit.Exa Z h' x ST ∧ RoadKit.Fld Z h' x ST "coder" "B" (.int 0) ∧
  ∃ (t : Addr) (kb : ClassId), n0 ≤ t ∧ h.size ≤ t ∧ ¬ t = x ∧ RoadKit.Fld Z h' x ST "value" "[B" (.ref t) ∧ RoadKit.Arv Z h' t kb .byte N (bs.map Value.int) (.int 0)
/-- **new String(chars) AT A CALL, FOR THE WRITER**: a char[] of n known ints, each 0 to 255 -/
theorem backV {p : Program} {l : Launch} {e : Env} {R : Room} {s : State} {args : Array Value} {below : List Frame} {len W : Nat} {Z : State} {a0 : Array Value} {h : Heap} (hZ : Z.Warmed39 s.vm) (hw : ∀ d ∈ words, d.before a0 Z = true) {kI : Nat} (wi : (Jvm.Cond.instantiable ST kI).before a0 Z = true)
    {x b : Addr} {kC : ClassId} {cs bs : List Int32} {d v0 c0 : Value} {z N : Int32} {n n0 : Nat} (hx0 : n0 ≤ x) (hh0 : n0 ≤ h.size) (E : RoadKit.Exa Z h x ST) (V : RoadKit.Fld Z h x ST "value" "[B" v0) (C : RoadKit.Fld Z h x ST "coder" "B" c0) (K : RoadKit.Arv Z h b kC .char N (cs.map Value.int) d) (S : RoadKit.Sta Z h ST "COMPACT_STRINGS" "Z" (.int z)) (hz : ¬ z = 0)
    (hn : cs.length = n) (hN : N = Int32.ofNat n) (l0 : 0 < n) (l2 : n ≤ 4000) (hp : ∀ c ∈ cs, ¬ c < 0 ∧ ¬ (255 : Int32) < c) (hb : bs = cs.map (fun c => c.toInt8.toInt32)) (hfr : 4 ≤ R.frames) (hlo : W + 65 ≤ R.locals) :
    Back l R p e below s args (⟨"java/lang/String", "<init>", "([C)V"⟩ : MethodName) len W (fun P a => a = #[.ref x, .ref b] ∧ P.U.heap = h ∧ P.cells + 1 ≤ R.cells ∧ P.slots + n ≤ R.slots)
      (fun P _ v B => ∃ L, QV Z x N bs h n0 v B.U.heap L ∧ B.locs = P.locs ++ L ∧ B.cells = P.cells + 1 ∧ B.slots = P.slots + n) := by
  subst hn hN hb
  refine Back.mono (backArv hZ hw wi E V C K S hz (n32 (by omega)) l0 (by omega) (fun c hc => (hp c hc).2) hfr hlo) (fun P a hp => hp) (fun P a v B hp hq => ?_)
  obtain ⟨L, ⟨q1, q2, q3, q4, q5, q6, q7, ⟨kb, v1, v2⟩, q9⟩, hl, hc, hs⟩ := hq
  exact ⟨L, ⟨q1, fun y hy => by rw [q2 y hy]; exact hx0, q3, q5, q7, h.size, kb, hh0, Nat.le_refl _, Nat.ne_of_gt E.lt, q6, by rw [List.map_map]; exact v2⟩, hl, hc, hs⟩
end StrChars.Road
namespace StrChars
open Jvm Sem ClassFile Op Lib Jvm.Stand Jvm.Free.XT Jvm.Free.ALB Jvm.Free.JM Jvm.Free
open Jvm.Lib.Cold (StaticIs)
def hi8 (x : Int32) : Int32 := lo8 (x >>> ((8 : Int32) &&& 31))
/-- what StringUTF16.getChar makes of two bytes -/
def pairCh (u v : Int32) : Int32 := (((u &&& 255) <<< ((0 : Int32) &&& 31)) ||| ((v &&& 255) <<< ((8 : Int32) &&& 31))).toUInt32.toUInt16.toUInt32.toInt32
theorem shr0 (c : Int32) : c >>> ((0 : Int32) &&& 31) = c := by
  have e : ((0 : Int32) &&& 31) = 0 := by decide
  rw [e]
  apply Int32.toBitVec_inj.mp
  rw [Int32.toBitVec_shiftRight]
  have e1 : ((0 : Int32).toBitVec.smod 32) = 0#32 := by decide
  rw [e1, BitVec.sshiftRight_eq']
  exact BitVec.sshiftRight_zero
theorem lo8_and (x : Int32) : (lo8 x &&& 255).toBitVec.toNat = x.toBitVec.toNat % 256 := by
  have h : (lo8 x).toBitVec = (x.toBitVec.signExtend 8).signExtend 32 := by rw [lo8, Int8.toBitVec_toInt32, Int32.toBitVec_toInt8]
  rw [Int32.toBitVec_and, BitVec.toNat_and, h]
  have e : ((x.toBitVec.signExtend 8).signExtend 32).toNat % 256 = x.toBitVec.toNat % 256 := by
    rw [BitVec.toNat_signExtend]
    have hlt := x.toBitVec.isLt
    simp only [BitVec.toNat_setWidth, BitVec.toNat_signExtend]
    split <;> split <;> omega
  rw [← e]
  exact Nat.and_two_pow_sub_one_eq_mod _ 8
theorem pair_says {c : Int32} (h0 : ¬ c < 0) (h1 : ¬ 65535 < c) : pairCh (lo8 c) (hi8 c) = c := by
  rw [Int32.lt_iff_toInt_lt] at h0 h1
  have e0 : (0 : Int32).toInt = 0 := rfl
  have e1 : (65535 : Int32).toInt = 65535 := rfl
  have hc : c.toInt = c.toBitVec.toNat := by
    have := c.toBitVec.isLt
    have e : c.toInt = c.toBitVec.toInt := rfl
    rw [e] at h0 h1
    rw [e]
    rw [BitVec.toInt_eq_toNat_cond] at h0 h1 ⊢
    split at h0 <;> split <;> omega
  have hn : c.toBitVec.toNat < 65536 := by omega
  have a1 := lo8_and c
  have a2 : (hi8 c &&& 255).toBitVec.toNat = c.toBitVec.toNat / 256 := by
    rw [hi8, lo8_and]
    have e : ((8 : Int32) &&& 31) = 8 := by decide
    rw [e, Int32.toBitVec_shiftRight]
    have e2 : ((8 : Int32).toBitVec.smod 32) = 8#32 := by decide
    rw [e2, BitVec.sshiftRight_eq', BitVec.toNat_sshiftRight_of_msb_false (by rw [BitVec.msb_eq_false_iff_two_mul_lt]; omega)]
    show c.toBitVec.toNat >>> 8 % 256 = _
    rw [Nat.shiftRight_eq_div_pow]
    omega
  unfold pairCh
  apply Int32.toBitVec_inj.mp
  apply BitVec.eq_of_toNat_eq
  have f0 : ((0 : Int32) &&& 31) = 0 := by decide
  have f8 : ((8 : Int32) &&& 31) = 8 := by decide
  rw [f0, f8]
  have g : (((lo8 c &&& 255) <<< (0 : Int32)) ||| ((hi8 c &&& 255) <<< (8 : Int32))).toBitVec.toNat = c.toBitVec.toNat := by
    rw [Int32.toBitVec_or, Int32.toBitVec_shiftLeft, Int32.toBitVec_shiftLeft]
    have s0 : ((0 : Int32).toBitVec.smod 32) = 0#32 := by decide
    have s8 : ((8 : Int32).toBitVec.smod 32) = 8#32 := by decide
    rw [s0, s8, BitVec.toNat_or]
    simp only [BitVec.shiftLeft_eq', BitVec.toNat_shiftLeft, a1, a2]
    show (c.toBitVec.toNat % 256) <<< 0 % 2 ^ 32 ||| (c.toBitVec.toNat / 256) <<< 8 % 2 ^ 32 = _
    rw [Nat.shiftLeft_zero, Nat.mod_eq_of_lt (show c.toBitVec.toNat % 256 < 2 ^ 32 by omega), Nat.mod_eq_of_lt (show (c.toBitVec.toNat / 256) <<< 8 < 2 ^ 32 by rw [Nat.shiftLeft_eq]; omega), Nat.or_comm, ← Nat.shiftLeft_add_eq_or_of_lt (by omega), Nat.shiftLeft_eq]
    omega
  show BitVec.toNat (((((lo8 c &&& 255) <<< (0 : Int32)) ||| ((hi8 c &&& 255) <<< (8 : Int32))).toBitVec.setWidth 16).setWidth 32) = _
  rw [BitVec.toNat_setWidth, BitVec.toNat_setWidth, g]
  omega
end StrChars
namespace StrChars
open Jvm Sem ClassFile Op Lib Jvm.Stand Jvm.Free.XT Jvm.Free.ALB Jvm.Free.JM Jvm.Free
open Jvm.Lib.Cold (StaticIs)
theorem shr1 {n : Nat} (h : 2 * n < 2 ^ 31) : Int32.ofNat (2 * n) >>> ((1 : Int32) &&& 31) = Int32.ofNat n := by
  have e : ((1 : Int32) &&& 31) = 1 := by decide
  rw [e]
  apply Int32.toBitVec_inj.mp
  rw [Int32.toBitVec_shiftRight]
  have e1 : ((1 : Int32).toBitVec.smod 32) = 1#32 := by decide
  have hm : (BitVec.ofNat 32 (2 * n)).toNat = 2 * n := by rw [BitVec.toNat_ofNat, Nat.mod_eq_of_lt (by omega)]
  rw [e1, BitVec.sshiftRight_eq']
  apply BitVec.eq_of_toNat_eq
  show ((BitVec.ofNat 32 (2 * n)).sshiftRight 1).toNat = (BitVec.ofNat 32 n).toNat
  rw [BitVec.toNat_sshiftRight_of_msb_false (by rw [BitVec.msb_eq_false_iff_two_mul_lt, hm]; omega), hm, BitVec.toNat_ofNat, Nat.shiftRight_eq_div_pow]
  omega
/-- charAt's cast of a byte read back -/
def chr8 (u : Int32) : Int32 := (u &&& 255).toUInt32.toUInt16.toUInt32.toInt32
theorem chr8_lo8 {c : Int32} (h0 : ¬ c < 0) (h1 : ¬ 255 < c) : chr8 (lo8 c) = c := by
  have t : ∀ k : Fin 256, (Int32.ofNat k.val).toUInt32.toUInt16.toUInt32.toInt32 = Int32.ofNat k.val := by decide +kernel
  unfold chr8
  rw [lo8_mask h0 h1]
  rw [Int32.lt_iff_toInt_lt] at h0 h1
  have e0 : (0 : Int32).toInt = 0 := rfl
  have e1 : (255 : Int32).toInt = 255 := rfl
  obtain ⟨k, hk⟩ : ∃ k : Nat, c.toInt = k := ⟨c.toInt.toNat, by omega⟩
  have hx : c = Int32.ofNat k := Int32.toInt_inj.mp (by rw [hk, Int32.toInt_ofNat_small (by omega)])
  rw [hx]
  exact t ⟨k, by omega⟩
theorem narrow_ch {c : Int32} (h0 : ¬ c < 0) (h1 : ¬ 65535 < c) : narrow .char (.int c) = .int c := by
  have q : narrow .char (.int (pairCh (lo8 c) (hi8 c))) = .int (pairCh (lo8 c) (hi8 c)) := narrow_c _
  rwa [pair_says h0 h1] at q
/-- the array's cell V codes the n chars f 0 .. f (n - 1) by the coder cd, as the JDK does: coder 1 just where some char is above 255 -/
def Cod (cd : Int32) (n : Nat) (f : Nat → Int32) (V : Cell) : Prop := (cd = 0 ∧ V.slots.size = n ∧ ∀ j, j < n → V.slots[j]? = some (.int (lo8 (f j))) ∧ ¬ 255 < f j) ∨ (cd = 1 ∧ V.slots.size = 2 * n ∧ (∀ j, j < n → V.slots[2 * j]? = some (.int (lo8 (f j))) ∧ V.slots[2 * j + 1]? = some (.int (hi8 (f j)))) ∧ ∃ j, j < n ∧ 255 < f j)
theorem Cod.cd {cd : Int32} {n : Nat} {f : Nat → Int32} {V : Cell} (h : Cod cd n f V) : cd = 0 ∨ cd = 1 := h.imp (fun q => q.1) fun q => q.1
theorem Cod.len {cd : Int32} {n : Nat} {f : Nat → Int32} {V : Cell} (h : Cod cd n f V) (hs : V.slots.size < 2 ^ 31) : Int32.ofNat V.slots.size >>> (cd &&& 31) = Int32.ofNat n := by
  rcases h with ⟨rfl, h, -⟩ | ⟨rfl, h, -⟩
  · rw [shr0, h]
  · rw [h, shr1 (by omega)]
/-- **x is a String of the n chars f 0 .. f (n - 1)**, Latin-1 or UTF-16; its array at t has the cell V -/
def Txt (x t : Addr) (V : Cell) (cd : Int32) (n : Nat) (f : Nat → Int32) (U : State) : Prop := Exact "java/lang/String" x U ∧ Has x "java/lang/String" "value" "[B" (.ref t) U ∧ Has x "java/lang/String" "coder" "B" (.int cd) U ∧ XT.Arr .byte t V U ∧ Cod cd n f V ∧ ∀ j, j < n → ¬ f j < 0 ∧ ¬ 65535 < f j
theorem Txt.mv {x t : Addr} {V : Cell} {cd : Int32} {n : Nat} {f : Nat → Int32} {U U' : State} (h : Txt x t V cd n f U) (hal : U.vm.Alike U'.vm) (hh : U'.heap = U.heap) : Txt x t V cd n f U' := ⟨h.1.mv hal hh, h.2.1.mv hal hh, h.2.2.1.mv hal hh, h.2.2.2.1.mv hal hh, h.2.2.2.2⟩
namespace Cdr
def yN : MethodName := ⟨"java/lang/String", "coder", "()B"⟩
abbrev yB : ByteArray := jdk_42_method_152_code
theorem d0 : decode yB 0 = .ok (.getstatic 38, 3) := by decide +kernel
theorem d3 : decode yB 3 = .ok (.ifCond (.eq) 10, 3) := by decide +kernel
theorem d6 : decode yB 6 = .ok (.aload_n 0, 1) := by decide +kernel
theorem d7 : decode yB 7 = .ok (.getfield 15, 3) := by decide +kernel
theorem d10 : decode yB 10 = .ok (.goto 4, 3) := by decide +kernel
theorem d14 : decode yB 14 = .ok (.ireturn, 1) := by decide +kernel
def site : List Cond := [.fieldLink "java/lang/String" 38 "java/lang/String" "COMPACT_STRINGS" "Z", .fieldLink "java/lang/String" 15 "java/lang/String" "coder" "B"]
def tab : Cond := tabOf yN yB 1 (some .byte) site
def P (x : Addr) (cd z : Int32) (args : Array Value) (s : State) : Prop := args = #[.ref x] ∧ Has x "java/lang/String" "coder" "B" (.int cd) s ∧ (cd = 0 ∨ cd = 1) ∧ StaticIs s "java/lang/String" "COMPACT_STRINGS" "Z" (.int z) ∧ ¬ z = 0
def E (cd : Int32) (r : Option Value) (s u : State) : Prop := XT.PureE (some (.int cd)) r s u
theorem law (l : Launch) (x : Addr) (cd z : Int32) : Law l yN 1 0 0 0 yB 1 (some .byte) site (P x cd z) (E cd) [] 0 0 := by
  refine Law.of_walk (plainFor_of_name (by decide +kernel)) (by decide +kernel) (by decide +kernel) (by decide) (fun _ _ h => by rw [h.1]; rfl) (fun _ U U' hal hh h => ⟨h.1, h.2.1.mv hal hh, h.2.2.1, h.2.2.2.1.there hal hh, h.2.2.2.2⟩) (fun r U U' V V' h1 hal h2 h => XT.PureE.mv r U U' V V' h1 hal h2 h) ?_
  intro p e s m args below meth c s₁ X0 hexec hbytes hml hret hlk hnm hown hh0 W hP
  obtain ⟨rfl, hx, hc, s1, hz⟩ := hP
  have c1 : Steps p.tables e below (s₁.setTop (entryFrame m #[.ref x] 1)) (s₁.setTop (mkF m 0 #[.val (.ref x)] [])) := entry rfl
  obtain ⟨T2, X2, q2, st2⟩ := X0.sget hexec hown (wk W (.fieldLink "java/lang/String" 38 "java/lang/String" "COMPACT_STRINGS" "Z")) s1 (fun _ _ h => by rw [hh0]; exact h) (g := (mkF m 0 #[.val (.ref x)] [])) rfl (hb hbytes d0)
  have hh2 := q2.trans hh0
  have c3 : Steps p.tables e below (s₁.setTop (entryFrame m #[.ref x] 1)) (T2.setTop (mkF m 7 #[.val (.ref x)] [.ref x])) := (c1.trans (st2 _ (Steps.refl _))).trans (by
    refine XS.ifNo X2.here hexec rfl (hb hbytes d3) rfl (i0_eq_f hz) ?_
    refine XS.aloadN X2.here hexec rfl (hb hbytes d6) rfl rfl ?_
    exact Steps.refl _)
  obtain ⟨T4, X4, q4, st4⟩ := X2.hget hexec hown (wk W (.fieldLink "java/lang/String" 15 "java/lang/String" "coder" "B")) (hx.mv X2.warmed.alike hh2) (g := (mkF m 7 #[.val (.ref x)] [.ref x])) rfl (rest := []) rfl (hb hbytes d7)
  have c5 : Steps p.tables e below (s₁.setTop (entryFrame m #[.ref x] 1)) (T4.setTop (mkF m 14 #[.val (.ref x)] [.int cd])) := (c3.trans (st4 _ (Steps.refl _))).trans (by
    refine XS.goto X4.here hexec rfl (pc0 := 10) rfl (hb hbytes d10) (by decide) rfl ?_
    exact Steps.refl _)
  exact ⟨T4, some (.int cd), _, _, _, X4, rfl, rfl, rfl, (fun h => by cases h), ⟨rfl, q4.trans hh2⟩, fun fs hl => c5.trans (X4.ireturnOut hexec hret (by rcases hc with rfl | rfl <;> rfl) (Or.inr (Or.inr (Or.inl rfl))) (hb hbytes d14) hl)⟩
end Cdr
namespace Len
def yN : MethodName := ⟨"java/lang/String", "length", "()I"⟩
abbrev yB : ByteArray := jdk_42_method_54_code
theorem d0 : decode yB 0 = .ok (.aload_n 0, 1) := by decide +kernel
theorem d1 : decode yB 1 = .ok (.getfield 9, 3) := by decide +kernel
theorem d4 : decode yB 4 = .ok (.arraylength, 1) := by decide +kernel
theorem d5 : decode yB 5 = .ok (.aload_n 0, 1) := by decide +kernel
theorem d6 : decode yB 6 = .ok (.invokevirtual 335, 3) := by decide +kernel
theorem d9 : decode yB 9 = .ok (.ishr, 1) := by decide +kernel
theorem d10 : decode yB 10 = .ok (.ireturn, 1) := by decide +kernel
def site : List Cond := [.fieldLink "java/lang/String" 9 "java/lang/String" "value" "[B", Cdr.tab] ++ virtW "java/lang/String" 335 "java/lang/String" Cdr.yN Cdr.yN
def tab : Cond := tabOf yN yB 1 (some .int) site
def P (x t : Addr) (V : Cell) (cd : Int32) (n : Nat) (f : Nat → Int32) (z : Int32) (args : Array Value) (s : State) : Prop := args = #[.ref x] ∧ Txt x t V cd n f s ∧ StaticIs s "java/lang/String" "COMPACT_STRINGS" "Z" (.int z) ∧ ¬ z = 0
def E (n : Nat) (r : Option Value) (s u : State) : Prop := XT.PureE (some (.int (Int32.ofNat n))) r s u
/-- length() of a String of n chars, in either coding -/
theorem law (l : Launch) (x t : Addr) (V : Cell) (cd : Int32) (n : Nat) (f : Nat → Int32) (z : Int32) : Law l yN 1 0 1 13 yB 1 (some .int) site (P x t V cd n f z) (E n) [] 0 0 := by
  refine Law.of_walk (plainFor_of_name (by decide +kernel)) (by decide +kernel) (by decide +kernel) (by decide) (fun _ _ h => by rw [h.1]; rfl) (fun _ U U' hal hh h => ⟨h.1, h.2.1.mv hal hh, h.2.2.1.there hal hh, h.2.2.2⟩) (fun r U U' V V' h1 hal h2 h => XT.PureE.mv r U U' V V' h1 hal h2 h) ?_
  intro p e s m args below meth c s₁ X0 hexec hbytes hml hret hlk hnm hown hh0 W hP
  obtain ⟨rfl, hx, s1, hz⟩ := hP
  have v31 := hx.2.2.2.1.2.2.2
  have c1 : Steps p.tables e below (s₁.setTop (entryFrame m #[.ref x] 1)) (s₁.setTop (mkF m 1 #[.val (.ref x)] [.ref x])) := Steps.trans (entry rfl) (by
    show Steps p.tables e below (s₁.setTop (mkF m 0 #[.val (.ref x)] [])) _
    refine XS.aloadN X0.here hexec rfl (hb hbytes d0) rfl rfl ?_
    exact Steps.refl _)
  obtain ⟨T2, X2, q2, st2⟩ := X0.hget hexec hown (wk W (.fieldLink "java/lang/String" 9 "java/lang/String" "value" "[B")) (hx.mv X0.warmed.alike hh0).2.1 (g := (mkF m 1 #[.val (.ref x)] [.ref x])) rfl (rest := []) rfl (hb hbytes d1)
  have hh2 := q2.trans hh0
  have hx2 := hx.mv X2.warmed.alike hh2
  have c3 : Steps p.tables e below (s₁.setTop (entryFrame m #[.ref x] 1)) (T2.setTop (mkF m 6 #[.val (.ref x)] [.ref x, .int (Int32.ofNat V.slots.size)])) := (c1.trans (st2 _ (Steps.refl _))).trans (by
    refine X2.alen hexec hx2.2.2.2.1 rfl rfl (hb hbytes d4) ?_
    refine XS.aloadN X2.here hexec rfl (hb hbytes d5) rfl rfl ?_
    exact Steps.refl _)
  obtain ⟨v4, T4, X4, E4, g4⟩ := X2.callV hexec (Cdr.law l x cd z) hown (wks W (virtW "java/lang/String" 335 "java/lang/String" Cdr.yN Cdr.yN)) rfl (by decide) (wk W Cdr.tab) (W := 1) (Nat.le_of_ble_eq_true rfl) (Nat.le_of_ble_eq_true rfl) (Nat.le_refl _) (Nat.le_refl _) (hx2.1.fc X2.warmed.alike) hx2.1.is (g := (mkF m 6 #[.val (.ref x)] [.ref x, .int (Int32.ofNat V.slots.size)])) rfl (by rw [hml]; rfl) c3 (argsL := []) (rest := [.int (Int32.ofNat V.slots.size)]) rfl rfl (by show 2 * 0 + (1 + 0) ≤ _; decide) (hb hbytes d6) (⟨rfl, hx2.2.2.1, hx.2.2.2.2.1.cd, s1.there X2.warmed.alike hh2, hz⟩)
  obtain ⟨rfl, q4⟩ := E4
  have c5 : Steps p.tables e below (s₁.setTop (entryFrame m #[.ref x] 1)) (T4.setTop (mkF m 10 #[.val (.ref x)] [.int (Int32.ofNat V.slots.size >>> (cd &&& 31))])) := Steps.trans g4 (by
    refine ishr X4.here hexec rfl (hb hbytes d9) rfl ?_
    exact Steps.refl _)
  rw [hx.2.2.2.2.1.len v31] at c5
  exact ⟨T4, some (.int (Int32.ofNat n)), _, _, _, X4, rfl, rfl, rfl, (fun h => by cases h), ⟨rfl, q4.trans hh2⟩, fun fs hl => c5.trans (X4.ireturnOut hexec hret rfl (Or.inl rfl) (hb hbytes d10) hl)⟩
theorem pays {l : Launch} {R : Room} {p : Program} {e : Env} {below : List Frame} {s : State} {sargs : Array Value} {len W : Nat} (x t : Addr) (V : Cell) (cd : Int32) (n : Nat) (f : Nat → Int32) (z : Int32) (htab : tab.before sargs s = true) (hfr : 2 ≤ R.frames) (hlo : W + 25 ≤ R.locals) :
    Back l R p e below s sargs yN len W (fun A₁ a₁ => A₁.cells + 0 ≤ R.cells ∧ A₁.slots + 0 ≤ R.slots ∧ P x t V cd n f z a₁ A₁.U) (fun A₁ _ v₁ B₁ => E n v₁ A₁.U B₁.U ∧ B₁.locs = A₁.locs ++ [] ∧ B₁.cells = A₁.cells + 0 ∧ B₁.slots = A₁.slots + 0) :=
  (law l x t V cd n f z).pays htab hfr (by omega)
end Len
namespace IsL
def yN : MethodName := ⟨"java/lang/String", "isLatin1", "()Z"⟩
abbrev yB : ByteArray := jdk_42_method_154_code
theorem d0 : decode yB 0 = .ok (.getstatic 38, 3) := by decide +kernel
theorem d3 : decode yB 3 = .ok (.ifCond (.eq) 14, 3) := by decide +kernel
theorem d6 : decode yB 6 = .ok (.aload_n 0, 1) := by decide +kernel
theorem d7 : decode yB 7 = .ok (.getfield 15, 3) := by decide +kernel
theorem d10 : decode yB 10 = .ok (.ifCond (.ne) 7, 3) := by decide +kernel
theorem d13 : decode yB 13 = .ok (.iconst 1, 1) := by decide +kernel
theorem d14 : decode yB 14 = .ok (.goto 4, 3) := by decide +kernel
theorem d17 : decode yB 17 = .ok (.iconst 0, 1) := by decide +kernel
theorem d18 : decode yB 18 = .ok (.ireturn, 1) := by decide +kernel
def site : List Cond := [.fieldLink "java/lang/String" 38 "java/lang/String" "COMPACT_STRINGS" "Z", .fieldLink "java/lang/String" 15 "java/lang/String" "coder" "B"]
def tab : Cond := tabOf yN yB 1 (some .boolean) site
def P (x : Addr) (cd z : Int32) (args : Array Value) (s : State) : Prop := args = #[.ref x] ∧ Has x "java/lang/String" "coder" "B" (.int cd) s ∧ (cd = 0 ∨ cd = 1) ∧ StaticIs s "java/lang/String" "COMPACT_STRINGS" "Z" (.int z) ∧ ¬ z = 0
def E (cd : Int32) (r : Option Value) (s u : State) : Prop := XT.PureE (some (.int (1 - cd))) r s u
theorem law (l : Launch) (x : Addr) (cd z : Int32) : Law l yN 1 0 0 0 yB 1 (some .boolean) site (P x cd z) (E cd) [] 0 0 := by
  refine Law.of_walk (plainFor_of_name (by decide +kernel)) (by decide +kernel) (by decide +kernel) (by decide) (fun _ _ h => by rw [h.1]; rfl) (fun _ U U' hal hh h => ⟨h.1, h.2.1.mv hal hh, h.2.2.1, h.2.2.2.1.there hal hh, h.2.2.2.2⟩) (fun r U U' V V' h1 hal h2 h => XT.PureE.mv r U U' V V' h1 hal h2 h) ?_
  intro p e s m args below meth c s₁ X0 hexec hbytes hml hret hlk hnm hown hh0 W hP
  obtain ⟨rfl, hx, hc, s1, hz⟩ := hP
  have c1 : Steps p.tables e below (s₁.setTop (entryFrame m #[.ref x] 1)) (s₁.setTop (mkF m 0 #[.val (.ref x)] [])) := entry rfl
  obtain ⟨T2, X2, q2, st2⟩ := X0.sget hexec hown (wk W (.fieldLink "java/lang/String" 38 "java/lang/String" "COMPACT_STRINGS" "Z")) s1 (fun _ _ h => by rw [hh0]; exact h) (g := (mkF m 0 #[.val (.ref x)] [])) rfl (hb hbytes d0)
  have hh2 := q2.trans hh0
  have c3 : Steps p.tables e below (s₁.setTop (entryFrame m #[.ref x] 1)) (T2.setTop (mkF m 7 #[.val (.ref x)] [.ref x])) := (c1.trans (st2 _ (Steps.refl _))).trans (by
    refine XS.ifNo X2.here hexec rfl (hb hbytes d3) rfl (i0_eq_f hz) ?_
    refine XS.aloadN X2.here hexec rfl (hb hbytes d6) rfl rfl ?_
    exact Steps.refl _)
  obtain ⟨T4, X4, q4, st4⟩ := X2.hget hexec hown (wk W (.fieldLink "java/lang/String" 15 "java/lang/String" "coder" "B")) (hx.mv X2.warmed.alike hh2) (g := (mkF m 7 #[.val (.ref x)] [.ref x])) rfl (rest := []) rfl (hb hbytes d7)
  have c5 : Steps p.tables e below (s₁.setTop (entryFrame m #[.ref x] 1)) (T4.setTop (mkF m 10 #[.val (.ref x)] [.int cd])) := c3.trans (st4 _ (Steps.refl _))
  have c6 : Steps p.tables e below (s₁.setTop (entryFrame m #[.ref x] 1)) (T4.setTop (mkF m 18 #[.val (.ref x)] [.int (1 - cd)])) := by
    rcases hc with rfl | rfl
    · exact c5.trans (by
        refine XS.ifNo X4.here hexec rfl (hb hbytes d10) rfl (i0_ne_f rfl) ?_
        refine iconstV X4.here hexec rfl 1 (hb hbytes d13) (by decide) ?_
        refine XS.goto X4.here hexec rfl (pc0 := 14) rfl (hb hbytes d14) (by decide) rfl ?_
        exact Steps.refl _)
    · exact c5.trans (by
        refine XS.ifYes X4.here hexec rfl (pc0 := 10) rfl (hb hbytes d10) rfl (i0_ne_t (by decide)) (by decide) rfl ?_
        refine iconstV X4.here hexec rfl 0 (hb hbytes d17) (by decide) ?_
        exact Steps.refl _)
  exact ⟨T4, some (.int (1 - cd)), _, _, _, X4, rfl, rfl, rfl, (fun h => by cases h), ⟨rfl, q4.trans hh2⟩, fun fs hl => c6.trans (X4.ireturnOut hexec hret (by rcases hc with rfl | rfl <;> rfl) (Or.inr (Or.inl rfl)) (hb hbytes d18) hl)⟩
end IsL
namespace LChA
def yN : MethodName := ⟨"java/lang/StringLatin1", "charAt", "([BI)C"⟩
abbrev yB : ByteArray := jdk_43_method_2_code
theorem d0 : decode yB 0 = .ok (.iload_n 1, 1) := by decide +kernel
theorem d1 : decode yB 1 = .ok (.aload_n 0, 1) := by decide +kernel
theorem d2 : decode yB 2 = .ok (.arraylength, 1) := by decide +kernel
theorem d3 : decode yB 3 = .ok (.invokestatic 9, 3) := by decide +kernel
theorem d6 : decode yB 6 = .ok (.aload_n 0, 1) := by decide +kernel
theorem d7 : decode yB 7 = .ok (.iload_n 1, 1) := by decide +kernel
theorem d8 : decode yB 8 = .ok (.baload, 1) := by decide +kernel
theorem d9 : decode yB 9 = .ok (.sipush 255, 3) := by decide +kernel
theorem d12 : decode yB 12 = .ok (.iand, 1) := by decide +kernel
theorem d13 : decode yB 13 = .ok (.i2c, 1) := by decide +kernel
theorem d14 : decode yB 14 = .ok (.ireturn, 1) := by decide +kernel
def site : List Cond := [JO.Str_checkIndex.tab] ++ staticW "java/lang/StringLatin1" 9 JO.Str_checkIndex.yN
def tab : Cond := tabOf yN yB 2 (some .char) site
def P (t : Addr) (V : Cell) (i : Nat) (u : Int32) (fm : Value) (args : Array Value) (s : State) : Prop := args = #[.ref t, .int (Int32.ofNat i)] ∧ XT.Arr .byte t V s ∧ V.slots[i]? = some (.int u) ∧ (StaticIs s "jdk/internal/util/Preconditions" "SIOOBE_FORMATTER" "Ljava/util/function/BiFunction;" fm ∧ fm.isRef = true)
def E (u : Int32) (r : Option Value) (s w : State) : Prop := XT.PureE (some (.int (chr8 u))) r s w
theorem law (l : Launch) (t : Addr) (V : Cell) (i : Nat) (u : Int32) (fm : Value) : Law l yN 2 2 2 27 yB 2 (some .char) site (P t V i u fm) (E u) [] 0 0 := by
  refine Law.of_walk (plainFor_of_name (by decide +kernel)) (by decide +kernel) (by decide +kernel) (by decide) (fun _ _ h => by rw [h.1]; rfl) (fun _ U U' hal hh h => ⟨h.1, h.2.1.mv hal hh, h.2.2.1, h.2.2.2.1.there hal hh, h.2.2.2.2⟩) (fun r U U' V V' h1 hal h2 h => XT.PureE.mv r U U' V V' h1 hal h2 h) ?_
  intro p e s m args below meth c s₁ X0 hexec hbytes hml hret hlk hnm hown hh0 W hP
  obtain ⟨rfl, hV, hu, s1, rf⟩ := hP
  have v31 := hV.2.2.2
  have hi : i < V.slots.size := (Array.getElem?_eq_some_iff.mp hu).1
  have c1 : Steps p.tables e below (s₁.setTop (entryFrame m #[.ref t, .int (Int32.ofNat i)] 2)) (s₁.setTop (mkF m 0 #[.val (.ref t), .val (.int (Int32.ofNat i))] [])) := entry rfl
  have c2 : Steps p.tables e below (s₁.setTop (entryFrame m #[.ref t, .int (Int32.ofNat i)] 2)) (s₁.setTop (mkF m 3 #[.val (.ref t), .val (.int (Int32.ofNat i))] [.int (Int32.ofNat V.slots.size), .int (Int32.ofNat i)])) := c1.trans (by
    refine XS.iloadN X0.here hexec rfl (hb hbytes d0) rfl ?_
    refine XS.aloadN X0.here hexec rfl (hb hbytes d1) rfl rfl ?_
    refine X0.alen hexec (hV.mv X0.warmed.alike hh0) rfl rfl (hb hbytes d2) ?_
    exact Steps.refl _)
  obtain ⟨v3, T3, X3, E3, g3⟩ := X0.callS hexec (JO.Str_checkIndex.law l (Int32.ofNat i) (Int32.ofNat V.slots.size) fm) hown (wks W (staticW "java/lang/StringLatin1" 9 JO.Str_checkIndex.yN)) (wk W JO.Str_checkIndex.tab) (W := 0) (Nat.le_of_ble_eq_true rfl) (Nat.le_of_ble_eq_true rfl) (Nat.le_refl _) (Nat.le_refl _) (g := (mkF m 3 #[.val (.ref t), .val (.int (Int32.ofNat i))] [.int (Int32.ofNat V.slots.size), .int (Int32.ofNat i)])) rfl (by rw [hml]; rfl) c2 (argsL := [.int (Int32.ofNat i), .int (Int32.ofNat V.slots.size)]) (rest := []) rfl rfl (by show 2 * 0 + 0 ≤ _; decide) (hb hbytes d3) (⟨rfl, rf, s1.there X0.warmed.alike hh0, Int32.ofNat_not_neg (by omega), lt32 v31 hi⟩)
  obtain ⟨rfl, q3⟩ := E3
  have hh3 := q3.trans hh0
  have c4 : Steps p.tables e below (s₁.setTop (entryFrame m #[.ref t, .int (Int32.ofNat i)] 2)) (T3.setTop (mkF m 14 #[.val (.ref t), .val (.int (Int32.ofNat i))] [.int (chr8 u)])) := Steps.trans g3 (by
    refine XS.aloadN X3.here hexec rfl (hb hbytes d6) rfl rfl ?_
    refine XS.iloadN X3.here hexec rfl (hb hbytes d7) rfl ?_
    refine X3.aget hexec (hV.mv X3.warmed.alike hh3) rfl hu rfl rfl (hb hbytes d8) ?_
    refine sipushV X3.here hexec rfl 255 (hb hbytes d9) (by decide) ?_
    refine XS.iand X3.here hexec rfl (hb hbytes d12) rfl ?_
    refine i2c X3.here hexec rfl (hb hbytes d13) rfl ?_
    exact Steps.refl _)
  exact ⟨T3, some (.int (chr8 u)), _, _, _, X3, rfl, rfl, rfl, (fun h => by cases h), ⟨rfl, hh3⟩, fun fs hl => c4.trans (X3.ireturnOut hexec hret (narrow_c _) (Or.inr (Or.inr (Or.inr (Or.inl rfl)))) (hb hbytes d14) hl)⟩
end LChA
end StrChars
namespace StrChars.Road
open Jvm Sem ClassFile Op Lib Jvm.Stand Jvm.Free Jvm.Free.XT
open Jvm.Lib.Cold (StaticIs)
theorem consq {a : Array Value} {s : State} {c : Jvm.Cond} {L : List Jvm.Cond} (h0 : c.before a s = true) (h : ∀ w ∈ L, w.before a s = true) : ∀ w ∈ c :: L, w.before a s = true := fun w hw => (List.mem_cons.mp hw).elim (fun e => e ▸ h0) (h w)
/-- the words of String.length(), either coding -/
abbrev wordsLen : List Jvm.Cond := [.code Len.yN Len.yB 1 (some .int), .initialized ST, .fieldLink ST 9 ST "value" "[B", .fieldLink ST 38 ST "COMPACT_STRINGS" "Z", .fieldLink ST 15 ST "coder" "B", .code Cdr.yN Cdr.yB 1 (some .byte), .methodLink ST 335 Cdr.yN, .declares Cdr.yN, .selects ST Cdr.yN Cdr.yN, .instanceMethod Cdr.yN]
theorem tabLen_of {a : Array Value} {s : State} (h : ∀ w ∈ wordsLen, w.before a s = true) : Len.tab.before a s = true := by
  have hc : Cdr.tab.before a s = true := unparts (wk h (.code Cdr.yN Cdr.yB 1 (some .byte))) (wks h (.initialized Cdr.yN.cls :: Cdr.site))
  have q := consq hc h
  exact unparts (wk q (.code Len.yN Len.yB 1 (some .int))) (wks q (.initialized Len.yN.cls :: Len.site))
theorem movedLen {Z s : State} {a0 args : Array Value} (hZ : Z.Warmed39 s.vm) (hw : ∀ d ∈ wordsLen, d.before a0 Z = true) : ∀ d ∈ wordsLen, d.before args s = true := fun d hd => by
  have q := hw d hd
  have t : ∀ d ∈ wordsLen, d = .arrayClass .byte ∨ (d.onTables && d.keepsFace) = true := by decide +kernel
  rcases t d hd with rfl | t
  · exact RoadKit.mvA hZ q
  · exact RoadKit.mv hZ q t
/-- the bytes of the chars cs, low before high -/
def wideBytes : List Int32 → List Value
  | [] => []
  | c :: cs => .int (lo8 c) :: .int (hi8 c) :: wideBytes cs
theorem wide_lo (d : Value) : ∀ (cs : List Int32) (j : Nat), j < cs.length → (wideBytes cs).getD (2 * j) d = .int (lo8 (cs.getD j 0))
  | [], j, h => absurd h (Nat.not_lt_zero j)
  | c :: cs, 0, _ => rfl
  | c :: cs, j + 1, h => by
    have q := wide_lo d cs j (by simpa using h)
    rw [show 2 * (j + 1) = 2 * j + 1 + 1 from by omega]
    simpa [wideBytes] using q
theorem wide_hi (d : Value) : ∀ (cs : List Int32) (j : Nat), j < cs.length → (wideBytes cs).getD (2 * j + 1) d = .int (hi8 (cs.getD j 0))
  | [], j, h => absurd h (Nat.not_lt_zero j)
  | c :: cs, 0, _ => rfl
  | c :: cs, j + 1, h => by
    have q := wide_hi d cs j (by simpa using h)
    rw [show 2 * (j + 1) + 1 = 2 * j + 1 + 1 + 1 from by omega]
    simpa [wideBytes] using q
theorem low_at (d : Value) (cs : List Int32) (j : Nat) (h : j < cs.length) : (cs.map fun c => Value.int (lo8 c)).getD j d = .int (lo8 (cs.getD j 0)) := by
  simp [List.getD_eq_getElem?_getD, h]
/-- an array of N2 bytes vs codes the chars cs by the coder cd -/
def CodA (cs : List Int32) (cd N2 : Int32) (vs : List Value) : Prop := (cd = 0 ∧ N2 = Int32.ofNat cs.length ∧ vs = (cs.map fun c => Value.int (lo8 c)) ∧ ∀ c ∈ cs, ¬ 255 < c) ∨ (cd = 1 ∧ N2 = Int32.ofNat (2 * cs.length) ∧ vs = wideBytes cs ∧ ∃ c ∈ cs, 255 < c)
theorem CodA.cod {cs : List Int32} {cd N2 : Int32} {vs : List Value} {V : Cell} (h : CodA cs cd N2 vs) (hn : 2 * cs.length < 2 ^ 31) (hs : V.slots.size = N2.toNatClampNeg) (hv : RoadKit.Has V vs (.int 0)) : Cod cd cs.length (fun j => cs.getD j 0) V := by
  rcases h with ⟨rfl, rfl, rfl, h⟩ | ⟨rfl, rfl, rfl, c, hc, hw⟩
  · rw [n32 (by omega)] at hs
    exact Or.inl ⟨rfl, hs, fun j hj => ⟨by rw [hv j (by omega), low_at _ _ _ hj], by
      have e : cs.getD j 0 = cs[j] := by simp [List.getD_eq_getElem?_getD, hj]
      show ¬ 255 < cs.getD j 0
      rw [e]; exact h _ (List.getElem_mem _)⟩⟩
  · rw [n32 (by omega)] at hs
    obtain ⟨j, hj, rfl⟩ := List.getElem_of_mem hc
    exact Or.inr ⟨rfl, hs, fun j hj => ⟨by rw [hv _ (by omega), wide_lo _ _ _ hj], by rw [hv _ (by omega), wide_hi _ _ _ hj]⟩, j, hj, by
      have e : cs.getD j 0 = cs[j] := by simp [List.getD_eq_getElem?_getD, hj]
      show 255 < cs.getD j 0
      rw [e]; exact hw⟩
/-- an object of exactly java/lang/String, its two fields found: as the laws ask it -/
theorem strObj {Z U : State} {a0 : Array Value} {kI : Nat} (wi : (Jvm.Cond.instantiable ST kI).before a0 Z = true) (al : Z.vm.Alike U.vm) {x : Addr} {v0 c0 : Value} (E : RoadKit.Exa Z U.heap x ST) (V : RoadKit.Fld Z U.heap x ST "value" "[B" v0) (C : RoadKit.Fld Z U.heap x ST "coder" "B" c0) :
    ∃ (D : Cell) (fV fC : Field), Blank ST x D U ∧ Found ST "value" "[B" fV U ∧ Found ST "coder" "B" fC U ∧ D.slots[fV.slot]? = some v0 ∧ D.slots[fC.slot]? = some c0 ∧ RoadKit.slotOf Z ST "value" "[B" = fV.slot ∧ RoadKit.slotOf Z ST "coder" "B" = fC.slot := by
  obtain ⟨D, cfV, kV, iV, fV, hD, gV, stV, knV, obV, asV, slV⟩ := V
  obtain ⟨D', cfC, kC, iC, fC, hD', gC, stC, -, -, asC, slC⟩ := C
  cases hD.symm.trans hD'
  obtain ⟨D2, kD, e1, e2, e3, e4, e5⟩ := E
  cases hD.symm.trans e1
  obtain ⟨c2, k2, i1, i2, i3, -⟩ := Cond.instantiable_spec wi
  cases e2.symm.trans i1
  cases e3.symm.trans i2
  obtain ⟨kU, u1, u2⟩ := al.2.2 _ _ e3
  exact ⟨D, fV, fC, ⟨hD, ⟨knV, fun q hq => by rw [hq] at obV; cases obV⟩, by rw [al.findClass]; exact e2, kU, u1, by rw [u2]; exact i3, by rw [u2]; exact e5 i3⟩, ⟨SBG.found_only al ⟨cfV, kV, iV, gV⟩, stV⟩, ⟨SBG.found_only al ⟨cfC, kC, iC, gC⟩, stC⟩, slV, slC, by simp [RoadKit.slotOf, gV], by simp [RoadKit.slotOf, gC]⟩
theorem sta_is {Z U : State} (al : Z.vm.Alike U.vm) {C n d : String} {v : Value} (S : RoadKit.Sta Z U.heap C n d v) : StaticIs U C n d v := by
  obtain ⟨cfS, iS, kS, fS, st, cS, t1, t2, t3, t4, t5, t6, t7⟩ := S
  exact StaticIs.there (s := { Z with heap := U.heap }) ⟨cfS, iS, kS, fS, st, cS, t1, t2, t3, t4, t5, (fun q => by rw [q] at t6; cases t6), t7⟩ al rfl
/-- **length() OF SUCH A STRING** -/
theorem lenW {p : Program} {l : Launch} {e : Env} {R : Room} {s : State} {args : Array Value} {below : List Frame} {len W : Nat} {Z : State} {a0 : Array Value} {h : Heap} (hZ : Z.Warmed39 s.vm) (hw : ∀ d ∈ wordsLen, d.before a0 Z = true) {kI : Nat} (wi : (Jvm.Cond.instantiable ST kI).before a0 Z = true)
    {x t : Addr} {kb : ClassId} {cs : List Int32} {cd N2 z : Int32} {vs : List Value} (E : RoadKit.Exa Z h x ST) (V : RoadKit.Fld Z h x ST "value" "[B" (.ref t)) (C : RoadKit.Fld Z h x ST "coder" "B" (.int cd)) (K : RoadKit.Arv Z h t kb .byte N2 vs (.int 0)) (hc : CodA cs cd N2 vs) (hb : ∀ c ∈ cs, ¬ c < 0 ∧ ¬ (65535 : Int32) < c)
    (S : RoadKit.Sta Z h ST "COMPACT_STRINGS" "Z" (.int z)) (hz : ¬ z = 0) (l2 : cs.length ≤ 4000) (hfr : 2 ≤ R.frames) (hlo : W + 25 ≤ R.locals) :
    Back l R p e below s args (⟨"java/lang/String", "length", "()I"⟩ : MethodName) len W (fun P a => a = #[.ref x] ∧ P.U.heap = h ∧ P.cells + 0 ≤ R.cells ∧ P.slots + 0 ≤ R.slots)
      (fun P _ v B => ∃ L, (v = some (.int (Int32.ofNat cs.length)) ∧ L = [] ∧ B.U.heap = h) ∧ B.locs = P.locs ++ L ∧ B.cells = P.cells + 0 ∧ B.slots = P.slots + 0) := by
  obtain ⟨A, K1, K2, K3, K4, K5, K6⟩ := K
  have hcod := hc.cod (by omega) K3 K5
  intro m meth c P g ig mk a X hg hsize hdg hW hn hp'
  obtain ⟨rfl, rfl, r1, r2⟩ := hp'
  have al : Z.vm.Alike P.U.vm := hZ.alike.trans X.warmed.alike
  obtain ⟨D, fV, fC, hB, F1, F2, g1, g2, -, -⟩ := strObj wi al E V C
  have hx : Txt x t A cd cs.length (fun j => cs.getD j 0) P.U := ⟨⟨_, hB.2.2.1, D, hB.1, rfl, by cases q : D.vm <;> first | rfl | exact absurd q (hB.2.1.2 _)⟩, Has.of hB F1 g1, Has.of hB F2 g2, ⟨K1.1, State.isArrayOf_alike al K1.2.1, K1.2.2, by rcases hcod with ⟨-, q, -⟩ | ⟨-, q, -⟩ <;> omega⟩, hcod, fun j hj => by
    have e : cs.getD j 0 = cs[j] := by simp [List.getD_eq_getElem?_getD, hj]
    show ¬ cs.getD j 0 < 0 ∧ ¬ 65535 < cs.getD j 0
    rw [e]; exact hb _ (List.getElem_mem _)⟩
  obtain ⟨v, B, X', ⟨⟨hv, hh⟩, hl, hk, hs⟩, st⟩ := Len.pays x t A cd cs.length (fun j => cs.getD j 0) z (tabLen_of (movedLen hZ hw)) hfr hlo m meth c P g ig mk _ X hg hsize hdg hW hn ⟨r1, r2, rfl, hx, sta_is al S, hz⟩
  exact ⟨v, B, X', ⟨[], ⟨hv, rfl, hh⟩, hl, hk, hs⟩, st⟩
end StrChars.Road
namespace StrChars.Road
open Jvm Sem ClassFile Op Lib Jvm.Stand Jvm.Free Jvm.Free.XT
open Jvm.Lib.Cold (StaticIs)
/-- the road's facts of a String, as the laws ask it -/
theorem txt_of {Z U : State} {a0 : Array Value} {kI : Nat} (wi : (Jvm.Cond.instantiable ST kI).before a0 Z = true) (al : Z.vm.Alike U.vm) {x t : Addr} {kb : ClassId} {cs : List Int32} {cd N2 : Int32} {vs : List Value} (E : RoadKit.Exa Z U.heap x ST) (V : RoadKit.Fld Z U.heap x ST "value" "[B" (.ref t)) (C : RoadKit.Fld Z U.heap x ST "coder" "B" (.int cd)) (K : RoadKit.Arv Z U.heap t kb .byte N2 vs (.int 0)) (hc : CodA cs cd N2 vs) (hb : ∀ c ∈ cs, ¬ c < 0 ∧ ¬ (65535 : Int32) < c) (l2 : cs.length ≤ 4000) :
    ∃ A, Txt x t A cd cs.length (fun j => cs.getD j 0) U := by
  obtain ⟨A, K1, K2, K3, K4, K5, K6⟩ := K
  have hcod := hc.cod (by omega) K3 K5
  obtain ⟨D, fV, fC, hB, F1, F2, g1, g2, -, -⟩ := strObj wi al E V C
  exact ⟨A, ⟨_, hB.2.2.1, D, hB.1, rfl, by cases q : D.vm <;> first | rfl | exact absurd q (hB.2.1.2 _)⟩, Has.of hB F1 g1, Has.of hB F2 g2, ⟨K1.1, State.isArrayOf_alike al K1.2.1, K1.2.2, by rcases hcod with ⟨-, q, -⟩ | ⟨-, q, -⟩ <;> omega⟩, hcod, fun j hj => by
    have e : cs.getD j 0 = cs[j] := by simp [List.getD_eq_getElem?_getD, hj]
    show ¬ cs.getD j 0 < 0 ∧ ¬ 65535 < cs.getD j 0
    rw [e]; exact hb _ (List.getElem_mem _)⟩
end StrChars.Road
namespace StrChars
open Jvm Sem ClassFile Op Lib Jvm.Stand Jvm.Free.XT Jvm.Free.ALB Jvm.Free.JM Jvm.Free
open Jvm.Lib.Cold (StaticIs)
namespace ChN
def yN : MethodName := ⟨"java/lang/String", "charAt", "(I)C"⟩
abbrev yB : ByteArray := jdk_42_method_56_code
theorem d0 : decode yB 0 = .ok (.aload_n 0, 1) := by decide +kernel
theorem d1 : decode yB 1 = .ok (.invokevirtual 492, 3) := by decide +kernel
theorem d4 : decode yB 4 = .ok (.ifCond (.eq) 12, 3) := by decide +kernel
theorem d7 : decode yB 7 = .ok (.aload_n 0, 1) := by decide +kernel
theorem d8 : decode yB 8 = .ok (.getfield 9, 3) := by decide +kernel
theorem d11 : decode yB 11 = .ok (.iload_n 1, 1) := by decide +kernel
theorem d12 : decode yB 12 = .ok (.invokestatic 495, 3) := by decide +kernel
theorem d15 : decode yB 15 = .ok (.ireturn, 1) := by decide +kernel
def site : List Cond := [.fieldLink "java/lang/String" 9 "java/lang/String" "value" "[B", IsL.tab, LChA.tab] ++ virtW "java/lang/String" 492 "java/lang/String" IsL.yN IsL.yN ++ staticW "java/lang/String" 495 LChA.yN
def tab : Cond := tabOf yN yB 2 (some .char) site
def P (x t : Addr) (V : Cell) (n : Nat) (f : Nat → Int32) (z : Int32) (fm : Value) (i : Nat) (args : Array Value) (s : State) : Prop := args = #[.ref x, .int (Int32.ofNat i)] ∧ Txt x t V 0 n f s ∧ i < n ∧ StaticIs s "java/lang/String" "COMPACT_STRINGS" "Z" (.int z) ∧ ¬ z = 0 ∧ StaticIs s "jdk/internal/util/Preconditions" "SIOOBE_FORMATTER" "Ljava/util/function/BiFunction;" fm ∧ fm.isRef = true
def E (f : Nat → Int32) (i : Nat) (r : Option Value) (s u : State) : Prop := XT.PureE (some (.int (f i))) r s u
/-- charAt(i) of a Latin-1 String of n chars, i < n: f i -/
theorem law (l : Launch) (x t : Addr) (V : Cell) (n : Nat) (f : Nat → Int32) (z : Int32) (fm : Value) (i : Nat) : Law l yN 2 1 3 40 yB 2 (some .char) site (P x t V n f z fm i) (E f i) [] 0 0 := by
  refine Law.of_walk (plainFor_of_name (by decide +kernel)) (by decide +kernel) (by decide +kernel) (by decide) (fun _ _ h => by rw [h.1]; rfl) (fun _ U U' hal hh h => ⟨h.1, h.2.1.mv hal hh, h.2.2.1, h.2.2.2.1.there hal hh, h.2.2.2.2.1, h.2.2.2.2.2.1.there hal hh, h.2.2.2.2.2.2⟩) (fun r U U' V V' h1 hal h2 h => XT.PureE.mv r U U' V V' h1 hal h2 h) ?_
  intro p e s m args below meth c s₁ X0 hexec hbytes hml hret hlk hnm hown hh0 W hP
  obtain ⟨rfl, hx, hi, s1, hz, s3, rf⟩ := hP
  have v31 := hx.2.2.2.1.2.2.2
  have hr := hx.2.2.2.2.2 i hi
  have hx0 := hx.mv X0.warmed.alike hh0
  have c1 : Steps p.tables e below (s₁.setTop (entryFrame m #[.ref x, .int (Int32.ofNat i)] 2)) (s₁.setTop (mkF m 1 #[.val (.ref x), .val (.int (Int32.ofNat i))] [.ref x])) := Steps.trans (entry rfl) (by
    show Steps p.tables e below (s₁.setTop (mkF m 0 #[.val (.ref x), .val (.int (Int32.ofNat i))] [])) _
    refine XS.aloadN X0.here hexec rfl (hb hbytes d0) rfl rfl ?_
    exact Steps.refl _)
  obtain ⟨v2, T2, X2, E2, g2⟩ := X0.callV hexec (IsL.law l x 0 z) hown (wks W (virtW "java/lang/String" 492 "java/lang/String" IsL.yN IsL.yN)) rfl (by decide) (wk W IsL.tab) (W := 0) (Nat.le_of_ble_eq_true rfl) (Nat.le_of_ble_eq_true rfl) (Nat.le_refl _) (Nat.le_refl _) (hx0.1.fc X0.warmed.alike) hx0.1.is (g := (mkF m 1 #[.val (.ref x), .val (.int (Int32.ofNat i))] [.ref x])) rfl (by rw [hml]; rfl) c1 (argsL := []) (rest := []) rfl rfl (by show 2 * 0 + 0 ≤ _; decide) (hb hbytes d1) (⟨rfl, hx0.2.2.1, hx.2.2.2.2.1.cd, s1.there X0.warmed.alike hh0, hz⟩)
  obtain ⟨rfl, q2⟩ := E2
  have hh2 := q2.trans hh0
  have hx2 := hx.mv X2.warmed.alike hh2
  obtain ⟨-, k1, k2⟩ | ⟨k0, -⟩ := hx.2.2.2.2.1
  · have c3 : Steps p.tables e below (s₁.setTop (entryFrame m #[.ref x, .int (Int32.ofNat i)] 2)) (T2.setTop (mkF m 8 #[.val (.ref x), .val (.int (Int32.ofNat i))] [.ref x])) := Steps.trans g2 (by
      refine XS.ifNo X2.here hexec rfl (hb hbytes d4) rfl (i0_eq_f (by decide)) ?_
      refine XS.aloadN X2.here hexec rfl (hb hbytes d7) rfl rfl ?_
      exact Steps.refl _)
    obtain ⟨T4, X4, q4, st4⟩ := X2.hget hexec hown (wk W (.fieldLink "java/lang/String" 9 "java/lang/String" "value" "[B")) hx2.2.1 (g := (mkF m 8 #[.val (.ref x), .val (.int (Int32.ofNat i))] [.ref x])) rfl (rest := []) rfl (hb hbytes d8)
    have hh4 := q4.trans hh2
    have c5 : Steps p.tables e below (s₁.setTop (entryFrame m #[.ref x, .int (Int32.ofNat i)] 2)) (T4.setTop (mkF m 12 #[.val (.ref x), .val (.int (Int32.ofNat i))] [.int (Int32.ofNat i), .ref t])) := (c3.trans (st4 _ (Steps.refl _))).trans (by
      refine XS.iloadN X4.here hexec rfl (hb hbytes d11) rfl ?_
      exact Steps.refl _)
    obtain ⟨v6, T6, X6, E6, g6⟩ := X4.callS hexec (LChA.law l t V i (lo8 (f i)) fm) hown (wks W (staticW "java/lang/String" 495 LChA.yN)) (wk W LChA.tab) (W := 0) (Nat.le_of_ble_eq_true rfl) (Nat.le_of_ble_eq_true rfl) (Nat.le_refl _) (Nat.le_refl _) (g := (mkF m 12 #[.val (.ref x), .val (.int (Int32.ofNat i))] [.int (Int32.ofNat i), .ref t])) rfl (by rw [hml]; rfl) c5 (argsL := [.ref t, .int (Int32.ofNat i)]) (rest := []) rfl rfl (by show 2 * 0 + 0 ≤ _; decide) (hb hbytes d12) (⟨rfl, hx.2.2.2.1.mv X4.warmed.alike hh4, (k2 i hi).1, s3.there X4.warmed.alike hh4, rf⟩)
    obtain ⟨rfl, q6⟩ := E6
    rw [chr8_lo8 hr.1 (k2 i hi).2] at g6
    exact ⟨T6, some (.int (f i)), _, _, _, X6, rfl, rfl, rfl, (fun h => by cases h), ⟨rfl, q6.trans hh4⟩, fun fs hl => Steps.trans g6 (X6.ireturnOut hexec hret (narrow_ch hr.1 hr.2) (Or.inr (Or.inr (Or.inr (Or.inl rfl)))) (hb hbytes d15) hl)⟩
  · exact absurd k0 (by decide)
theorem pays {l : Launch} {R : Room} {p : Program} {e : Env} {below : List Frame} {s : State} {sargs : Array Value} {len W : Nat} (x t : Addr) (V : Cell) (n : Nat) (f : Nat → Int32) (z : Int32) (fm : Value) (i : Nat) (htab : tab.before sargs s = true) (hfr : 4 ≤ R.frames) (hlo : W + 53 ≤ R.locals) :
    Back l R p e below s sargs yN len W (fun A₁ a₁ => A₁.cells + 0 ≤ R.cells ∧ A₁.slots + 0 ≤ R.slots ∧ P x t V n f z fm i a₁ A₁.U) (fun A₁ _ v₁ B₁ => E f i v₁ A₁.U B₁.U ∧ B₁.locs = A₁.locs ++ [] ∧ B₁.cells = A₁.cells + 0 ∧ B₁.slots = A₁.slots + 0) :=
  (law l x t V n f z fm i).pays htab hfr (by omega)
end ChN
end StrChars
namespace StrChars.Road
open Jvm Sem ClassFile Op Lib Jvm.Stand Jvm.Free Jvm.Free.XT
open Jvm.Lib.Cold (StaticIs)
/-- the words of String.charAt(int), the Latin-1 road alone -/
abbrev wordsChN : List Jvm.Cond := [.code ChN.yN ChN.yB 2 (some .char), .initialized ST, .fieldLink ST 9 ST "value" "[B", .fieldLink ST 38 ST "COMPACT_STRINGS" "Z", .fieldLink ST 15 ST "coder" "B", .code IsL.yN IsL.yB 1 (some .boolean), .methodLink ST 492 IsL.yN, .declares IsL.yN, .selects ST IsL.yN IsL.yN, .instanceMethod IsL.yN,
  .methodLink ST 495 LChA.yN, .static LChA.yN, .code LChA.yN LChA.yB 2 (some .char), .initialized "java/lang/StringLatin1", .methodLink "java/lang/StringLatin1" 9 JO.Str_checkIndex.yN, .static JO.Str_checkIndex.yN, .code JO.Str_checkIndex.yN JO.Str_checkIndex.yB 2 none,
  .fieldLink ST 1053 "jdk/internal/util/Preconditions" "SIOOBE_FORMATTER" "Ljava/util/function/BiFunction;", .methodLink ST 1059 JC.PreCheck.yN, .static JC.PreCheck.yN, .code JC.PreCheck.yN JC.PreCheck.yB 3 (some .int), .initialized "jdk/internal/util/Preconditions"]
theorem tabChN_of {a : Array Value} {s : State} (h : ∀ w ∈ wordsChN, w.before a s = true) : ChN.tab.before a s = true := by
  have hp : JC.PreCheck.tab.before a s = true := unparts (wk h (.code JC.PreCheck.yN JC.PreCheck.yB 3 (some .int))) (wks h (.initialized JC.PreCheck.yN.cls :: JC.PreCheck.site))
  have qk := consq hp h
  have hk : JO.Str_checkIndex.tab.before a s = true := unparts (wk qk (.code JO.Str_checkIndex.yN JO.Str_checkIndex.yB 2 none)) (wks qk (.initialized JO.Str_checkIndex.yN.cls :: JO.Str_checkIndex.site))
  have ql := consq hk h
  have hl : LChA.tab.before a s = true := unparts (wk ql (.code LChA.yN LChA.yB 2 (some .char))) (wks ql (.initialized LChA.yN.cls :: LChA.site))
  have hi : IsL.tab.before a s = true := unparts (wk h (.code IsL.yN IsL.yB 1 (some .boolean))) (wks h (.initialized IsL.yN.cls :: IsL.site))
  have q := consq hi (consq hl h)
  exact unparts (wk q (.code ChN.yN ChN.yB 2 (some .char))) (wks q (.initialized ChN.yN.cls :: ChN.site))
theorem movedChN {Z s : State} {a0 args : Array Value} (hZ : Z.Warmed39 s.vm) (hw : ∀ d ∈ wordsChN, d.before a0 Z = true) : ∀ d ∈ wordsChN, d.before args s = true := fun d hd => by
  have t : ∀ d ∈ wordsChN, (d.onTables && d.keepsFace) = true := by decide +kernel
  exact RoadKit.mv hZ (hw d hd) (t d hd)
/-- **charAt(i) OF A LATIN-1 STRING**, i < n: the char -/
theorem chN {p : Program} {l : Launch} {e : Env} {R : Room} {s : State} {args : Array Value} {below : List Frame} {len W : Nat} {Z : State} {a0 : Array Value} {h : Heap} (hZ : Z.Warmed39 s.vm) (hw : ∀ d ∈ wordsChN, d.before a0 Z = true) {kI : Nat} (wi : (Jvm.Cond.instantiable ST kI).before a0 Z = true)
    {x t : Addr} {kb : ClassId} {cs : List Int32} {N2 z : Int32} {vs : List Value} {fm : Value} {i : Nat} {j : Int32} (E : RoadKit.Exa Z h x ST) (V : RoadKit.Fld Z h x ST "value" "[B" (.ref t)) (C : RoadKit.Fld Z h x ST "coder" "B" (.int 0)) (K : RoadKit.Arv Z h t kb .byte N2 vs (.int 0)) (hc : CodA cs 0 N2 vs) (hb : ∀ c ∈ cs, ¬ c < 0 ∧ ¬ (65535 : Int32) < c)
    (S : RoadKit.Sta Z h ST "COMPACT_STRINGS" "Z" (.int z)) (hz : ¬ z = 0) (F : RoadKit.Sta Z h "jdk/internal/util/Preconditions" "SIOOBE_FORMATTER" "Ljava/util/function/BiFunction;" fm) (rf : fm.isRef = true) (l2 : cs.length ≤ 4000) (hi : i < cs.length) (hj : j = Int32.ofNat i) (hfr : 4 ≤ R.frames) (hlo : W + 53 ≤ R.locals) :
    Back l R p e below s args (⟨"java/lang/String", "charAt", "(I)C"⟩ : MethodName) len W (fun P a => a = #[.ref x, .int j] ∧ P.U.heap = h ∧ P.cells + 0 ≤ R.cells ∧ P.slots + 0 ≤ R.slots)
      (fun P _ v B => ∃ L, (v = some (.int (cs.getD i 0)) ∧ L = [] ∧ B.U.heap = h) ∧ B.locs = P.locs ++ L ∧ B.cells = P.cells + 0 ∧ B.slots = P.slots + 0) := by
  subst hj
  intro m meth c P g ig mk a X hg hsize hdg hW hn hp'
  obtain ⟨rfl, rfl, r1, r2⟩ := hp'
  have al : Z.vm.Alike P.U.vm := hZ.alike.trans X.warmed.alike
  obtain ⟨A, hx⟩ := txt_of wi al E V C K hc hb l2
  obtain ⟨v, B, X', ⟨⟨hv, hh⟩, hl, hk, hs⟩, st⟩ := ChN.pays x t A cs.length (fun j => cs.getD j 0) z fm i (tabChN_of (movedChN hZ hw)) hfr hlo m meth c P g ig mk _ X hg hsize hdg hW hn ⟨r1, r2, rfl, hx, hi, sta_is al S, hz, sta_is al F, rf⟩
  exact ⟨v, B, X', ⟨[], ⟨hv, rfl, hh⟩, hl, hk, hs⟩, st⟩
/-- what backV says of its String, as the contracts of this text ask it: cs's low bytes, coder 0 -/
theorem codOf {cs : List Int32} {n : Nat} (hn : cs.length = n) (hb : ∀ c ∈ cs, ¬ 255 < c) : CodA cs 0 (Int32.ofNat n) ((cs.map lo8).map Value.int) := Or.inl ⟨rfl, by rw [hn], by simp [List.map_map, Function.comp_def], hb⟩
end StrChars.Road
end Jvm.Pilot.@@N@@
namespace Jvm.Pilot.@@N@@
open Jvm Jvm.ClassFile Sem Op Lib Jvm.Free Jvm.Stand Jvm.LawKit Jvm.RoadKit Bundle Jvm.Pilot.@@N@@.Jvm.D

namespace Own
open Jvm Jvm.ClassFile Sem Op Lib Jvm.Free Jvm.Stand Jvm.LawKit Jvm.RoadKit Bundle
abbrev Cx : Type := Program × Launch × Env × State × MethodId × Array Value × List Frame × Method × Code
abbrev Cx.p (X : Cx) : Program := X.1
abbrev Cx.l (X : Cx) : Launch := X.2.1
abbrev Cx.e (X : Cx) : Env := X.2.2.1
abbrev Cx.s (X : Cx) : State := X.2.2.2.1
abbrev Cx.m (X : Cx) : MethodId := X.2.2.2.2.1
abbrev Cx.args (X : Cx) : Array Value := X.2.2.2.2.2.1
abbrev Cx.below (X : Cx) : List Frame := X.2.2.2.2.2.2.1
abbrev Cx.meth (X : Cx) : Method := X.2.2.2.2.2.2.2.1
abbrev Cx.c (X : Cx) : Code := X.2.2.2.2.2.2.2.2
abbrev Rm (f k s l : Nat) : Room := { frames := f, cells := k, slots := s, locals := l }
/-- what never changes in one activation -/
def Fix (X : Cx) (Z : State) (a0 : Array Value) (EL : List (String × Nat)) (y : MethodName) (bs : ByteArray) (ml : Nat) (rt : Option FieldType) : Prop :=
  X.p.tables.exec = Jvm.exec ∧ X.c.code = bs ∧ X.c.maxLocals = ml ∧ X.meth.sig.returnType = rt ∧ X.meth.name = y.name ∧ X.meth.locks = false ∧ EW Z a0 EL
/-- where the walk stands: heap h, at most k cells and n slots made; sf: addresses that no booked literal lives at -/
def Spot (X : Cx) (R : Room) (Z : State) (a0 : Array Value) (EL : List (String × Nat)) (nw : Bool) (y : MethodName) (bs : ByteArray) (ml : Nat) (rt : Option FieldType) (sf : List Addr) (T : State) (h : Heap) (k n : Nat) : Prop :=
  Fix X Z a0 EL y bs ml rt ∧
  ∃ (vm0 : Vm) (L : List Loc), Stand X.p X.l X.e R (X.s.setVm vm0) X.m X.args X.below X.meth X.c T L k n ∧ T.heap = h ∧ X.s.Since vm0 h.size ∧ Z.Warmed39 vm0 ∧ vm0.findClass y.cls = some X.m.cls ∧ CHr Z EL X.s.vm X.s.heap vm0 h ∧ Fr Z.heap.size L ∧ Ext Z.heap h ∧ (∀ x ∈ sf, x < h.size ∧ Safe Z EL vm0 h x) ∧ (nw = true → X.s.WarmedH vm0)
def Done (X : Cx) (Z : State) (EL : List (String × Nat)) (nw : Bool) (Q : Option Value → Heap → Prop) (kc ks : Nat) (T : State) (g : JFrame) : Prop :=
  ∃ s₂ o, Steps X.p.tables X.e X.below (T.setTop g) s₂ ∧ s₂.status = .running ∧ Ended s₂ X.below o ∧ ∃ v L, o = .returned v ∧ (Q v s₂.heap ∧ Fr Z.heap.size L ∧ Ext Z.heap s₂.heap) ∧ CHr Z EL X.s.vm X.s.heap s₂.vm s₂.heap ∧ (nw = true → X.s.WarmedH s₂.vm) ∧ ReturnedEndW X.s o s₂ L kc ks
/-- from every state that stands so, the frame g runs to a return that Q allows -/
def Go (X : Cx) (R : Room) (Z : State) (a0 : Array Value) (EL : List (String × Nat)) (nw : Bool) (y : MethodName) (bs : ByteArray) (ml : Nat) (rt : Option FieldType) (Q : Option Value → Heap → Prop) (kc ks : Nat) (sf : List Addr) (h : Heap) (k n : Nat) (g : JFrame) : Prop :=
  ∀ T, Spot X R Z a0 EL nw y bs ml rt sf T h k n → Done X Z EL nw Q kc ks T g
section Kit
variable {X : Cx} {R : Room} {Z : State} {a0 : Array Value} {EL : List (String × Nat)} {nw : Bool} {y : MethodName} {bs : ByteArray} {ml : Nat} {rt : Option FieldType} {Q : Option Value → Heap → Prop} {kc ks : Nat} {sf sf' : List Addr} {h h' : Heap} {k n k' n' : Nat} {pc pc' pc2 : Nat} {Ls Ls' : Array Slot} {st : List Value} {g g' : JFrame} {T T' : State}
theorem acmp_eq (v w : Value) : XT.acmp .eq v w = decide (v = w) := rfl
theorem acmp_ne (v w : Value) : XT.acmp .ne v w = decide (v ≠ w) := rfl
theorem ble {a b : Nat} (q : Nat.ble a b = true) : a ≤ b := Nat.le_of_ble_eq_true q
theorem Done.back (st : ∀ t, Steps X.p.tables X.e X.below (T'.setTop g') t → Steps X.p.tables X.e X.below (T.setTop g) t) (D : Done X Z EL nw Q kc ks T' g') : Done X Z EL nw Q kc ks T g := by
  obtain ⟨s₂, o, h1, r⟩ := D
  exact ⟨s₂, o, st _ h1, r⟩
theorem Spot.mono (S : Spot X R Z a0 EL nw y bs ml rt sf T h k n) (hk : k ≤ k') (hn : n ≤ n') (hs : ∀ x ∈ sf', x ∈ sf) : Spot X R Z a0 EL nw y bs ml rt sf' T h k' n' := by
  obtain ⟨F, vm0, L, X1, r1, r2, r3, r4, r5, r6, r7, r8, r9⟩ := S
  exact ⟨F, vm0, L, X1.mono hk hn, r1, r2, r3, r4, r5, r6, r7, fun x hx => r8 x (hs x hx), r9⟩
theorem Go.mono (k' n' : Nat) (hk : Nat.ble k k' = true) (hn : Nat.ble n n' = true) (G : Go X R Z a0 EL nw y bs ml rt Q kc ks sf h k' n' g) : Go X R Z a0 EL nw y bs ml rt Q kc ks sf h k n g := fun T S => G T (S.mono (ble hk) (ble hn) fun _ q => q)
theorem Go.drop (G : Go X R Z a0 EL nw y bs ml rt Q kc ks [] h k n g) : Go X R Z a0 EL nw y bs ml rt Q kc ks sf h k n g := fun T S => G T (S.mono (Nat.le_refl _) (Nat.le_refl _) fun _ q => nomatch q)
theorem Go.step (st : ∀ T t, At T X.m X.c X.below → X.p.tables.exec = Jvm.exec → X.c.code = bs → Steps X.p.tables X.e X.below (T.setTop g') t → Steps X.p.tables X.e X.below (T.setTop g) t) (G : Go X R Z a0 EL nw y bs ml rt Q kc ks sf h k n g') : Go X R Z a0 EL nw y bs ml rt Q kc ks sf h k n g := fun T S => by
  have S' := S
  obtain ⟨⟨hx, hc, -⟩, vm0, L, X1, -⟩ := S'
  exact (G T S).back fun t q => st T t X1.here hx hc q
/-- what is known of the tables at hand, for a step that wants more -/
theorem Go.look (G : ∀ vm0, Z.Warmed39 vm0 → CHv Z EL vm0 h → Ext Z.heap h → (∀ x ∈ sf, x < h.size ∧ Safe Z EL vm0 h x) → Go X R Z a0 EL nw y bs ml rt Q kc ks sf h k n g) : Go X R Z a0 EL nw y bs ml rt Q kc ks sf h k n g := fun T S => by
  have S' := S
  obtain ⟨-, vm0, L, -, -, -, hZ, -, hC, -, hE, hs, -⟩ := S'
  exact G vm0 hZ hC.1 hE hs T S
/-- the statics and the old cells stand -/
theorem Go.old (G : Ext Z.heap h → Go X R Z a0 EL nw y bs ml rt Q kc ks sf h k n g) : Go X R Z a0 EL nw y bs ml rt Q kc ks sf h k n g := Go.look fun _ _ _ E _ => G E
theorem g_aloadN {i : Fin 4} {v : Value} (hd : decode bs pc = .ok (.aload_n i, 1)) (hp : pc + 1 = pc') (hv : Ls[i.val]? = some (.val v)) (hr : v.isRef = true) (G : Go X R Z a0 EL nw y bs ml rt Q kc ks sf h k n (mkF X.m pc' Ls (v :: st))) : Go X R Z a0 EL nw y bs ml rt Q kc ks sf h k n (mkF X.m pc Ls (st)) := by
  subst hp
  exact Go.step (fun T t hT hx hc q => XS.aloadN hT hx rfl (hb hc hd) hv hr q) G
theorem g_aload {i : Nat} {v : Value} (hd : decode bs pc = .ok (.aload i, 2)) (hp : pc + 2 = pc') (hv : Ls[i]? = some (.val v)) (hr : v.isRef = true) (G : Go X R Z a0 EL nw y bs ml rt Q kc ks sf h k n (mkF X.m pc' Ls (v :: st))) : Go X R Z a0 EL nw y bs ml rt Q kc ks sf h k n (mkF X.m pc Ls (st)) := by
  subst hp
  exact Go.step (fun T t hT hx hc q => XS.aload hT hx rfl (hb hc hd) hv hr q) G
theorem g_iloadN {i : Fin 4} {v : Int32} (hd : decode bs pc = .ok (.iload_n i, 1)) (hp : pc + 1 = pc') (hv : Ls[i.val]? = some (.val (.int v))) (G : Go X R Z a0 EL nw y bs ml rt Q kc ks sf h k n (mkF X.m pc' Ls (.int v :: st))) : Go X R Z a0 EL nw y bs ml rt Q kc ks sf h k n (mkF X.m pc Ls (st)) := by
  subst hp
  exact Go.step (fun T t hT hx hc q => XS.iloadN hT hx rfl (hb hc hd) hv q) G
theorem g_iload {i : Nat} {v : Int32} (hd : decode bs pc = .ok (.iload i, 2)) (hp : pc + 2 = pc') (hv : Ls[i]? = some (.val (.int v))) (G : Go X R Z a0 EL nw y bs ml rt Q kc ks sf h k n (mkF X.m pc' Ls (.int v :: st))) : Go X R Z a0 EL nw y bs ml rt Q kc ks sf h k n (mkF X.m pc Ls (st)) := by
  subst hp
  exact Go.step (fun T t hT hx hc q => XS.iload hT hx rfl (hb hc hd) hv q) G
theorem g_lloadN {i : Fin 4} {v : Int64} (hd : decode bs pc = .ok (.lload_n i, 1)) (hp : pc + 1 = pc') (hv : Ls[i.val]? = some (.val (.long v))) (G : Go X R Z a0 EL nw y bs ml rt Q kc ks sf h k n (mkF X.m pc' Ls (.long v :: st))) : Go X R Z a0 EL nw y bs ml rt Q kc ks sf h k n (mkF X.m pc Ls (st)) := by
  subst hp
  exact Go.step (fun T t hT hx hc q => XS.lloadN hT hx rfl (hb hc hd) hv q) G
theorem g_lload {i : Nat} {v : Int64} (hd : decode bs pc = .ok (.lload i, 2)) (hp : pc + 2 = pc') (hv : Ls[i]? = some (.val (.long v))) (G : Go X R Z a0 EL nw y bs ml rt Q kc ks sf h k n (mkF X.m pc' Ls (.long v :: st))) : Go X R Z a0 EL nw y bs ml rt Q kc ks sf h k n (mkF X.m pc Ls (st)) := by
  subst hp
  exact Go.step (fun T t hT hx hc q => XS.lload hT hx rfl (hb hc hd) hv q) G
theorem g_iconst {i : Int} {w : Int32} (hd : decode bs pc = .ok (.iconst i, 1)) (hp : pc + 1 = pc') (hw : Int32.ofInt i = w) (G : Go X R Z a0 EL nw y bs ml rt Q kc ks sf h k n (mkF X.m pc' Ls (.int w :: st))) : Go X R Z a0 EL nw y bs ml rt Q kc ks sf h k n (mkF X.m pc Ls st) := by
  subst hp hw
  exact Go.step (fun T t hT hx hc q => XS.iconst hT hx rfl (hb hc hd) q) G
theorem g_bipush {i : Int} {w : Int32} (hd : decode bs pc = .ok (.bipush i, 2)) (hp : pc + 2 = pc') (hw : (Int8.ofInt i).toInt32 = w) (G : Go X R Z a0 EL nw y bs ml rt Q kc ks sf h k n (mkF X.m pc' Ls (.int w :: st))) : Go X R Z a0 EL nw y bs ml rt Q kc ks sf h k n (mkF X.m pc Ls st) := by
  subst hp hw
  exact Go.step (fun T t hT hx hc q => XS.bipush hT hx rfl (hb hc hd) q) G
theorem g_sipush {i : Int} {w : Int32} (hd : decode bs pc = .ok (.sipush i, 3)) (hp : pc + 3 = pc') (hw : (Int16.ofInt i).toInt32 = w) (G : Go X R Z a0 EL nw y bs ml rt Q kc ks sf h k n (mkF X.m pc' Ls (.int w :: st))) : Go X R Z a0 EL nw y bs ml rt Q kc ks sf h k n (mkF X.m pc Ls st) := by
  subst hp hw
  exact Go.step (fun T t hT hx hc q => XS.sipush hT hx rfl (hb hc hd) q) G
theorem g_lconst {i : Fin 2} {w : Int64} (hd : decode bs pc = .ok (.lconst i, 1)) (hp : pc + 1 = pc') (hw : Int64.ofNat i = w) (G : Go X R Z a0 EL nw y bs ml rt Q kc ks sf h k n (mkF X.m pc' Ls (.long w :: st))) : Go X R Z a0 EL nw y bs ml rt Q kc ks sf h k n (mkF X.m pc Ls st) := by
  subst hp hw
  exact Go.step (fun T t hT hx hc q => XS.lconst hT hx rfl (hb hc hd) q) G
theorem g_aconst_null  (hd : decode bs pc = .ok (.aconst_null, 1)) (hp : pc + 1 = pc')  (G : Go X R Z a0 EL nw y bs ml rt Q kc ks sf h k n (mkF X.m pc' Ls (.null :: st))) : Go X R Z a0 EL nw y bs ml rt Q kc ks sf h k n (mkF X.m pc Ls (st)) := by
  subst hp
  exact Go.step (fun T t hT hx hc q => XS.aconstNull hT hx rfl (hb hc hd)  q) G
theorem g_iadd {x1 x2 : Int32} (hd : decode bs pc = .ok (.iadd, 1)) (hp : pc + 1 = pc')  (G : Go X R Z a0 EL nw y bs ml rt Q kc ks sf h k n (mkF X.m pc' Ls (.int (x1 + x2) :: st))) : Go X R Z a0 EL nw y bs ml rt Q kc ks sf h k n (mkF X.m pc Ls (.int x2 :: .int x1 :: st)) := by
  subst hp
  exact Go.step (fun T t hT hx hc q => XS.iadd hT hx rfl (hb hc hd) rfl  q) G
theorem g_isub {x1 x2 : Int32} (hd : decode bs pc = .ok (.isub, 1)) (hp : pc + 1 = pc')  (G : Go X R Z a0 EL nw y bs ml rt Q kc ks sf h k n (mkF X.m pc' Ls (.int (x1 - x2) :: st))) : Go X R Z a0 EL nw y bs ml rt Q kc ks sf h k n (mkF X.m pc Ls (.int x2 :: .int x1 :: st)) := by
  subst hp
  exact Go.step (fun T t hT hx hc q => XS.isub hT hx rfl (hb hc hd) rfl  q) G
theorem g_imul {x1 x2 : Int32} (hd : decode bs pc = .ok (.imul, 1)) (hp : pc + 1 = pc')  (G : Go X R Z a0 EL nw y bs ml rt Q kc ks sf h k n (mkF X.m pc' Ls (.int (x1 * x2) :: st))) : Go X R Z a0 EL nw y bs ml rt Q kc ks sf h k n (mkF X.m pc Ls (.int x2 :: .int x1 :: st)) := by
  subst hp
  exact Go.step (fun T t hT hx hc q => XS.imul hT hx rfl (hb hc hd) rfl  q) G
theorem g_iand {x1 x2 : Int32} (hd : decode bs pc = .ok (.iand, 1)) (hp : pc + 1 = pc')  (G : Go X R Z a0 EL nw y bs ml rt Q kc ks sf h k n (mkF X.m pc' Ls (.int (x1 &&& x2) :: st))) : Go X R Z a0 EL nw y bs ml rt Q kc ks sf h k n (mkF X.m pc Ls (.int x2 :: .int x1 :: st)) := by
  subst hp
  exact Go.step (fun T t hT hx hc q => XS.iand hT hx rfl (hb hc hd) rfl  q) G
theorem g_ior {x1 x2 : Int32} (hd : decode bs pc = .ok (.ior, 1)) (hp : pc + 1 = pc')  (G : Go X R Z a0 EL nw y bs ml rt Q kc ks sf h k n (mkF X.m pc' Ls (.int (x1 ||| x2) :: st))) : Go X R Z a0 EL nw y bs ml rt Q kc ks sf h k n (mkF X.m pc Ls (.int x2 :: .int x1 :: st)) := by
  subst hp
  exact Go.step (fun T t hT hx hc q => XS.ior hT hx rfl (hb hc hd) rfl  q) G
theorem g_ixor {x1 x2 : Int32} (hd : decode bs pc = .ok (.ixor, 1)) (hp : pc + 1 = pc')  (G : Go X R Z a0 EL nw y bs ml rt Q kc ks sf h k n (mkF X.m pc' Ls (.int (x1 ^^^ x2) :: st))) : Go X R Z a0 EL nw y bs ml rt Q kc ks sf h k n (mkF X.m pc Ls (.int x2 :: .int x1 :: st)) := by
  subst hp
  exact Go.step (fun T t hT hx hc q => XS.ixor hT hx rfl (hb hc hd) rfl  q) G
theorem g_ishl {x1 x2 : Int32} (hd : decode bs pc = .ok (.ishl, 1)) (hp : pc + 1 = pc')  (G : Go X R Z a0 EL nw y bs ml rt Q kc ks sf h k n (mkF X.m pc' Ls (.int (x1 <<< (x2 &&& 31)) :: st))) : Go X R Z a0 EL nw y bs ml rt Q kc ks sf h k n (mkF X.m pc Ls (.int x2 :: .int x1 :: st)) := by
  subst hp
  exact Go.step (fun T t hT hx hc q => XS.ishl hT hx rfl (hb hc hd) rfl  q) G
theorem g_ishr {x1 x2 : Int32} (hd : decode bs pc = .ok (.ishr, 1)) (hp : pc + 1 = pc')  (G : Go X R Z a0 EL nw y bs ml rt Q kc ks sf h k n (mkF X.m pc' Ls (.int (x1 >>> (x2 &&& 31)) :: st))) : Go X R Z a0 EL nw y bs ml rt Q kc ks sf h k n (mkF X.m pc Ls (.int x2 :: .int x1 :: st)) := by
  subst hp
  exact Go.step (fun T t hT hx hc q => XS.ishr hT hx rfl (hb hc hd) rfl  q) G
theorem g_iushr {x1 x2 : Int32} (hd : decode bs pc = .ok (.iushr, 1)) (hp : pc + 1 = pc')  (G : Go X R Z a0 EL nw y bs ml rt Q kc ks sf h k n (mkF X.m pc' Ls (.int (x1.toUInt32 >>> (x2 &&& 31).toUInt32).toInt32 :: st))) : Go X R Z a0 EL nw y bs ml rt Q kc ks sf h k n (mkF X.m pc Ls (.int x2 :: .int x1 :: st)) := by
  subst hp
  exact Go.step (fun T t hT hx hc q => XS.iushr hT hx rfl (hb hc hd) rfl  q) G
theorem g_idiv {x1 x2 : Int32} (hd : decode bs pc = .ok (.idiv, 1)) (hp : pc + 1 = pc') (hy : x2 ≠ 0) (G : Go X R Z a0 EL nw y bs ml rt Q kc ks sf h k n (mkF X.m pc' Ls (.int (x1 / x2) :: st))) : Go X R Z a0 EL nw y bs ml rt Q kc ks sf h k n (mkF X.m pc Ls (.int x2 :: .int x1 :: st)) := by
  subst hp
  exact Go.step (fun T t hT hx hc q => XS.idiv hT hx rfl (hb hc hd) rfl hy q) G
theorem g_ladd {x1 x2 : Int64} (hd : decode bs pc = .ok (.ladd, 1)) (hp : pc + 1 = pc')  (G : Go X R Z a0 EL nw y bs ml rt Q kc ks sf h k n (mkF X.m pc' Ls (.long (x1 + x2) :: st))) : Go X R Z a0 EL nw y bs ml rt Q kc ks sf h k n (mkF X.m pc Ls (.long x2 :: .long x1 :: st)) := by
  subst hp
  exact Go.step (fun T t hT hx hc q => XS.ladd hT hx rfl (hb hc hd) rfl  q) G
theorem g_lsub {x1 x2 : Int64} (hd : decode bs pc = .ok (.lsub, 1)) (hp : pc + 1 = pc')  (G : Go X R Z a0 EL nw y bs ml rt Q kc ks sf h k n (mkF X.m pc' Ls (.long (x1 - x2) :: st))) : Go X R Z a0 EL nw y bs ml rt Q kc ks sf h k n (mkF X.m pc Ls (.long x2 :: .long x1 :: st)) := by
  subst hp
  exact Go.step (fun T t hT hx hc q => XS.lsub hT hx rfl (hb hc hd) rfl  q) G
theorem g_lmul {x1 x2 : Int64} (hd : decode bs pc = .ok (.lmul, 1)) (hp : pc + 1 = pc')  (G : Go X R Z a0 EL nw y bs ml rt Q kc ks sf h k n (mkF X.m pc' Ls (.long (x1 * x2) :: st))) : Go X R Z a0 EL nw y bs ml rt Q kc ks sf h k n (mkF X.m pc Ls (.long x2 :: .long x1 :: st)) := by
  subst hp
  exact Go.step (fun T t hT hx hc q => XS.lmul hT hx rfl (hb hc hd) rfl  q) G
theorem g_land {x1 x2 : Int64} (hd : decode bs pc = .ok (.land, 1)) (hp : pc + 1 = pc')  (G : Go X R Z a0 EL nw y bs ml rt Q kc ks sf h k n (mkF X.m pc' Ls (.long (x1 &&& x2) :: st))) : Go X R Z a0 EL nw y bs ml rt Q kc ks sf h k n (mkF X.m pc Ls (.long x2 :: .long x1 :: st)) := by
  subst hp
  exact Go.step (fun T t hT hx hc q => XS.land hT hx rfl (hb hc hd) rfl  q) G
theorem g_lor {x1 x2 : Int64} (hd : decode bs pc = .ok (.lor, 1)) (hp : pc + 1 = pc')  (G : Go X R Z a0 EL nw y bs ml rt Q kc ks sf h k n (mkF X.m pc' Ls (.long (x1 ||| x2) :: st))) : Go X R Z a0 EL nw y bs ml rt Q kc ks sf h k n (mkF X.m pc Ls (.long x2 :: .long x1 :: st)) := by
  subst hp
  exact Go.step (fun T t hT hx hc q => XS.lor hT hx rfl (hb hc hd) rfl  q) G
theorem g_ldiv {x1 x2 : Int64} (hd : decode bs pc = .ok (.ldiv, 1)) (hp : pc + 1 = pc') (hy : x2 ≠ 0) (G : Go X R Z a0 EL nw y bs ml rt Q kc ks sf h k n (mkF X.m pc' Ls (.long (x1 / x2) :: st))) : Go X R Z a0 EL nw y bs ml rt Q kc ks sf h k n (mkF X.m pc Ls (.long x2 :: .long x1 :: st)) := by
  subst hp
  exact Go.step (fun T t hT hx hc q => XS.ldiv hT hx rfl (hb hc hd) rfl hy q) G
theorem g_lcmp {x1 x2 : Int64} (hd : decode bs pc = .ok (.lcmp, 1)) (hp : pc + 1 = pc')  (G : Go X R Z a0 EL nw y bs ml rt Q kc ks sf h k n (mkF X.m pc' Ls (.int (lcmpW x1 x2) :: st))) : Go X R Z a0 EL nw y bs ml rt Q kc ks sf h k n (mkF X.m pc Ls (.long x2 :: .long x1 :: st)) := by
  subst hp
  exact Go.step (fun T t hT hx hc q => XS.lcmp hT hx rfl (hb hc hd) rfl  q) G
theorem g_lshl {x1 : Int64} {x2 : Int32} (hd : decode bs pc = .ok (.lshl, 1)) (hp : pc + 1 = pc')  (G : Go X R Z a0 EL nw y bs ml rt Q kc ks sf h k n (mkF X.m pc' Ls (.long (x1 <<< (x2 &&& 63).toInt64) :: st))) : Go X R Z a0 EL nw y bs ml rt Q kc ks sf h k n (mkF X.m pc Ls (.int x2 :: .long x1 :: st)) := by
  subst hp
  exact Go.step (fun T t hT hx hc q => XS.lshl hT hx rfl (hb hc hd) rfl q) G
theorem g_lshr {x1 : Int64} {x2 : Int32} (hd : decode bs pc = .ok (.lshr, 1)) (hp : pc + 1 = pc')  (G : Go X R Z a0 EL nw y bs ml rt Q kc ks sf h k n (mkF X.m pc' Ls (.long (x1 >>> (x2 &&& 63).toInt64) :: st))) : Go X R Z a0 EL nw y bs ml rt Q kc ks sf h k n (mkF X.m pc Ls (.int x2 :: .long x1 :: st)) := by
  subst hp
  exact Go.step (fun T t hT hx hc q => XS.lshr hT hx rfl (hb hc hd) rfl q) G
theorem g_lushr {x1 : Int64} {x2 : Int32} (hd : decode bs pc = .ok (.lushr, 1)) (hp : pc + 1 = pc')  (G : Go X R Z a0 EL nw y bs ml rt Q kc ks sf h k n (mkF X.m pc' Ls (.long ((x1.toUInt64 >>> (x2 &&& 63).toInt64.toUInt64).toInt64) :: st))) : Go X R Z a0 EL nw y bs ml rt Q kc ks sf h k n (mkF X.m pc Ls (.int x2 :: .long x1 :: st)) := by
  subst hp
  exact Go.step (fun T t hT hx hc q => XS.lushr hT hx rfl (hb hc hd) rfl q) G
theorem g_irem {x1 x2 : Int32} (hd : decode bs pc = .ok (.irem, 1)) (hp : pc + 1 = pc') (hy : x2 ≠ 0) (G : Go X R Z a0 EL nw y bs ml rt Q kc ks sf h k n (mkF X.m pc' Ls (.int (x1 % x2) :: st))) : Go X R Z a0 EL nw y bs ml rt Q kc ks sf h k n (mkF X.m pc Ls (.int x2 :: .int x1 :: st)) := by
  subst hp
  exact Go.step (fun T t hT hx hc q => XS.irem hT hx rfl (hb hc hd) rfl hy (by rw [irem_eq_mod]; exact q)) G
theorem g_lrem {x1 x2 : Int64} (hd : decode bs pc = .ok (.lrem, 1)) (hp : pc + 1 = pc') (hy : x2 ≠ 0) (G : Go X R Z a0 EL nw y bs ml rt Q kc ks sf h k n (mkF X.m pc' Ls (.long (x1 - (x1 / x2) * x2) :: st))) : Go X R Z a0 EL nw y bs ml rt Q kc ks sf h k n (mkF X.m pc Ls (.long x2 :: .long x1 :: st)) := by
  subst hp
  exact Go.step (fun T t hT hx hc q => XS.lrem hT hx rfl (hb hc hd) rfl hy q) G
theorem g_ineg {x1 : Int32} (hd : decode bs pc = .ok (.ineg, 1)) (hp : pc + 1 = pc')  (G : Go X R Z a0 EL nw y bs ml rt Q kc ks sf h k n (mkF X.m pc' Ls (.int (-x1) :: st))) : Go X R Z a0 EL nw y bs ml rt Q kc ks sf h k n (mkF X.m pc Ls (.int x1 :: st)) := by
  subst hp
  exact Go.step (fun T t hT hx hc q => XS.ineg hT hx rfl (hb hc hd) rfl q) G
theorem g_lneg {x1 : Int64} (hd : decode bs pc = .ok (.lneg, 1)) (hp : pc + 1 = pc')  (G : Go X R Z a0 EL nw y bs ml rt Q kc ks sf h k n (mkF X.m pc' Ls (.long (-x1) :: st))) : Go X R Z a0 EL nw y bs ml rt Q kc ks sf h k n (mkF X.m pc Ls (.long x1 :: st)) := by
  subst hp
  exact Go.step (fun T t hT hx hc q => XS.lneg hT hx rfl (hb hc hd) rfl q) G
theorem g_i2l {x1 : Int32} (hd : decode bs pc = .ok (.i2l, 1)) (hp : pc + 1 = pc')  (G : Go X R Z a0 EL nw y bs ml rt Q kc ks sf h k n (mkF X.m pc' Ls (.long (x1.toInt64) :: st))) : Go X R Z a0 EL nw y bs ml rt Q kc ks sf h k n (mkF X.m pc Ls (.int x1 :: st)) := by
  subst hp
  exact Go.step (fun T t hT hx hc q => XS.i2l hT hx rfl (hb hc hd) rfl q) G
theorem g_l2i {x1 : Int64} (hd : decode bs pc = .ok (.l2i, 1)) (hp : pc + 1 = pc')  (G : Go X R Z a0 EL nw y bs ml rt Q kc ks sf h k n (mkF X.m pc' Ls (.int (x1.toInt32) :: st))) : Go X R Z a0 EL nw y bs ml rt Q kc ks sf h k n (mkF X.m pc Ls (.long x1 :: st)) := by
  subst hp
  exact Go.step (fun T t hT hx hc q => XS.l2i hT hx rfl (hb hc hd) rfl q) G
theorem g_i2b {x1 : Int32} (hd : decode bs pc = .ok (.i2b, 1)) (hp : pc + 1 = pc')  (G : Go X R Z a0 EL nw y bs ml rt Q kc ks sf h k n (mkF X.m pc' Ls (.int (x1.toInt8.toInt32) :: st))) : Go X R Z a0 EL nw y bs ml rt Q kc ks sf h k n (mkF X.m pc Ls (.int x1 :: st)) := by
  subst hp
  exact Go.step (fun T t hT hx hc q => XS.i2b hT hx rfl (hb hc hd) rfl q) G
theorem g_i2c {x1 : Int32} (hd : decode bs pc = .ok (.i2c, 1)) (hp : pc + 1 = pc')  (G : Go X R Z a0 EL nw y bs ml rt Q kc ks sf h k n (mkF X.m pc' Ls (.int (x1.toUInt32.toUInt16.toUInt32.toInt32) :: st))) : Go X R Z a0 EL nw y bs ml rt Q kc ks sf h k n (mkF X.m pc Ls (.int x1 :: st)) := by
  subst hp
  exact Go.step (fun T t hT hx hc q => XS.i2c hT hx rfl (hb hc hd) rfl q) G
theorem g_i2s {x1 : Int32} (hd : decode bs pc = .ok (.i2s, 1)) (hp : pc + 1 = pc')  (G : Go X R Z a0 EL nw y bs ml rt Q kc ks sf h k n (mkF X.m pc' Ls (.int (x1.toInt16.toInt32) :: st))) : Go X R Z a0 EL nw y bs ml rt Q kc ks sf h k n (mkF X.m pc Ls (.int x1 :: st)) := by
  subst hp
  exact Go.step (fun T t hT hx hc q => XS.i2s hT hx rfl (hb hc hd) rfl q) G
theorem g_dup {x1 : Value} (hd : decode bs pc = .ok (.dup, 1)) (hp : pc + 1 = pc') (hc1 : x1.category = 1) (G : Go X R Z a0 EL nw y bs ml rt Q kc ks sf h k n (mkF X.m pc' Ls (x1 :: x1 :: st))) : Go X R Z a0 EL nw y bs ml rt Q kc ks sf h k n (mkF X.m pc Ls (x1 :: st)) := by
  subst hp
  exact Go.step (fun T t hT hx hc q => XS.dup hT hx rfl (hb hc hd) rfl hc1 q) G
theorem g_pop {x1 : Value} (hd : decode bs pc = .ok (.pop, 1)) (hp : pc + 1 = pc') (hc1 : x1.category = 1) (G : Go X R Z a0 EL nw y bs ml rt Q kc ks sf h k n (mkF X.m pc' Ls (st))) : Go X R Z a0 EL nw y bs ml rt Q kc ks sf h k n (mkF X.m pc Ls (x1 :: st)) := by
  subst hp
  exact Go.step (fun T t hT hx hc q => XS.pop hT hx rfl (hb hc hd) rfl hc1 q) G
theorem g_dup_x1 {x1 x2 : Value} (hd : decode bs pc = .ok (.dup_x1, 1)) (hp : pc + 1 = pc') (hc1 : x1.category = 1) (hc2 : x2.category = 1) (G : Go X R Z a0 EL nw y bs ml rt Q kc ks sf h k n (mkF X.m pc' Ls (x1 :: x2 :: x1 :: st))) : Go X R Z a0 EL nw y bs ml rt Q kc ks sf h k n (mkF X.m pc Ls (x1 :: x2 :: st)) := by
  subst hp
  exact Go.step (fun T t hT hx hc q => XT.dupX1 hT hx rfl (hb hc hd) rfl hc1 hc2 q) G
theorem g_dup2 {x1 x2 : Value} (hd : decode bs pc = .ok (.dup2, 1)) (hp : pc + 1 = pc') (hc1 : x1.category = 1) (hc2 : x2.category = 1) (G : Go X R Z a0 EL nw y bs ml rt Q kc ks sf h k n (mkF X.m pc' Ls (x1 :: x2 :: x1 :: x2 :: st))) : Go X R Z a0 EL nw y bs ml rt Q kc ks sf h k n (mkF X.m pc Ls (x1 :: x2 :: st)) := by
  subst hp
  exact Go.step (fun T t hT hx hc q => XT.dup2 hT hx rfl (hb hc hd) rfl hc1 hc2 q) G
theorem g_istoreN {i : Fin 4} {x1 : Int32} (hd : decode bs pc = .ok (.istore_n i, 1)) (hp : pc + 1 = pc') (hl : storeLocals Ls i.val (.int x1) = some Ls') (G : Go X R Z a0 EL nw y bs ml rt Q kc ks sf h k n (mkF X.m pc' Ls' (st))) : Go X R Z a0 EL nw y bs ml rt Q kc ks sf h k n (mkF X.m pc Ls (.int x1 :: st)) := by
  subst hp
  exact Go.step (fun T t hT hx hc q => XS.istoreN hT hx rfl (hb hc hd) rfl hl q) G
theorem g_istore {i : Nat} {x1 : Int32} (hd : decode bs pc = .ok (.istore i, 2)) (hp : pc + 2 = pc') (hl : storeLocals Ls i (.int x1) = some Ls') (G : Go X R Z a0 EL nw y bs ml rt Q kc ks sf h k n (mkF X.m pc' Ls' (st))) : Go X R Z a0 EL nw y bs ml rt Q kc ks sf h k n (mkF X.m pc Ls (.int x1 :: st)) := by
  subst hp
  exact Go.step (fun T t hT hx hc q => XS.istore hT hx rfl (hb hc hd) rfl hl q) G
theorem g_lstoreN {i : Fin 4} {x1 : Int64} (hd : decode bs pc = .ok (.lstore_n i, 1)) (hp : pc + 1 = pc') (hl : storeLocals Ls i.val (.long x1) = some Ls') (G : Go X R Z a0 EL nw y bs ml rt Q kc ks sf h k n (mkF X.m pc' Ls' (st))) : Go X R Z a0 EL nw y bs ml rt Q kc ks sf h k n (mkF X.m pc Ls (.long x1 :: st)) := by
  subst hp
  exact Go.step (fun T t hT hx hc q => XS.lstoreN hT hx rfl (hb hc hd) rfl hl q) G
theorem g_lstore {i : Nat} {x1 : Int64} (hd : decode bs pc = .ok (.lstore i, 2)) (hp : pc + 2 = pc') (hl : storeLocals Ls i (.long x1) = some Ls') (G : Go X R Z a0 EL nw y bs ml rt Q kc ks sf h k n (mkF X.m pc' Ls' (st))) : Go X R Z a0 EL nw y bs ml rt Q kc ks sf h k n (mkF X.m pc Ls (.long x1 :: st)) := by
  subst hp
  exact Go.step (fun T t hT hx hc q => XS.lstore hT hx rfl (hb hc hd) rfl hl q) G
theorem g_astoreN {i : Fin 4} {x1 : Value} (hd : decode bs pc = .ok (.astore_n i, 1)) (hp : pc + 1 = pc') (hr : x1.isRef = true) (hl : storeLocals Ls i.val x1 = some Ls') (G : Go X R Z a0 EL nw y bs ml rt Q kc ks sf h k n (mkF X.m pc' Ls' (st))) : Go X R Z a0 EL nw y bs ml rt Q kc ks sf h k n (mkF X.m pc Ls (x1 :: st)) := by
  subst hp
  exact Go.step (fun T t hT hx hc q => XS.astoreN hT hx rfl (hb hc hd) rfl hr hl q) G
theorem g_astore {i : Nat} {x1 : Value} (hd : decode bs pc = .ok (.astore i, 2)) (hp : pc + 2 = pc') (hr : x1.isRef = true) (hl : storeLocals Ls i x1 = some Ls') (G : Go X R Z a0 EL nw y bs ml rt Q kc ks sf h k n (mkF X.m pc' Ls' (st))) : Go X R Z a0 EL nw y bs ml rt Q kc ks sf h k n (mkF X.m pc Ls (x1 :: st)) := by
  subst hp
  exact Go.step (fun T t hT hx hc q => XS.astore hT hx rfl (hb hc hd) rfl hr hl q) G
theorem g_iinc {i : Nat} {cst : Int} {x1 : Int32} (hd : decode bs pc = .ok (.iinc i cst, 3)) (hp : pc + 3 = pc') (hv : Ls[i]? = some (.val (.int x1))) (hl : storeLocals Ls i (.int (x1 + Int32.ofInt cst)) = some Ls') (G : Go X R Z a0 EL nw y bs ml rt Q kc ks sf h k n (mkF X.m pc' Ls' st)) : Go X R Z a0 EL nw y bs ml rt Q kc ks sf h k n (mkF X.m pc Ls st) := by
  subst hp
  exact Go.step (fun T t hT hx hc q => XS.iinc hT hx rfl (hb hc hd) hv hl q) G
theorem g_goto {o : Int} (hd : decode bs pc = .ok (.goto o, 3)) (ho : 0 ≤ (pc : Int) + o) (hp : ((pc : Int) + o).toNat = pc') (G : Go X R Z a0 EL nw y bs ml rt Q kc ks sf h k n (mkF X.m pc' Ls st)) : Go X R Z a0 EL nw y bs ml rt Q kc ks sf h k n (mkF X.m pc Ls st) :=
  Go.step (fun T t hT hx hc q => XS.goto hT hx rfl rfl (hb hc hd) ho hp q) G
theorem g_icmpeq {o : Int} {x1 x2 : Int32} (hd : decode bs pc = .ok (.if_icmp .eq o, 3)) (hp : pc + 3 = pc') (ho : 0 ≤ (pc : Int) + o) (hp2 : ((pc : Int) + o).toNat = pc2) (Gn : ¬ x1 = x2 → Go X R Z a0 EL nw y bs ml rt Q kc ks sf h k n (mkF X.m pc' Ls st)) (Gy : x1 = x2 → Go X R Z a0 EL nw y bs ml rt Q kc ks sf h k n (mkF X.m pc2 Ls st)) : Go X R Z a0 EL nw y bs ml rt Q kc ks sf h k n (mkF X.m pc Ls (.int x2 :: .int x1 :: st)) := by
  subst hp
  by_cases q : x1 = x2
  · exact Go.step (fun T t hT hx hc r => XS.icmpYes hT hx rfl rfl (hb hc hd) rfl ((teq q).1) ho hp2 r) (Gy q)
  · have q : ¬ x1 = x2 := q
    exact Go.step (fun T t hT hx hc r => XS.icmpNo hT hx rfl (hb hc hd) rfl ((feq q).1) r) (Gn q)
theorem g_ifeq {o : Int} {x1 : Int32} (hd : decode bs pc = .ok (.ifCond .eq o, 3)) (hp : pc + 3 = pc') (ho : 0 ≤ (pc : Int) + o) (hp2 : ((pc : Int) + o).toNat = pc2) (Gn : ¬ x1 = 0 → Go X R Z a0 EL nw y bs ml rt Q kc ks sf h k n (mkF X.m pc' Ls st)) (Gy : x1 = 0 → Go X R Z a0 EL nw y bs ml rt Q kc ks sf h k n (mkF X.m pc2 Ls st)) : Go X R Z a0 EL nw y bs ml rt Q kc ks sf h k n (mkF X.m pc Ls (.int x1 :: st)) := by
  subst hp
  by_cases q : x1 = 0
  · exact Go.step (fun T t hT hx hc r => XS.ifYes hT hx rfl rfl (hb hc hd) rfl (by rw [if0]; exact (teq q).1) ho hp2 r) (Gy q)
  · have q : ¬ x1 = 0 := q
    exact Go.step (fun T t hT hx hc r => XS.ifNo hT hx rfl (hb hc hd) rfl (by rw [if0]; exact (feq q).1) r) (Gn q)
theorem g_icmpne {o : Int} {x1 x2 : Int32} (hd : decode bs pc = .ok (.if_icmp .ne o, 3)) (hp : pc + 3 = pc') (ho : 0 ≤ (pc : Int) + o) (hp2 : ((pc : Int) + o).toNat = pc2) (Gn : x1 = x2 → Go X R Z a0 EL nw y bs ml rt Q kc ks sf h k n (mkF X.m pc' Ls st)) (Gy : ¬ x1 = x2 → Go X R Z a0 EL nw y bs ml rt Q kc ks sf h k n (mkF X.m pc2 Ls st)) : Go X R Z a0 EL nw y bs ml rt Q kc ks sf h k n (mkF X.m pc Ls (.int x2 :: .int x1 :: st)) := by
  subst hp
  by_cases q : ¬ x1 = x2
  · exact Go.step (fun T t hT hx hc r => XS.icmpYes hT hx rfl rfl (hb hc hd) rfl ((feq q).2) ho hp2 r) (Gy q)
  · have q : x1 = x2 := Decidable.not_not.mp q
    exact Go.step (fun T t hT hx hc r => XS.icmpNo hT hx rfl (hb hc hd) rfl ((teq q).2) r) (Gn q)
theorem g_ifne {o : Int} {x1 : Int32} (hd : decode bs pc = .ok (.ifCond .ne o, 3)) (hp : pc + 3 = pc') (ho : 0 ≤ (pc : Int) + o) (hp2 : ((pc : Int) + o).toNat = pc2) (Gn : x1 = 0 → Go X R Z a0 EL nw y bs ml rt Q kc ks sf h k n (mkF X.m pc' Ls st)) (Gy : ¬ x1 = 0 → Go X R Z a0 EL nw y bs ml rt Q kc ks sf h k n (mkF X.m pc2 Ls st)) : Go X R Z a0 EL nw y bs ml rt Q kc ks sf h k n (mkF X.m pc Ls (.int x1 :: st)) := by
  subst hp
  by_cases q : ¬ x1 = 0
  · exact Go.step (fun T t hT hx hc r => XS.ifYes hT hx rfl rfl (hb hc hd) rfl (by rw [if0]; exact (feq q).2) ho hp2 r) (Gy q)
  · have q : x1 = 0 := Decidable.not_not.mp q
    exact Go.step (fun T t hT hx hc r => XS.ifNo hT hx rfl (hb hc hd) rfl (by rw [if0]; exact (teq q).2) r) (Gn q)
theorem g_icmplt {o : Int} {x1 x2 : Int32} (hd : decode bs pc = .ok (.if_icmp .lt o, 3)) (hp : pc + 3 = pc') (ho : 0 ≤ (pc : Int) + o) (hp2 : ((pc : Int) + o).toNat = pc2) (Gn : ¬ x1 < x2 → Go X R Z a0 EL nw y bs ml rt Q kc ks sf h k n (mkF X.m pc' Ls st)) (Gy : x1 < x2 → Go X R Z a0 EL nw y bs ml rt Q kc ks sf h k n (mkF X.m pc2 Ls st)) : Go X R Z a0 EL nw y bs ml rt Q kc ks sf h k n (mkF X.m pc Ls (.int x2 :: .int x1 :: st)) := by
  subst hp
  by_cases q : x1 < x2
  · exact Go.step (fun T t hT hx hc r => XS.icmpYes hT hx rfl rfl (hb hc hd) rfl ((tlt q).1) ho hp2 r) (Gy q)
  · have q : ¬ x1 < x2 := q
    exact Go.step (fun T t hT hx hc r => XS.icmpNo hT hx rfl (hb hc hd) rfl ((flt q).1) r) (Gn q)
theorem g_iflt {o : Int} {x1 : Int32} (hd : decode bs pc = .ok (.ifCond .lt o, 3)) (hp : pc + 3 = pc') (ho : 0 ≤ (pc : Int) + o) (hp2 : ((pc : Int) + o).toNat = pc2) (Gn : ¬ x1 < 0 → Go X R Z a0 EL nw y bs ml rt Q kc ks sf h k n (mkF X.m pc' Ls st)) (Gy : x1 < 0 → Go X R Z a0 EL nw y bs ml rt Q kc ks sf h k n (mkF X.m pc2 Ls st)) : Go X R Z a0 EL nw y bs ml rt Q kc ks sf h k n (mkF X.m pc Ls (.int x1 :: st)) := by
  subst hp
  by_cases q : x1 < 0
  · exact Go.step (fun T t hT hx hc r => XS.ifYes hT hx rfl rfl (hb hc hd) rfl (by rw [if0]; exact (tlt q).1) ho hp2 r) (Gy q)
  · have q : ¬ x1 < 0 := q
    exact Go.step (fun T t hT hx hc r => XS.ifNo hT hx rfl (hb hc hd) rfl (by rw [if0]; exact (flt q).1) r) (Gn q)
theorem g_icmpge {o : Int} {x1 x2 : Int32} (hd : decode bs pc = .ok (.if_icmp .ge o, 3)) (hp : pc + 3 = pc') (ho : 0 ≤ (pc : Int) + o) (hp2 : ((pc : Int) + o).toNat = pc2) (Gn : x1 < x2 → Go X R Z a0 EL nw y bs ml rt Q kc ks sf h k n (mkF X.m pc' Ls st)) (Gy : ¬ x1 < x2 → Go X R Z a0 EL nw y bs ml rt Q kc ks sf h k n (mkF X.m pc2 Ls st)) : Go X R Z a0 EL nw y bs ml rt Q kc ks sf h k n (mkF X.m pc Ls (.int x2 :: .int x1 :: st)) := by
  subst hp
  by_cases q : ¬ x1 < x2
  · exact Go.step (fun T t hT hx hc r => XS.icmpYes hT hx rfl rfl (hb hc hd) rfl ((flt q).2.1) ho hp2 r) (Gy q)
  · have q : x1 < x2 := Decidable.not_not.mp q
    exact Go.step (fun T t hT hx hc r => XS.icmpNo hT hx rfl (hb hc hd) rfl ((tlt q).2.1) r) (Gn q)
theorem g_ifge {o : Int} {x1 : Int32} (hd : decode bs pc = .ok (.ifCond .ge o, 3)) (hp : pc + 3 = pc') (ho : 0 ≤ (pc : Int) + o) (hp2 : ((pc : Int) + o).toNat = pc2) (Gn : x1 < 0 → Go X R Z a0 EL nw y bs ml rt Q kc ks sf h k n (mkF X.m pc' Ls st)) (Gy : ¬ x1 < 0 → Go X R Z a0 EL nw y bs ml rt Q kc ks sf h k n (mkF X.m pc2 Ls st)) : Go X R Z a0 EL nw y bs ml rt Q kc ks sf h k n (mkF X.m pc Ls (.int x1 :: st)) := by
  subst hp
  by_cases q : ¬ x1 < 0
  · exact Go.step (fun T t hT hx hc r => XS.ifYes hT hx rfl rfl (hb hc hd) rfl (by rw [if0]; exact (flt q).2.1) ho hp2 r) (Gy q)
  · have q : x1 < 0 := Decidable.not_not.mp q
    exact Go.step (fun T t hT hx hc r => XS.ifNo hT hx rfl (hb hc hd) rfl (by rw [if0]; exact (tlt q).2.1) r) (Gn q)
theorem g_icmpgt {o : Int} {x1 x2 : Int32} (hd : decode bs pc = .ok (.if_icmp .gt o, 3)) (hp : pc + 3 = pc') (ho : 0 ≤ (pc : Int) + o) (hp2 : ((pc : Int) + o).toNat = pc2) (Gn : ¬ x2 < x1 → Go X R Z a0 EL nw y bs ml rt Q kc ks sf h k n (mkF X.m pc' Ls st)) (Gy : x2 < x1 → Go X R Z a0 EL nw y bs ml rt Q kc ks sf h k n (mkF X.m pc2 Ls st)) : Go X R Z a0 EL nw y bs ml rt Q kc ks sf h k n (mkF X.m pc Ls (.int x2 :: .int x1 :: st)) := by
  subst hp
  by_cases q : x2 < x1
  · exact Go.step (fun T t hT hx hc r => XS.icmpYes hT hx rfl rfl (hb hc hd) rfl ((tlt q).2.2.1) ho hp2 r) (Gy q)
  · have q : ¬ x2 < x1 := q
    exact Go.step (fun T t hT hx hc r => XS.icmpNo hT hx rfl (hb hc hd) rfl ((flt q).2.2.1) r) (Gn q)
theorem g_ifgt {o : Int} {x1 : Int32} (hd : decode bs pc = .ok (.ifCond .gt o, 3)) (hp : pc + 3 = pc') (ho : 0 ≤ (pc : Int) + o) (hp2 : ((pc : Int) + o).toNat = pc2) (Gn : ¬ 0 < x1 → Go X R Z a0 EL nw y bs ml rt Q kc ks sf h k n (mkF X.m pc' Ls st)) (Gy : 0 < x1 → Go X R Z a0 EL nw y bs ml rt Q kc ks sf h k n (mkF X.m pc2 Ls st)) : Go X R Z a0 EL nw y bs ml rt Q kc ks sf h k n (mkF X.m pc Ls (.int x1 :: st)) := by
  subst hp
  by_cases q : 0 < x1
  · exact Go.step (fun T t hT hx hc r => XS.ifYes hT hx rfl rfl (hb hc hd) rfl (by rw [if0]; exact (tlt q).2.2.1) ho hp2 r) (Gy q)
  · have q : ¬ 0 < x1 := q
    exact Go.step (fun T t hT hx hc r => XS.ifNo hT hx rfl (hb hc hd) rfl (by rw [if0]; exact (flt q).2.2.1) r) (Gn q)
theorem g_icmple {o : Int} {x1 x2 : Int32} (hd : decode bs pc = .ok (.if_icmp .le o, 3)) (hp : pc + 3 = pc') (ho : 0 ≤ (pc : Int) + o) (hp2 : ((pc : Int) + o).toNat = pc2) (Gn : x2 < x1 → Go X R Z a0 EL nw y bs ml rt Q kc ks sf h k n (mkF X.m pc' Ls st)) (Gy : ¬ x2 < x1 → Go X R Z a0 EL nw y bs ml rt Q kc ks sf h k n (mkF X.m pc2 Ls st)) : Go X R Z a0 EL nw y bs ml rt Q kc ks sf h k n (mkF X.m pc Ls (.int x2 :: .int x1 :: st)) := by
  subst hp
  by_cases q : ¬ x2 < x1
  · exact Go.step (fun T t hT hx hc r => XS.icmpYes hT hx rfl rfl (hb hc hd) rfl ((flt q).2.2.2) ho hp2 r) (Gy q)
  · have q : x2 < x1 := Decidable.not_not.mp q
    exact Go.step (fun T t hT hx hc r => XS.icmpNo hT hx rfl (hb hc hd) rfl ((tlt q).2.2.2) r) (Gn q)
theorem g_ifle {o : Int} {x1 : Int32} (hd : decode bs pc = .ok (.ifCond .le o, 3)) (hp : pc + 3 = pc') (ho : 0 ≤ (pc : Int) + o) (hp2 : ((pc : Int) + o).toNat = pc2) (Gn : 0 < x1 → Go X R Z a0 EL nw y bs ml rt Q kc ks sf h k n (mkF X.m pc' Ls st)) (Gy : ¬ 0 < x1 → Go X R Z a0 EL nw y bs ml rt Q kc ks sf h k n (mkF X.m pc2 Ls st)) : Go X R Z a0 EL nw y bs ml rt Q kc ks sf h k n (mkF X.m pc Ls (.int x1 :: st)) := by
  subst hp
  by_cases q : ¬ 0 < x1
  · exact Go.step (fun T t hT hx hc r => XS.ifYes hT hx rfl rfl (hb hc hd) rfl (by rw [if0]; exact (flt q).2.2.2) ho hp2 r) (Gy q)
  · have q : 0 < x1 := Decidable.not_not.mp q
    exact Go.step (fun T t hT hx hc r => XS.ifNo hT hx rfl (hb hc hd) rfl (by rw [if0]; exact (tlt q).2.2.2) r) (Gn q)
theorem g_ifnullY {o : Int} (hd : decode bs pc = .ok (.ifnull o, 3)) (ho : 0 ≤ (pc : Int) + o) (hp2 : ((pc : Int) + o).toNat = pc2) (G : Go X R Z a0 EL nw y bs ml rt Q kc ks sf h k n (mkF X.m pc2 Ls st)) : Go X R Z a0 EL nw y bs ml rt Q kc ks sf h k n (mkF X.m pc Ls (.null :: st)) :=
  Go.step (fun T t hT hx hc r => XS.ifnullYes hT hx rfl rfl (hb hc hd) rfl ho hp2 r) G
theorem g_ifnullN {o : Int} {b : Addr} (hd : decode bs pc = .ok (.ifnull o, 3)) (hp : pc + 3 = pc') (G : Go X R Z a0 EL nw y bs ml rt Q kc ks sf h k n (mkF X.m pc' Ls st)) : Go X R Z a0 EL nw y bs ml rt Q kc ks sf h k n (mkF X.m pc Ls (.ref b :: st)) := by
  subst hp
  exact Go.step (fun T t hT hx hc r => XS.ifnullNo hT hx rfl (hb hc hd) rfl r) G
theorem g_ifnonnullY {o : Int} {b : Addr} (hd : decode bs pc = .ok (.ifnonnull o, 3)) (ho : 0 ≤ (pc : Int) + o) (hp2 : ((pc : Int) + o).toNat = pc2) (G : Go X R Z a0 EL nw y bs ml rt Q kc ks sf h k n (mkF X.m pc2 Ls st)) : Go X R Z a0 EL nw y bs ml rt Q kc ks sf h k n (mkF X.m pc Ls (.ref b :: st)) :=
  Go.step (fun T t hT hx hc r => XS.ifnonnullYes hT hx rfl rfl (hb hc hd) rfl ho hp2 r) G
theorem g_ifnonnullN {o : Int} (hd : decode bs pc = .ok (.ifnonnull o, 3)) (hp : pc + 3 = pc') (G : Go X R Z a0 EL nw y bs ml rt Q kc ks sf h k n (mkF X.m pc' Ls st)) : Go X R Z a0 EL nw y bs ml rt Q kc ks sf h k n (mkF X.m pc Ls (.null :: st)) := by
  subst hp
  exact Go.step (fun T t hT hx hc r => XS.ifnonnullNo hT hx rfl (hb hc hd) rfl r) G
theorem g_acmp {cd : ClassFile.ACond} {o : Int} {x1 x2 : Value} (hd : decode bs pc = .ok (.if_acmp cd o, 3)) (hp : pc + 3 = pc') (ho : 0 ≤ (pc : Int) + o) (hp2 : ((pc : Int) + o).toNat = pc2) (hr1 : x1.isRef = true) (hr2 : x2.isRef = true) (Gn : XT.acmp cd x1 x2 = false → Go X R Z a0 EL nw y bs ml rt Q kc ks sf h k n (mkF X.m pc' Ls st)) (Gy : XT.acmp cd x1 x2 = true → Go X R Z a0 EL nw y bs ml rt Q kc ks sf h k n (mkF X.m pc2 Ls st)) : Go X R Z a0 EL nw y bs ml rt Q kc ks sf h k n (mkF X.m pc Ls (x2 :: x1 :: st)) := by
  subst hp
  cases q : XT.acmp cd x1 x2 with
  | true => exact Go.step (fun T t hT hx hc r => XT.acmpYes hT hx rfl rfl (hb hc hd) rfl hr1 hr2 q ho hp2 r) (Gy q)
  | false => exact Go.step (fun T t hT hx hc r => XT.acmpNo hT hx rfl (hb hc hd) rfl hr1 hr2 q r) (Gn q)
/-! returns -/
theorem Go.out {v : Option Value} (hv : rt = none → v = none) (hk : Nat.ble k kc = true) (hn : Nat.ble n ks = true) (hQ : Q v h)
    (stp : ∀ {s0 : State} {L : List Loc} {T : State} {fs : List Frame}, Stand X.p X.l X.e R s0 X.m X.args X.below X.meth X.c T L k n → X.p.tables.exec = Jvm.exec → X.c.code = bs → X.meth.sig.returnType = rt → (∀ (f : JFrame) (acts : List Action), f.method = X.m → f.locked = none → f.entered = [] → (doReturn X.e (T.setTop f) acts v).1 = T.setFrames fs) → Steps X.p.tables X.e X.below (T.setTop g) (T.setFrames fs)) : Go X R Z a0 EL nw y bs ml rt Q kc ks sf h k n g := fun T S => by
  obtain ⟨⟨hx, hc, hml, hrt, hnm, hlk, hEL⟩, vm0, L, X1, rfl, hS, hZ, hown, hC, hF, hE, hs, hN⟩ := S
  obtain ⟨fs, hr, hrun, hended, hW, hsame⟩ := X1.leave (v := v) (fun q => hv (hrt ▸ q)) hlk
  refine ⟨_, _, stp X1 hx hc hrt hr, hrun, hended, v, L, rfl, ⟨hQ, hF, hE⟩, hC.trans (show CHr Z EL vm0 T.heap T.vm T.heap from CHv.at X1 hZ hEL hC.1), fun q => State.WarmedH.trans (hN q) hW, ⟨v, rfl⟩, State.Warmed39.trans (t := X.s.setVm vm0) hS.1 hW.wide, fun j q hj hp => ?_, (hsame.setVm X.s.vm).mono (ble hk) (ble hn)⟩
  exact hS.2 j q hj (by have := hW.interned_eq; rw [this] at hp; exact hp)
theorem g_ireturn {w : Int32} {t : FieldType} (hd : decode bs pc = .ok (.ireturn, 1)) (hrt : rt = some t) (ht : t = .int ∨ t = .boolean ∨ t = .byte ∨ t = .char ∨ t = .short) (hw : narrow t (.int w) = .int w) (hk : Nat.ble k kc = true) (hn : Nat.ble n ks = true) (hQ : Q (some (.int w)) h) : Go X R Z a0 EL nw y bs ml rt Q kc ks sf h k n (mkF X.m pc Ls (.int w :: st)) :=
  Go.out (fun q => by rw [hrt] at q; cases q) hk hn hQ fun X1 hx hc hr hl => retOut X1 hx (hr.trans hrt) hw (Or.inl ⟨rfl, ht, _, rfl⟩) (hb hc hd) hl
theorem g_lreturn {w : Int64} (hd : decode bs pc = .ok (.lreturn, 1)) (hrt : rt = some .long) (hk : Nat.ble k kc = true) (hn : Nat.ble n ks = true) (hQ : Q (some (.long w)) h) : Go X R Z a0 EL nw y bs ml rt Q kc ks sf h k n (mkF X.m pc Ls (.long w :: st)) :=
  Go.out (fun q => by rw [hrt] at q; cases q) hk hn hQ fun X1 hx hc hr hl => retOut X1 hx (hr.trans hrt) rfl (Or.inr (Or.inl ⟨rfl, rfl, _, rfl⟩)) (hb hc hd) hl
theorem g_areturn {w : Value} {t : FieldType} (hd : decode bs pc = .ok (.areturn, 1)) (hrt : rt = some t) (ht : t.isReference = true) (hw : w.isRef = true) (hnw : narrow t w = w) (hk : Nat.ble k kc = true) (hn : Nat.ble n ks = true) (hQ : Q (some w) h) : Go X R Z a0 EL nw y bs ml rt Q kc ks sf h k n (mkF X.m pc Ls (w :: st)) :=
  Go.out (fun q => by rw [hrt] at q; cases q) hk hn hQ fun X1 hx hc hr hl => retOut X1 hx (hr.trans hrt) hnw (Or.inr (Or.inr (Or.inr (Or.inr ⟨rfl, ht, hw⟩)))) (hb hc hd) hl
theorem g_return (hd : decode bs pc = .ok (.return_, 1)) (hrt : rt = none) (hk : Nat.ble k kc = true) (hn : Nat.ble n ks = true) (hQ : Q none h) : Go X R Z a0 EL nw y bs ml rt Q kc ks sf h k n (mkF X.m pc Ls []) :=
  Go.out (fun _ => rfl) hk hn hQ fun X1 hx hc hr hl => X1.returnOut hx (hr.trans hrt) (hb hc hd) hl
/-! steps that move the heap, the tables not interned anew -/
theorem Spot.next {vm0 : Vm} {L' : List Loc} (F : Fix X Z a0 EL y bs ml rt) (X1 : Stand X.p X.l X.e R (X.s.setVm vm0) X.m X.args X.below X.meth X.c T' L' k' n') (e : T'.heap = h') (hS : X.s.Since vm0 h.size) (hZ : Z.Warmed39 vm0) (hown : vm0.findClass y.cls = some X.m.cls) (hC : CHr Z EL X.s.vm X.s.heap vm0 h) (hC' : CHr Z EL vm0 h vm0 h') (hF : Fr Z.heap.size L') (hE : Ext Z.heap h') (hs : ∀ x ∈ sf, x < h.size ∧ Safe Z EL vm0 h x) (hN : nw = true → X.s.WarmedH vm0) : Spot X R Z a0 EL nw y bs ml rt sf T' h' k' n' :=
  ⟨F, vm0, L', X1, e, ⟨hS.1, hS.2.mono hC'.2.1⟩, hZ, hown, hC.trans hC', hF, hE, fun x hx => ⟨Nat.lt_of_lt_of_le (hs x hx).1 hC'.2.1, hC'.safe (hs x hx).1 (hs x hx).2⟩, hN⟩
theorem ext_trans {h1 h2 h3 : Heap} (E : Ext h1 h2) (E' : Ext h2 h3) : Ext h1 h3 := ⟨Nat.le_trans E.1 E'.1, fun a c q => E'.2 a c (E.2 a c q)⟩
theorem ext_refl (h1 : Heap) : Ext h1 h1 := ⟨Nat.le_refl _, fun _ _ q => q⟩
/-- what is written lies behind the first heap's end: the first heap stands -/
theorem ext_keep {h1 h2 h3 : Heap} {ws : List Addr} (E : Ext h1 h2) (K : Keep h2 h3 ws) (q : ∀ x ∈ ws, h1.size ≤ x) : Ext h1 h3 := ⟨Nat.le_trans E.1 K.1, fun a c r => K.2.1 a c (E.2 a c r) fun z => absurd (Array.getElem?_eq_some_iff.mp r).1 (Nat.not_lt.mpr (q a z))⟩
theorem keep_ext {h1 h2 : Heap} (E : Ext h1 h2) : Keep h1 h2 [] := (Keep.refl _ _).ext E
theorem g_new {C : String} {ix sz : Nat} (hd : decode bs pc = .ok (.new ix, 3)) (hp : pc + 3 = pc') (w : (Jvm.Cond.classLink y.cls ix C).before a0 Z = true) (wi : (Jvm.Cond.instantiable C sz).before a0 Z = true) (wz : (Jvm.Cond.initialized C).before a0 Z = true) (hk : Nat.ble (k + 1) R.cells = true) (hn : Nat.ble (n + sz) R.slots = true)
    (G : ∀ h' a, a = h.size → Ext h h' → Exa Z h' a C → (∀ {O nm d : String} {ty : FieldType}, Laid Z a0 C O nm d → parseFieldDescriptor d = some ty → Fld Z h' a O nm d (defaultValue ty)) → Go X R Z a0 EL nw y bs ml rt Q kc ks (a :: sf) h' (k + 1) (n + sz) (mkF X.m pc' Ls (.ref a :: st))) : Go X R Z a0 EL nw y bs ml rt Q kc ks sf h k n (mkF X.m pc Ls st) := fun T S => by
  subst hp
  obtain ⟨F, vm0, L, X1, eT, hS, hZ, hown, hC, hF, hE, hs, hN⟩ := S
  obtain ⟨T', h', X2, e2, E2, A2, D2, -, stp⟩ := newO X1 F.1 (Z := Z) hZ hown w wi wz eT (g := mkF X.m pc Ls st) rfl (hb F.2.1 hd) (ble hk) (ble hn)
  refine (G h' _ rfl E2 A2 D2 T' ?_).back stp
  exact ⟨F, vm0, _, X2, e2, ⟨hS.1, hS.2.mono E2.1⟩, hZ, hown, hC.trans (CHr.ext E2 hC.1), hF, ext_trans hE E2, fun x hx => by
    rcases List.mem_cons.mp hx with rfl | hx
    · exact ⟨A2.lt, Safe.ext E2 hC.1 (Safe.new (Nat.le_refl _))⟩
    · exact ⟨Nat.lt_of_lt_of_le (hs x hx).1 E2.1, Safe.ext E2 hC.1 (hs x hx).2⟩, hN⟩
theorem g_newarray {aty : ArrayType} {z : Int32} {cap : Nat} (hd : decode bs pc = .ok (.newarray aty, 2)) (hp : pc + 2 = pc') (w : (Jvm.Cond.arrayClass (newarray.typeOf aty)).before a0 Z = true) (hz : ¬ z < 0) (hcap : z.toNatClampNeg = cap) (h8 : Nat.ble (cap * 8) 536870912 = true) (hk : Nat.ble (k + 1) R.cells = true) (hn : Nat.ble (n + cap) R.slots = true)
    (G : ∀ h' a kA, a = h.size → Ext h h' → Arv Z h' a kA (newarray.typeOf aty) z (List.replicate cap (defaultValue (newarray.typeOf aty))) (defaultValue (newarray.typeOf aty)) → Go X R Z a0 EL nw y bs ml rt Q kc ks (a :: sf) h' (k + 1) (n + cap) (mkF X.m pc' Ls (.ref a :: st))) : Go X R Z a0 EL nw y bs ml rt Q kc ks sf h k n (mkF X.m pc Ls (.int z :: st)) := fun T S => by
  subst hp
  obtain ⟨F, vm0, L, X1, eT, hS, hZ, hown, hC, hF, hE, hs, hN⟩ := S
  obtain ⟨T', h', cA, X2, e2, E2, A2, stp⟩ := newP X1 F.1 (Z := Z) hZ w eT (g := mkF X.m pc Ls (.int z :: st)) rfl (hb F.2.1 hd) rfl hz (cap := cap) (Nat.le_of_eq hcap) (ble h8) (ble hk) (ble hn)
  have A3 := (Arv.new A2 hz).pad (vs' := List.replicate cap (defaultValue (newarray.typeOf aty))) (fun i => by have := pad_rep [] (defaultValue (newarray.typeOf aty)) cap i; simpa using this)
  refine (G h' _ cA rfl E2 A3 T' ?_).back stp
  exact ⟨F, vm0, _, X2, e2, ⟨hS.1, hS.2.mono E2.1⟩, hZ, hown, hC.trans (CHr.ext E2 hC.1), hF, ext_trans hE E2, fun x hx => by
    rcases List.mem_cons.mp hx with rfl | hx
    · exact ⟨A3.lt, Safe.ext E2 hC.1 (Safe.new (Nat.le_refl _))⟩
    · exact ⟨Nat.lt_of_lt_of_le (hs x hx).1 E2.1, Safe.ext E2 hC.1 (hs x hx).2⟩, hN⟩
theorem g_anewarray {C : String} {ix : Nat} {z : Int32} {cap : Nat} (hd : decode bs pc = .ok (.anewarray ix, 3)) (hp : pc + 3 = pc') (w : (Jvm.Cond.classLink y.cls ix C).before a0 Z = true) (w2 : (Jvm.Cond.arrayOver (.object C)).before a0 Z = true) (hz : ¬ z < 0) (hcap : z.toNatClampNeg = cap) (h8 : Nat.ble (cap * 8) 536870912 = true) (hk : Nat.ble (k + 1) R.cells = true) (hn : Nat.ble (n + cap) R.slots = true)
    (G : ∀ h' a kA, a = h.size → Ext h h' → Ovr Z kA C → Arv Z h' a kA (.object C) z (List.replicate cap .null) .null → Go X R Z a0 EL nw y bs ml rt Q kc ks (a :: sf) h' (k + 1) (n + cap) (mkF X.m pc' Ls (.ref a :: st))) : Go X R Z a0 EL nw y bs ml rt Q kc ks sf h k n (mkF X.m pc Ls (.int z :: st)) := fun T S => by
  subst hp
  obtain ⟨F, vm0, L, X1, eT, hS, hZ, hown, hC, hF, hE, hs, hN⟩ := S
  obtain ⟨T', h', cA, X2, e2, E2, A2, O2, stp⟩ := newR X1 F.1 (Z := Z) hZ hown w w2 eT (g := mkF X.m pc Ls (.int z :: st)) rfl (hb F.2.1 hd) rfl hz (cap := cap) (Nat.le_of_eq hcap) (ble h8) (ble hk) (ble hn)
  have A3 := (Arv.new A2 hz).pad (vs' := List.replicate cap (defaultValue (.object C))) (fun i => by have := pad_rep [] (defaultValue (.object C)) cap i; simpa using this)
  refine (G h' _ cA rfl E2 O2 A3 T' ?_).back stp
  exact ⟨F, vm0, _, X2, e2, ⟨hS.1, hS.2.mono E2.1⟩, hZ, hown, hC.trans (CHr.ext E2 hC.1), hF, ext_trans hE E2, fun x hx => by
    rcases List.mem_cons.mp hx with rfl | hx
    · exact ⟨A3.lt, Safe.ext E2 hC.1 (Safe.new (Nat.le_refl _))⟩
    · exact ⟨Nat.lt_of_lt_of_le (hs x hx).1 E2.1, Safe.ext E2 hC.1 (hs x hx).2⟩, hN⟩
/-- a step over one Stand that moves nothing but the tables (narrowly) -/
theorem Go.same (stp : ∀ {vm0 : Vm} {L : List Loc} {T : State}, Fix X Z a0 EL y bs ml rt → Stand X.p X.l X.e R (X.s.setVm vm0) X.m X.args X.below X.meth X.c T L k n → T.heap = h → Z.Warmed39 vm0 → vm0.findClass y.cls = some X.m.cls →
      ∃ T', Stand X.p X.l X.e R (X.s.setVm vm0) X.m X.args X.below X.meth X.c T' L k n ∧ T'.heap = h ∧ ∀ t, Steps X.p.tables X.e X.below (T'.setTop g') t → Steps X.p.tables X.e X.below (T.setTop g) t)
    (G : Go X R Z a0 EL nw y bs ml rt Q kc ks sf h k n g') : Go X R Z a0 EL nw y bs ml rt Q kc ks sf h k n g := fun T S => by
  obtain ⟨F, vm0, L, X1, eT, hS, hZ, hown, r⟩ := S
  obtain ⟨T', X2, e2, q⟩ := stp F X1 eT hZ hown
  exact (G T' ⟨F, vm0, L, X2, e2, hS, hZ, hown, r⟩).back q
theorem g_ldcI {ix : Nat} {v : Int32} (hd : decode bs pc = .ok (.ldc ix, 2)) (hp : pc + 2 = pc') (w : (Jvm.Cond.constant y.cls ix v).before a0 Z = true) (G : Go X R Z a0 EL nw y bs ml rt Q kc ks sf h k n (mkF X.m pc' Ls (.int v :: st))) : Go X R Z a0 EL nw y bs ml rt Q kc ks sf h k n (mkF X.m pc Ls st) := by
  subst hp
  exact Go.same (fun F X1 eT hZ hown => ⟨_, X1, eT, fun t q => X1.ldcI F.1 hown (mvT hZ w) rfl (hb F.2.1 hd) q⟩) G
theorem g_ldc2J {ix : Nat} {v : Int64} (hd : decode bs pc = .ok (.ldc2_w ix, 3)) (hp : pc + 3 = pc') (w : (Jvm.Cond.constantLong y.cls ix v).before a0 Z = true) (G : Go X R Z a0 EL nw y bs ml rt Q kc ks sf h k n (mkF X.m pc' Ls (.long v :: st))) : Go X R Z a0 EL nw y bs ml rt Q kc ks sf h k n (mkF X.m pc Ls st) := by
  subst hp
  exact Go.same (fun F X1 eT hZ hown => ⟨_, X1, eT, fun t q => X1.ldc2J F.1 hown (mvT hZ w) rfl (hb F.2.1 hd) q⟩) G
/-! arrays read -/
section Arrays
variable {a : Addr} {kA : ClassId} {z j : Int32} {vs : List Value} {d v : Value}
theorem g_arraylength {ty : FieldType} (hd : decode bs pc = .ok (.arraylength, 1)) (hp : pc + 1 = pc') (A : Arv Z h a kA ty z vs d) (G : Go X R Z a0 EL nw y bs ml rt Q kc ks sf h k n (mkF X.m pc' Ls (.int z :: st))) : Go X R Z a0 EL nw y bs ml rt Q kc ks sf h k n (mkF X.m pc Ls (.ref a :: st)) := by
  subst hp
  refine Go.same (fun F X1 eT hZ hown => ⟨_, X1, eT, fun t q => ?_⟩) G
  obtain ⟨c, Ar, -, s1, n1, -⟩ := A
  refine X1.arraylength F.1 (by rw [eT]; exact Ar.1) (State.isArrayOf_alike hZ.alike Ar.2.1) (g := mkF X.m pc Ls (.ref a :: st)) rfl rfl (hb F.2.1 hd) _ ?_
  rw [len_of s1 n1]
  exact q
theorem g_caload {w : Int32} (hd : decode bs pc = .ok (.caload, 1)) (hp : pc + 1 = pc') (A : Arv Z h a kA .char z vs d) (hj : ¬ j < 0 ∧ j < z) (hv : vs.getD j.toNatClampNeg d = .int w) (G : Go X R Z a0 EL nw y bs ml rt Q kc ks sf h k n (mkF X.m pc' Ls (.int w :: st))) : Go X R Z a0 EL nw y bs ml rt Q kc ks sf h k n (mkF X.m pc Ls (.int j :: .ref a :: st)) := by
  subst hp
  refine Go.same (fun F X1 eT hZ hown => ⟨_, X1, eT, fun t q => ?_⟩) G
  obtain ⟨c, Ar, -, s1, n1, H, -⟩ := A
  exact X1.caload F.1 (by rw [eT]; exact Ar.1) (State.isArrayOf_alike hZ.alike Ar.2.1) Ar.2.2 (inb_of s1 hj) (H.at (inb_of s1 hj) hv) (g := mkF X.m pc Ls (.int j :: .ref a :: st)) rfl rfl (hb F.2.1 hd) _ q
theorem g_iaload {w : Int32} (hd : decode bs pc = .ok (.iaload, 1)) (hp : pc + 1 = pc') (A : Arv Z h a kA .int z vs d) (hj : ¬ j < 0 ∧ j < z) (hv : vs.getD j.toNatClampNeg d = .int w) (G : Go X R Z a0 EL nw y bs ml rt Q kc ks sf h k n (mkF X.m pc' Ls (.int w :: st))) : Go X R Z a0 EL nw y bs ml rt Q kc ks sf h k n (mkF X.m pc Ls (.int j :: .ref a :: st)) := by
  subst hp
  refine Go.same (fun F X1 eT hZ hown => ⟨_, X1, eT, fun t q => ?_⟩) G
  obtain ⟨c, Ar, -, s1, n1, H, -⟩ := A
  exact X1.iaload F.1 (by rw [eT]; exact Ar.1) (State.isArrayOf_alike hZ.alike Ar.2.1) Ar.2.2 (inb_of s1 hj) (H.at (inb_of s1 hj) hv) (g := mkF X.m pc Ls (.int j :: .ref a :: st)) rfl rfl (hb F.2.1 hd) _ q
theorem g_baload {w : Int32} (hd : decode bs pc = .ok (.baload, 1)) (hp : pc + 1 = pc') (A : Arv Z h a kA .byte z vs d) (hj : ¬ j < 0 ∧ j < z) (hv : vs.getD j.toNatClampNeg d = .int w) (G : Go X R Z a0 EL nw y bs ml rt Q kc ks sf h k n (mkF X.m pc' Ls (.int w :: st))) : Go X R Z a0 EL nw y bs ml rt Q kc ks sf h k n (mkF X.m pc Ls (.int j :: .ref a :: st)) := by
  subst hp
  refine Go.same (fun F X1 eT hZ hown => ⟨_, X1, eT, fun t q => ?_⟩) G
  obtain ⟨c, Ar, -, s1, n1, H, -⟩ := A
  exact X1.baloadBytes F.1 (by rw [eT]; exact Ar.1) (State.isArrayOf_alike hZ.alike Ar.2.1) Ar.2.2 (inb_of s1 hj) (H.at (inb_of s1 hj) hv) (g := mkF X.m pc Ls (.int j :: .ref a :: st)) rfl rfl (hb F.2.1 hd) _ q
theorem g_aaload {ty : FieldType} (hd : decode bs pc = .ok (.aaload, 1)) (hp : pc + 1 = pc') (A : Arv Z h a kA ty z vs d) (ht : ty.isReference = true) (hj : ¬ j < 0 ∧ j < z) (hv : vs.getD j.toNatClampNeg d = v) (G : Go X R Z a0 EL nw y bs ml rt Q kc ks sf h k n (mkF X.m pc' Ls (v :: st))) : Go X R Z a0 EL nw y bs ml rt Q kc ks sf h k n (mkF X.m pc Ls (.int j :: .ref a :: st)) := by
  subst hp
  refine Go.same (fun F X1 eT hZ hown => ⟨_, X1, eT, fun t q => ?_⟩) G
  obtain ⟨c, Ar, -, s1, n1, H, -⟩ := A
  exact X1.aaload F.1 (by rw [eT]; exact Ar.1) (State.isArrayOf_alike hZ.alike Ar.2.1) ht Ar.2.2 (inb_of s1 hj) (H.at (inb_of s1 hj) hv) (g := mkF X.m pc Ls (.int j :: .ref a :: st)) rfl rfl (hb F.2.1 hd) _ q
/-! writes: one place of one cell, made since the start, that is no literal's -/
theorem Go.write {sl : Nat} {v : Value} (ha : Z.heap.size ≤ a) (hsafe : ∀ vm, Z.Warmed39 vm → CHv Z EL vm h → (∀ x ∈ sf, x < h.size ∧ Safe Z EL vm h x) → Safe Z EL vm h a)
    (stp : ∀ {vm0 : Vm} {L : List Loc} {T : State}, Fix X Z a0 EL y bs ml rt → Stand X.p X.l X.e R (X.s.setVm vm0) X.m X.args X.below X.meth X.c T L k n → T.heap = h → Z.Warmed39 vm0 → vm0.findClass y.cls = some X.m.cls →
      ∃ T' h', Stand X.p X.l X.e R (X.s.setVm vm0) X.m X.args X.below X.meth X.c T' (L ++ [⟨a, sl⟩]) k n ∧ T'.heap = h' ∧ Wr h h' a sl v ∧ ∀ t, Steps X.p.tables X.e X.below (T'.setTop g') t → Steps X.p.tables X.e X.below (T.setTop g) t)
    (G : ∀ h', Wr h h' a sl v → Go X R Z a0 EL nw y bs ml rt Q kc ks sf h' k n g') : Go X R Z a0 EL nw y bs ml rt Q kc ks sf h k n g := fun T S => by
  obtain ⟨F, vm0, L, X1, eT, hS, hZ, hown, hC, hF, hE, hs, hN⟩ := S
  obtain ⟨T', h', X2, e2, W, q⟩ := stp F X1 eT hZ hown
  exact (G h' W T' (Spot.next F X2 e2 hS hZ hown hC (CHr.wr W (hsafe vm0 hZ hC.1 hs) hC.1) (Fr.snoc X2 hF ha) (ext_keep hE (Keep.of_wr W) (allS ha all0)) hs hN)).back q
theorem sfIn (hm : a ∈ sf) : ∀ vm, Z.Warmed39 vm → CHv Z EL vm h → (∀ x ∈ sf, x < h.size ∧ Safe Z EL vm h x) → Safe Z EL vm h a := fun _ _ _ q => (q a hm).2
theorem sfArv {ty : FieldType} (A : Arv Z h a kA ty z vs d) (ht : ty ≠ .byte) : ∀ vm, Z.Warmed39 vm → CHv Z EL vm h → (∀ x ∈ sf, x < h.size ∧ Safe Z EL vm h x) → Safe Z EL vm h a := fun _ hZ _ _ => Safe.arv hZ.alike A ht
theorem sfExa {C : String} (E : Exa Z h a C) (h1 : C ≠ "java/lang/String") (h2 : C ≠ "[B") : ∀ vm, Z.Warmed39 vm → CHv Z EL vm h → (∀ x ∈ sf, x < h.size ∧ Safe Z EL vm h x) → Safe Z EL vm h a := fun _ hZ _ _ => Safe.exa hZ.alike E h1 h2
theorem g_castore {x1 : Int32} {i : Nat} (hd : decode bs pc = .ok (.castore, 1)) (hp : pc + 1 = pc') (A : Arv Z h a kA .char z vs d) (ha : Z.heap.size ≤ a) (hj : ¬ j < 0 ∧ j < z) (hi : j.toNatClampNeg = i) (hl : i < vs.length)
    (G : ∀ h', Keep h h' [a] → Arv Z h' a kA .char z (vs.set i (.int (nar .char x1))) d → Go X R Z a0 EL nw y bs ml rt Q kc ks sf h' k n (mkF X.m pc' Ls st)) : Go X R Z a0 EL nw y bs ml rt Q kc ks sf h k n (mkF X.m pc Ls (.int x1 :: .int j :: .ref a :: st)) := by
  subst hp
  have A' := A
  obtain ⟨c, Ar, k1, s1, n1, H, G1⟩ := A'
  refine Go.write (v := .int (nar .char x1)) ha (sfArv A (by decide)) (fun F X1 eT hZ hown => stC X1 F.1 (Z := Z) hZ eT Ar (x := x1) (inb_of s1 hj) (g := mkF X.m pc Ls (.int x1 :: .int j :: .ref a :: st)) rfl rfl (hb F.2.1 hd)) (fun h' W => G h' (Keep.of_wr W) (Arv.set Ar k1 s1 n1 H G1 (fits_nar_char x1) W i hi hl))
theorem g_castoreX {x1 : Int32} {i : Nat} (hd : decode bs pc = .ok (.castore, 1)) (hp : pc + 1 = pc') (hx1 : nar .char x1 = x1) (A : Arv Z h a kA .char z vs d) (ha : Z.heap.size ≤ a) (hj : ¬ j < 0 ∧ j < z) (hi : j.toNatClampNeg = i) (hl : i < vs.length)
    (G : ∀ h', Keep h h' [a] → Arv Z h' a kA .char z (vs.set i (.int x1)) d → Go X R Z a0 EL nw y bs ml rt Q kc ks sf h' k n (mkF X.m pc' Ls st)) : Go X R Z a0 EL nw y bs ml rt Q kc ks sf h k n (mkF X.m pc Ls (.int x1 :: .int j :: .ref a :: st)) :=
  g_castore hd hp A ha hj hi hl fun h' K A' => G h' K (by rw [hx1] at A'; exact A')
theorem g_bastore {x1 : Int32} {i : Nat} (hd : decode bs pc = .ok (.bastore, 1)) (hp : pc + 1 = pc') (A : Arv Z h a kA .byte z vs d) (ha : Z.heap.size ≤ a) (hm : a ∈ sf) (hj : ¬ j < 0 ∧ j < z) (hi : j.toNatClampNeg = i) (hl : i < vs.length)
    (G : ∀ h', Keep h h' [a] → Arv Z h' a kA .byte z (vs.set i (.int (nar .byte x1))) d → Go X R Z a0 EL nw y bs ml rt Q kc ks sf h' k n (mkF X.m pc' Ls st)) : Go X R Z a0 EL nw y bs ml rt Q kc ks sf h k n (mkF X.m pc Ls (.int x1 :: .int j :: .ref a :: st)) := by
  subst hp
  obtain ⟨c, Ar, k1, s1, n1, H, G1⟩ := A
  refine Go.write (v := .int (nar .byte x1)) ha (sfIn hm) (fun F X1 eT hZ hown => stB X1 F.1 (Z := Z) hZ eT Ar (x := x1) (inb_of s1 hj) (g := mkF X.m pc Ls (.int x1 :: .int j :: .ref a :: st)) rfl rfl (hb F.2.1 hd)) (fun h' W => G h' (Keep.of_wr W) (Arv.set Ar k1 s1 n1 H G1 (fits_nar_byte x1) W i hi hl))
theorem g_iastore {x1 : Int32} {i : Nat} (hd : decode bs pc = .ok (.iastore, 1)) (hp : pc + 1 = pc') (A : Arv Z h a kA .int z vs d) (ha : Z.heap.size ≤ a) (hj : ¬ j < 0 ∧ j < z) (hi : j.toNatClampNeg = i) (hl : i < vs.length)
    (G : ∀ h', Keep h h' [a] → Arv Z h' a kA .int z (vs.set i (.int x1)) d → Go X R Z a0 EL nw y bs ml rt Q kc ks sf h' k n (mkF X.m pc' Ls st)) : Go X R Z a0 EL nw y bs ml rt Q kc ks sf h k n (mkF X.m pc Ls (.int x1 :: .int j :: .ref a :: st)) := by
  subst hp
  have A' := A
  obtain ⟨c, Ar, k1, s1, n1, H, G1⟩ := A'
  refine Go.write (v := .int x1) ha (sfArv A (by decide)) (fun F X1 eT hZ hown => stI X1 F.1 (Z := Z) hZ eT Ar (x := x1) (inb_of s1 hj) (g := mkF X.m pc Ls (.int x1 :: .int j :: .ref a :: st)) rfl rfl (hb F.2.1 hd)) (fun h' W => G h' (Keep.of_wr W) (Arv.set Ar k1 s1 n1 H G1 rfl W i hi hl))
theorem g_aastore {C : String} {w : Addr} {i : Nat} (hd : decode bs pc = .ok (.aastore, 1)) (hp : pc + 1 = pc') (A : Arv Z h a kA (.object C) z vs d) (O : Ovr Z kA C) (I : Ins Z h w C true) (ha : Z.heap.size ≤ a) (hj : ¬ j < 0 ∧ j < z) (hi : j.toNatClampNeg = i) (hl : i < vs.length)
    (G : ∀ h', Keep h h' [a] → Arv Z h' a kA (.object C) z (vs.set i (.ref w)) d → Go X R Z a0 EL nw y bs ml rt Q kc ks sf h' k n (mkF X.m pc' Ls st)) : Go X R Z a0 EL nw y bs ml rt Q kc ks sf h k n (mkF X.m pc Ls (.ref w :: .int j :: .ref a :: st)) := by
  subst hp
  have A' := A
  obtain ⟨c, Ar, k1, s1, n1, H, G1⟩ := A'
  refine Go.write (v := .ref w) ha (sfArv A (by intro q; cases q)) (fun F X1 eT hZ hown => stR X1 F.1 (Z := Z) hZ eT Ar (inb_of s1 hj) rfl (Sto.ofV Ar k1 O I) (g := mkF X.m pc Ls (.ref w :: .int j :: .ref a :: st)) rfl rfl (hb F.2.1 hd)) (fun h' W => G h' (Keep.of_wr W) (Arv.set Ar k1 s1 n1 H G1 rfl W i hi hl))
end Arrays
/-! fields -/
theorem g_getfield {O nm d : String} {ix : Nat} {a : Addr} {v : Value} (hd : decode bs pc = .ok (.getfield ix, 3)) (hp : pc + 3 = pc') (w : (Jvm.Cond.fieldLink y.cls ix O nm d).before a0 Z = true) (Fl : Fld Z h a O nm d v) (G : Go X R Z a0 EL nw y bs ml rt Q kc ks sf h k n (mkF X.m pc' Ls (v :: st))) : Go X R Z a0 EL nw y bs ml rt Q kc ks sf h k n (mkF X.m pc Ls (.ref a :: st)) := by
  subst hp
  exact Go.same (fun F X1 eT hZ hown => getF X1 F.1 (Z := Z) hZ hown (host := "") (Or.inl w) Via.refl eT Fl (g := mkF X.m pc Ls (.ref a :: st)) rfl rfl (hb F.2.1 hd)) G
theorem g_getstatic {O nm d : String} {ix : Nat} {v : Value} (hd : decode bs pc = .ok (.getstatic ix, 3)) (hp : pc + 3 = pc') (w : (Jvm.Cond.fieldLink y.cls ix O nm d).before a0 Z = true) (Fl : Sta Z Z.heap O nm d v) (G : Go X R Z a0 EL nw y bs ml rt Q kc ks sf h k n (mkF X.m pc' Ls (v :: st))) : Go X R Z a0 EL nw y bs ml rt Q kc ks sf h k n (mkF X.m pc Ls st) := by
  subst hp
  exact Go.old fun E => Go.same (fun F X1 eT hZ hown => getS X1 F.1 (Z := Z) hZ (host := "") hown w Via.refl eT (Fl.ext E) (g := mkF X.m pc Ls st) rfl (hb F.2.1 hd)) G
theorem g_putfield {O nm d C : String} {ix kk : Nat} {ty : FieldType} {a : Addr} {v old : Value} (hd : decode bs pc = .ok (.putfield ix, 3)) (hp : pc + 3 = pc') (w : (Jvm.Cond.fieldLink y.cls ix O nm d).before a0 Z = true) (Fl : Fld Z h a O nm d old) (E : Exa Z h a C)
    (L : (Jvm.Cond.lays C O nm d).before a0 Z = true ∨ ((Jvm.Cond.laysFinal C O nm d).before a0 Z = true ∧ y.cls = O ∧ y.name = "<init>")) (wi : (Jvm.Cond.instantiable C kk).before a0 Z = true) (hty : parseFieldDescriptor d = some ty) (hn : narrow ty v = v) (hf : fits ty v = true) (ha : Z.heap.size ≤ a) (hm : a ∈ sf)
    (G : ∀ h', Wr h h' a (RoadKit.slotOf Z O nm d) v → Go X R Z a0 EL nw y bs ml rt Q kc ks sf h' k n (mkF X.m pc' Ls st)) : Go X R Z a0 EL nw y bs ml rt Q kc ks sf h k n (mkF X.m pc Ls (v :: .ref a :: st)) := by
  subst hp
  exact Go.write (v := v) ha (sfIn hm) (fun F X1 eT hZ hown => putF X1 F.1 (Z := Z) hZ hown (host := "") (Or.inl w) Via.refl eT Fl E (L.imp id fun q => ⟨q.1, q.2.1, F.2.2.2.2.1.trans q.2.2⟩) wi hty hn hf (g := mkF X.m pc Ls (v :: .ref a :: st)) rfl rfl (hb F.2.1 hd)) G
theorem g_checkcast {K : String} {ix : Nat} {a : Addr} (hd : decode bs pc = .ok (.checkcast ix, 3)) (hp : pc + 3 = pc') (w : (Jvm.Cond.classLink y.cls ix K).before a0 Z = true) (I : Ins Z h a K true) (G : Go X R Z a0 EL nw y bs ml rt Q kc ks sf h k n (mkF X.m pc' Ls (.ref a :: st))) : Go X R Z a0 EL nw y bs ml rt Q kc ks sf h k n (mkF X.m pc Ls (.ref a :: st)) := by
  subst hp
  exact Go.same (fun F X1 eT hZ hown => castY X1 F.1 (Z := Z) hZ hown w eT I (g := mkF X.m pc Ls (.ref a :: st)) rfl rfl (hb F.2.1 hd)) G
theorem g_instanceofY {K : String} {ix : Nat} {a : Addr} (hd : decode bs pc = .ok (.instanceof ix, 3)) (hp : pc + 3 = pc') (w : (Jvm.Cond.classLink y.cls ix K).before a0 Z = true) (I : Ins Z h a K true) (G : Go X R Z a0 EL nw y bs ml rt Q kc ks sf h k n (mkF X.m pc' Ls (.int 1 :: st))) : Go X R Z a0 EL nw y bs ml rt Q kc ks sf h k n (mkF X.m pc Ls (.ref a :: st)) := by
  subst hp
  exact Go.same (fun F X1 eT hZ hown => instY X1 F.1 (Z := Z) hZ hown w eT I (g := mkF X.m pc Ls (.ref a :: st)) rfl rfl (hb F.2.1 hd)) G
/-- Object's constructor -/
theorem g_objinit {ix : Nat} {a : Addr} (hd : decode bs pc = .ok (.invokespecial ix, 3)) (hp : pc + 3 = pc') (w1 : (Jvm.Cond.methodLink y.cls ix Lib.objectInit).before a0 Z = true) (w2 : (Jvm.Cond.instanceMethod Lib.objectInit).before a0 Z = true) (w3 : (Jvm.Cond.code Lib.objectInit ⟨#[0xb1]⟩ 1 none).before a0 Z = true)
    (hz : Ls.size = ml) (hf : Nat.ble 1 R.frames = true) (hl : Nat.ble ((st.map fun v => v.category).sum + 12) R.locals = true) (G : Go X R Z a0 EL nw y bs ml rt Q kc ks sf h k n (mkF X.m pc' Ls st)) : Go X R Z a0 EL nw y bs ml rt Q kc ks sf h k n (mkF X.m pc Ls (.ref a :: st)) := by
  subst hp
  exact Go.same (fun F X1 eT hZ hown => initO X1 F.1 (Z := Z) hZ hown w1 w2 w3 eT (g := mkF X.m pc Ls (.ref a :: st)) rfl (by rw [F.2.2.1]; exact hz) rfl (hb F.2.1 hd) (ble hf) (W := (st.map fun v => v.category).sum) (by show 2 * 0 + _ ≤ _; omega) (ble hl)) G
/-- an array's clone() -/
theorem g_clone {ix cap : Nat} {ad : String} {a : Addr} {kA : ClassId} {ty : FieldType} {z : Int32} {vs : List Value} {d : Value} (hd : decode bs pc = .ok (.invokevirtual ix, 3)) (hp : pc + 3 = pc')
    (w1 : (Jvm.Cond.methodLink y.cls ix ⟨ad, "clone", "()Ljava/lang/Object;"⟩).before a0 Z = true) (w2 : (Jvm.Cond.sameMethod ad "java/lang/Object" "clone" "()Ljava/lang/Object;").before a0 Z = true) (w3 : (Jvm.Cond.native ⟨"java/lang/Object", "clone", "()Ljava/lang/Object;"⟩).before a0 Z = true)
    (w4 : (Jvm.Cond.instanceMethod ⟨"java/lang/Object", "clone", "()Ljava/lang/Object;"⟩).before a0 Z = true) (w5 : (Jvm.Cond.selects ad ⟨ad, "clone", "()Ljava/lang/Object;"⟩ ⟨"java/lang/Object", "clone", "()Ljava/lang/Object;"⟩).before a0 Z = true) (w6 : (Jvm.Cond.castable ad "java/lang/Cloneable").before a0 Z = true)
    (A : Arv Z h a kA ty z vs d) (E : Exa Z h a ad) (hz : Ls.size = ml) (hf : Nat.ble 1 R.frames = true) (hl : Nat.ble ((st.map fun v => v.category).sum + 14) R.locals = true) (hcap : z.toNatClampNeg ≤ cap) (hk : Nat.ble (k + 1) R.cells = true) (hn : Nat.ble (n + cap) R.slots = true)
    (G : ∀ h' b, b = h.size → Ext h h' → Arv Z h' b kA ty z vs d → Exa Z h' b ad → Go X R Z a0 EL nw y bs ml rt Q kc ks (b :: sf) h' (k + 1) (n + cap) (mkF X.m pc' Ls (.ref b :: st))) : Go X R Z a0 EL nw y bs ml rt Q kc ks sf h k n (mkF X.m pc Ls (.ref a :: st)) := fun T S => by
  subst hp
  obtain ⟨F, vm0, L, X1, eT, hS, hZ, hown, hC, hF, hE, hs, hN⟩ := S
  obtain ⟨c, Ar, k1, s1, n1, H, G1⟩ := A
  have hfit : FitC Z c := fitC_of Ar fun i hi v hv => by
    have q := H i hi
    rw [hv] at q
    cases q
    exact G1 i hi
  obtain ⟨T', h', X2, e2, E2, A2, B2, stp⟩ := cloneA X1 F.1 (Z := Z) hZ hown w1 w2 w3 w4 w5 w6 eT Ar E hfit (g := mkF X.m pc Ls (.ref a :: st)) rfl (by rw [F.2.2.1]; exact hz) rfl (hb F.2.1 hd) (ble hf) (W := (st.map fun v => v.category).sum) (cap := cap) (by show 2 * 0 + _ ≤ _; omega) (ble hl) (by rw [s1]; exact hcap) (ble hk) (ble hn)
  have A3 : Arv Z h' h.size kA ty z vs d := ⟨cloneOf c, A2, k1, s1, n1, H, G1⟩
  refine (G h' _ rfl E2 A3 B2 T' ?_).back stp
  exact ⟨F, vm0, _, X2, e2, ⟨hS.1, hS.2.mono E2.1⟩, hZ, hown, hC.trans (CHr.ext E2 hC.1), hF, ext_trans hE E2, fun x hx => by
    rcases List.mem_cons.mp hx with rfl | hx
    · exact ⟨A3.lt, Safe.ext E2 hC.1 (Safe.new (Nat.le_refl _))⟩
    · exact ⟨Nat.lt_of_lt_of_le (hs x hx).1 E2.1, Safe.ext E2 hC.1 (hs x hx).2⟩, hN⟩
/-! a String constant -/
theorem g_ldcS (hnw : nw = false) {text : String} {ix nn : Nat} {vs : List Value} {z : Int32} (hd : decode bs pc = .ok (.ldc ix, 2)) (hp : pc + 2 = pc') (w : (Jvm.Cond.stringLink y.cls ix text).before a0 Z = true) (wS : ∀ a ∈ Bundle.stringAtoms, a.before a0 Z = true) (hm : (y.cls, ix) ∈ EL)
    (ht : (∀ c ∈ text.toList, c.toNat < 256) ∧ text.toList.map (fun c => Value.int (Jvm.Lit.byteI c.toNat.toUInt16)) = vs) (hz : ¬ z < 0) (hl : z.toNatClampNeg = vs.length) (h4 : Nat.ble (4 * text.toList.length) nn = true) (hbig : Nat.ble nn 536870912 = true) (hk : Nat.ble (k + 2) R.cells = true) (hn : Nat.ble (n + (nn + 4)) R.slots = true)
    (G : ∀ h' a b kb, Ext h h' → Exa Z h' a "java/lang/String" → Fld Z h' a "java/lang/String" "coder" "B" (.int 0) → Fld Z h' a "java/lang/String" "value" "[B" (.ref b) → Arv Z h' b kb .byte z vs (.int 0) → (∀ x ∈ sf, x ≠ a ∧ x ≠ b) → Go X R Z a0 EL nw y bs ml rt Q kc ks sf h' (k + 2) (n + (nn + 4)) (mkF X.m pc' Ls (.ref a :: st))) : Go X R Z a0 EL nw y bs ml rt Q kc ks sf h k n (mkF X.m pc Ls st) := fun T S => by
  subst hp
  obtain ⟨F, vm0, L, X1, eT, hS, hZ, hown, hC, hF, hE, hs, hN⟩ := S
  obtain ⟨a, T', h', k1, b, kb, X2, e2, E2, hS2, hk2, hZ2, hown2, A1, A2, A3, A4, l1, l2, hC2, -, hne, q⟩ := ldcCH X1 F.1 (Z := Z) hZ hown w wS eT hS (Nat.le_refl _) F.2.2.2.2.2.2 hm hC.1 ht hz hl (g := mkF X.m pc Ls st) rfl (hb F.2.1 hd) (ble h4) (ble hbig) (ble hk) (ble hn)
  have hs' : ∀ x ∈ sf, x < h'.size ∧ Safe Z EL T'.vm h' x := fun x hx => ⟨Nat.lt_of_lt_of_le (hs x hx).1 E2.1, hC2.safe (hs x hx).1 (hs x hx).2⟩
  exact (G h' a b kb E2 A1 A2 A3 A4 (fun x hx => hne x (hs' x hx).2) T' ⟨F, T'.vm, L, X2, e2, ⟨hS2.1, hS2.2.mono hk2⟩, hZ2, hown2, hC.trans hC2, hF, ext_trans hE E2, hs', fun q => by rw [hnw] at q; cases q⟩).back q
/-! calls -/
/-- whoever pays the call of y on the arguments as', from the heap h: at most kc cells and ks slots made; Q of what comes back -/
def Pay (l : Launch) (R : Room) (y : MethodName) (W : Nat) (as' : Array Value) (Z : State) (a0 : Array Value) (EL : List (String × Nat)) (nw : Bool) (sf : List Addr) (h : Heap) (kc ks : Nat) (Q : Option Value → Heap → Prop) : Prop :=
  ∀ (p : Program) (e : Env) (below : List Frame) (s : State) (args : Array Value) (len : Nat) (vm0 : Vm), Z.Warmed39 vm0 → CHv Z EL vm0 h → Ext Z.heap h → (∀ x ∈ sf, x < h.size ∧ Safe Z EL vm0 h x) → EW Z a0 EL →
    BackS l R p e below (s.setVm vm0) args y len W (fun A a => a = as' ∧ A.U.heap = h ∧ A.cells + kc ≤ R.cells ∧ A.slots + ks ≤ R.slots)
      (fun A _ v B => ∃ L, (Q v B.U.heap ∧ Fr Z.heap.size L ∧ Ext Z.heap B.U.heap) ∧ B.locs = A.locs ++ L ∧ B.cells = A.cells + kc ∧ B.slots = A.slots + ks ∧ CHr Z EL vm0 h B.U.vm B.U.heap ∧ (nw = true → (s.setVm vm0).WarmedH B.U.vm))
/-- the contract of a method: walked from its entry -/
def MetW (ws : List Jvm.Cond) (l : Launch) (y : MethodName) (bs : ByteArray) (ml : Nat) (rt : Option FieldType) (rm : Room) (as' : Array Value) (Z : State) (a0 : Array Value) (EL : List (String × Nat)) (nw : Bool) (sf : List Addr) (h : Heap) (Q : Option Value → Heap → Prop) : Prop :=
  MetFree l y (head1 (Jvm.Cond.code y bs ml rt :: ws) rm) (fun a U => a = as' ∧ Z.Warmed39 U.vm ∧ U.heap = h ∧ CHv Z EL U.vm h ∧ Ext Z.heap h ∧ EW Z a0 EL ∧ ∀ x ∈ sf, x < h.size ∧ Safe Z EL U.vm h x) (fun _ _ _ _ _ => True)
    (fun _ U o U' => ∃ v L, o = .returned v ∧ (Q v U'.heap ∧ Fr Z.heap.size L ∧ Ext Z.heap U'.heap) ∧ CHr Z EL U.vm U.heap U'.vm U'.heap ∧ (nw = true → U.WarmedH U'.vm) ∧ ReturnedEndW U o U' L rm.cells rm.slots)
theorem MetW.of {ws : List Jvm.Cond} {l : Launch} {rm : Room} {as' : Array Value} (hpl : plainFor y = true)
    (H : ∀ X : Cx, X.l = l → Go X rm Z a0 EL nw y bs ml rt Q rm.cells rm.slots sf h 0 0 (entryFrame X.m as' ml)) : MetW ws l y bs ml rt rm as' Z a0 EL nw sf h Q := by
  refine MetFree.of_bodySF hpl hisR ?_
  intro p e s m args below meth c s₁ Bd hml0 hP hK
  obtain ⟨rfl, hZ, rfl, hC, hE, hEL, hs⟩ := hP
  have e0 : s₁.heap = s.heap := by rw [Bd.state]; rfl
  exact H (p, l, e, s, m, args, below, meth, c) rfl s₁ ⟨⟨Bd.exec, Bd.bytes, hml0, Bd.returns, (name_of_methodNamed Bd.named Bd.method).1, Bd.notSynchronized, hEL⟩, s.vm, [], Stand.of_body Bd, e0, (State.WarmedH.refl s).since _, hZ, findClass_of_methodNamed Bd.named, CHr.refl hC, Fr.nil _, hE, hs, fun _ => State.WarmedH.refl s⟩
theorem Pay.of_met {l : Launch} {rm : Room} {as' : Array Value} {W : Nat} (hM : MetW [] l y bs ml rt rm as' Z a0 EL nw sf h Q) (wc : (Jvm.Cond.code y bs ml rt).before a0 Z = true) (wz : (Jvm.Cond.initialized y.cls).before a0 Z = true) (hf : Nat.ble (rm.frames + 1) R.frames = true) (hl : Nat.ble (W + (ml + 11) + rm.locals) R.locals = true) :
    Pay l R y W as' Z a0 EL nw sf h rm.cells rm.slots Q := fun p e below s args len vm0 hZ H hE hs hEL =>
  BackS.of_freeW (bytes := bs) (maxL := ml) (ret := rt) (E := fun _ first o t L k n => k = rm.cells ∧ n = rm.slots ∧ (∃ v, o = .returned v ∧ Q v t.heap ∧ Fr Z.heap.size L ∧ Ext Z.heap t.heap) ∧ CHr Z EL first.vm first.heap t.vm t.heap ∧ (nw = true → first.WarmedH t.vm)) hM (ble hf) (ble hl)
    (fun m meth c A a Y hp => have hU : Z.Warmed39 A.U.vm := wtrans (s := s.setVm vm0) hZ Y.warmed
      ⟨by show (Jvm.Cond.and _ .tt).before a A.U = true; rw [Cond.before_and, mv hU wc]; rfl, mv hU wc, mv hU wz, hp.2.2.1, hp.2.2.2⟩)
    (fun m meth c A a g mk Y hp => ⟨hp.1, wtrans (s := s.setVm vm0) hZ Y.warmed, hp.2.1, (CHv.at Y hZ hEL H).1, hE, hEL, fun x hx => ⟨(hs x hx).1, (CHv.at Y hZ hEL H).safe (hs x hx).1 (hs x hx).2⟩⟩) (fun _ _ _ _ _ _ _ _ _ => trivial)
    (fun _ _ _ _ ⟨v, L, h1, h2, h3, h5, h4⟩ => ⟨L, _, _, h4, rfl, rfl, ⟨v, h1, h2⟩, h3, h5⟩)
    (fun m meth c A a g mk v t L k n Y hp _ _ ⟨e1, e2, ⟨v', e3, e4⟩, e5, e6⟩ => by
      cases e3; subst e1 e2
      refine ⟨L, e4, rfl, rfl, rfl, (CHv.at Y hZ hEL H).trans ?_, fun q => State.WarmedH.trans Y.warmed (e6 q)⟩
      rw [← hp.2.1]; exact e5)
/-- a law of the other texts, that interns nothing: what it writes are cells made since the start, no literal's -/
theorem Pay.of_back {l : Launch} {as' : Array Value} {W : Nat} {Q0 : Option Value → Heap → List Loc → Prop} (wsl : List Addr)
    (hB : ∀ (p : Program) (e : Env) (below : List Frame) (s : State) (args : Array Value) (len : Nat), Z.Warmed39 s.vm → Back l R p e below s args y len W (fun A a => a = as' ∧ A.U.heap = h ∧ A.cells + kc ≤ R.cells ∧ A.slots + ks ≤ R.slots) (fun A _ v B => ∃ L, Q0 v B.U.heap L ∧ B.locs = A.locs ++ L ∧ B.cells = A.cells + kc ∧ B.slots = A.slots + ks))
    (hw : ∀ x ∈ wsl, x ∈ sf ∧ Z.heap.size ≤ x) (hQ : ∀ v h' L, Q0 v h' L → Q v h' ∧ Keep h h' wsl ∧ Fr Z.heap.size L) : Pay l R y W as' Z a0 EL nw sf h kc ks Q := fun p e below s args len vm0 hZ H hE hs hEL m meth c A g ig mk a X1 hg hsize hdg hW hn hp => by
  obtain ⟨v, B, X2, ⟨L, hq, e1, e2, e3⟩, stp⟩ := hB p e below (s.setVm vm0) args len hZ m meth c A g ig mk a X1 hg hsize hdg hW hn hp
  obtain ⟨q1, q2, q3⟩ := hQ _ _ _ hq
  have hC2 : CHr Z EL vm0 h vm0 B.U.heap := CHr.keep q2 (fun x hx => (hs x (hw x hx).1).2) H
  have hsz : A.U.heap.size ≤ B.U.heap.size := by rw [hp.2.1]; exact q2.1
  exact ⟨v, B, X2.retabled X2.warmed.wide, X2.warmed.since _, hsz, ⟨L, ⟨q1, q3, ext_keep hE q2 fun x hx => (hw x hx).2⟩, e1, e2, e3, hC2.trans (CHv.at X2 hZ hEL hC2.1), fun _ => X2.warmed⟩, stp⟩
theorem Pay.pure {l : Launch} {as' : Array Value} {W : Nat} {P : Option Value → Prop}
    (hB : ∀ (p : Program) (e : Env) (below : List Frame) (s : State) (args : Array Value) (len : Nat), Z.Warmed39 s.vm → Back l R p e below s args y len W (fun A a => a = as' ∧ A.U.heap = h ∧ A.cells + 0 ≤ R.cells ∧ A.slots + 0 ≤ R.slots) (fun A _ v B => ∃ L, (P v ∧ L = [] ∧ B.U.heap = h) ∧ B.locs = A.locs ++ L ∧ B.cells = A.cells + 0 ∧ B.slots = A.slots + 0)) : Pay l R y W as' Z a0 EL nw sf h 0 0 (fun v h' => P v ∧ h' = h) :=
  Pay.of_back (Q0 := fun v h' L => P v ∧ L = [] ∧ h' = h) [] hB (fun _ q => nomatch q) fun v h' L q => by
    obtain ⟨q1, rfl, rfl⟩ := q
    exact ⟨⟨q1, rfl⟩, Keep.refl _ _, Fr.nil _⟩
theorem Pay.weak {l : Launch} {as' : Array Value} {W : Nat} {Q' : Option Value → Heap → Prop} (P : Pay l R y W as' Z a0 EL nw sf h kc ks Q) (hQ : ∀ v h', Q v h' → Q' v h') : Pay l R y W as' Z a0 EL nw sf h kc ks Q' := fun p e below s args len vm0 hZ H hE hs hEL m meth c A g ig mk a X1 hg hsize hdg hW hn hp => by
  obtain ⟨v, B, X2, h1, h2, ⟨L, ⟨q1, q2⟩, r⟩, stp⟩ := P p e below s args len vm0 hZ H hE hs hEL m meth c A g ig mk a X1 hg hsize hdg hW hn hp
  exact ⟨v, B, X2, h1, h2, ⟨L, ⟨hQ _ _ q1, q2⟩, r⟩, stp⟩
/-- more room than it needs -/
theorem Pay.up {l : Launch} {as' : Array Value} {W kc' ks' : Nat} (P : Pay l R y W as' Z a0 EL nw sf h kc ks Q) (hk : kc ≤ kc') (hs' : ks ≤ ks') : Pay l R y W as' Z a0 EL nw sf h kc' ks' Q := fun p e below s args len vm0 hZ H hE hs hEL m meth c A g ig mk a X1 hg hsize hdg hW hn hp => by
  obtain ⟨v, B, X2, h1, h2, ⟨L, q, e1, e2, e3, r⟩, stp⟩ := P p e below s args len vm0 hZ H hE hs hEL m meth c A g ig mk a X1 hg hsize hdg hW hn ⟨hp.1, hp.2.1, by have := hp.2.2.1; omega, by have := hp.2.2.2; omega⟩
  exact ⟨v, ⟨B.U, B.locs, A.cells + kc', A.slots + ks'⟩, X2.mono (by rw [e2]; show _ ≤ A.cells + kc'; omega) (by rw [e3]; show _ ≤ A.slots + ks'; omega), h1, h2, ⟨L, q, e1, rfl, rfl, r⟩, stp⟩
/-- behind any call -/
theorem Go.back {vm0 : Vm} {L : List Loc} {kc' ks' : Nat} {Q' : Option Value → Heap → Prop} {v : Option Value} {B : Pt} (F : Fix X Z a0 EL y bs ml rt) (eT : T.heap = h) (hS : X.s.Since vm0 h.size) (hZ : Z.Warmed39 vm0) (hown : vm0.findClass y.cls = some X.m.cls) (hC : CHr Z EL X.s.vm X.s.heap vm0 h) (hF : Fr Z.heap.size L) (hs : ∀ x ∈ sf, x < h.size ∧ Safe Z EL vm0 h x)
    (X2 : Stand X.p X.l X.e R ((X.s.setVm vm0).setVm B.U.vm) X.m X.args X.below X.meth X.c B.U B.locs B.cells B.slots) (hS2 : (X.s.setVm vm0).Since B.U.vm B.U.heap.size) (hle : T.heap.size ≤ B.U.heap.size)
    (hq : ∃ L', (Q' v B.U.heap ∧ Fr Z.heap.size L' ∧ Ext Z.heap B.U.heap) ∧ B.locs = L ++ L' ∧ B.cells = k + kc' ∧ B.slots = n + ks' ∧ CHr Z EL vm0 h B.U.vm B.U.heap ∧ (nw = true → (X.s.setVm vm0).WarmedH B.U.vm)) (hN : nw = true → X.s.WarmedH vm0)
    (G : ∀ v h', Q' v h' → h.size ≤ h'.size → Go X R Z a0 EL nw y bs ml rt Q kc ks sf h' (k + kc') (n + ks') (mkF X.m pc' Ls (v.toList ++ st))) : Done X Z EL nw Q kc ks B.U (mkF X.m pc' Ls (v.toList ++ st)) := by
  subst eT
  obtain ⟨L', ⟨q1, q2, q3⟩, e1, e2, e3, hC2, hN2⟩ := hq
  rw [e1, e2, e3] at X2
  exact G v B.U.heap q1 hle B.U ⟨F, B.U.vm, _, X2, rfl, hS.trans hS2 hle, State.Warmed39.trans (t := X.s.setVm vm0) hZ hS2.1, (hS2.1.alike.findClass _ _).trans hown, hC.trans hC2, hF.app q2, q3, fun x hx => ⟨Nat.lt_of_lt_of_le (hs x hx).1 hle, hC2.safe (hs x hx).1 (hs x hx).2⟩, fun q => State.WarmedH.trans (hN q) (hN2 q)⟩
theorem g_invokestatic {ix : Nat} {y' : MethodName} {bs' : ByteArray} {ml' : Nat} {rt' : Option FieldType} {as' : Array Value} {kc' ks' : Nat} {Q' : Option Value → Heap → Prop} (sfc : List Addr) (argsL : List Value) {ps : List FieldType} {r : Option FieldType} (hd : decode bs pc = .ok (.invokestatic ix, 3)) (hp : pc + 3 = pc')
    (w1 : (Jvm.Cond.methodLink y.cls ix y').before a0 Z = true) (w2 : (Jvm.Cond.static y').before a0 Z = true) (w3 : (Jvm.Cond.initialized y'.cls).before a0 Z = true) (w4 : (Jvm.Cond.code y' bs' ml' rt').before a0 Z = true) (hy : y'.cls ≠ "java/lang/invoke/MethodHandle" ∧ y'.cls ≠ "java/lang/invoke/VarHandle")
    (P : Pay X.l R y' (st.map fun v => v.category).sum as' Z a0 EL nw sfc h kc' ks' Q') (hpd : parseMethodDescriptor y'.desc = some ⟨ps, r⟩) (hlen : argsL.length = ps.length) (hargs : argsL.toArray = as') (hz : Ls.size = ml) (hk : Nat.ble (k + kc') R.cells = true) (hn : Nat.ble (n + ks') R.slots = true) (hsf : ∀ x ∈ sfc, x ∈ sf)
    (G : ∀ v h', Q' v h' → h.size ≤ h'.size → Go X R Z a0 EL nw y bs ml rt Q kc ks sf h' (k + kc') (n + ks') (mkF X.m pc' Ls (v.toList ++ st))) : Go X R Z a0 EL nw y bs ml rt Q kc ks sf h k n (mkF X.m pc Ls (argsL.reverse ++ st)) := fun T S => by
  subst hp
  obtain ⟨F, vm0, L, X1, eT, hS, hZ, hown, hC, hF, hE, hs, hN⟩ := S
  obtain ⟨v, vm1, B, -, X2, hS2, hle, hq, stp⟩ := callSS X1 F.1 (y := y') hown (mvT (s := X.s.setVm vm0) hZ w1) (mvT (s := X.s.setVm vm0) hZ w2) (mvT (s := X.s.setVm vm0) hZ w3) (mvT (s := X.s.setVm vm0) hZ w4) hy (P _ _ _ _ _ _ vm0 hZ hC.1 hE (fun x hx => hs x (hsf x hx)) F.2.2.2.2.2.2) (g := mkF X.m pc Ls (argsL.reverse ++ st)) rfl (by rw [F.2.2.1]; exact hz) (argsL := argsL) (rest := st) (lenOf hpd hlen) rfl (by show 2 * 0 + _ ≤ _; omega) (hb F.2.1 hd) (fun _ _ => ⟨hargs, eT, ble hk, ble hn⟩)
  exact (Go.back F eT hS hZ hown hC hF hs X2 hS2 hle hq hN G).back fun t q => stp.trans q
theorem g_invokestaticB (nb : Option Value → List Addr) {ix : Nat} {y' : MethodName} {bs' : ByteArray} {ml' : Nat} {rt' : Option FieldType} {as' : Array Value} {kc' ks' : Nat} {Q' : Option Value → Heap → Prop} (sfc : List Addr) (argsL : List Value) {ps : List FieldType} {r : Option FieldType} (hd : decode bs pc = .ok (.invokestatic ix, 3)) (hp : pc + 3 = pc')
    (w1 : (Jvm.Cond.methodLink y.cls ix y').before a0 Z = true) (w2 : (Jvm.Cond.static y').before a0 Z = true) (w3 : (Jvm.Cond.initialized y'.cls).before a0 Z = true) (w4 : (Jvm.Cond.code y' bs' ml' rt').before a0 Z = true) (hy : y'.cls ≠ "java/lang/invoke/MethodHandle" ∧ y'.cls ≠ "java/lang/invoke/VarHandle")
    (P : Pay X.l R y' (st.map fun v => v.category).sum as' Z a0 EL true sfc h kc' ks' Q') (hE' : ∀ v h', Q' v h' → Ext h h') (hnb : ∀ v h', Q' v h' → ∀ x ∈ nb v, h.size ≤ x ∧ x < h'.size) (hpd : parseMethodDescriptor y'.desc = some ⟨ps, r⟩) (hlen : argsL.length = ps.length) (hargs : argsL.toArray = as') (hz : Ls.size = ml) (hk : Nat.ble (k + kc') R.cells = true) (hn : Nat.ble (n + ks') R.slots = true) (hsf : ∀ x ∈ sfc, x ∈ sf)
    (G : ∀ v h', Q' v h' → h.size ≤ h'.size → Go X R Z a0 EL nw y bs ml rt Q kc ks (nb v ++ sf) h' (k + kc') (n + ks') (mkF X.m pc' Ls (v.toList ++ st))) : Go X R Z a0 EL nw y bs ml rt Q kc ks sf h k n (mkF X.m pc Ls (argsL.reverse ++ st)) := fun T S => by
  subst hp
  obtain ⟨F, vm0, L, X1, eT, hS, hZ, hown, hC, hF, hE, hs, hN⟩ := S
  obtain ⟨v, vm1, B, -, X2, hS2, hle, hq, stp⟩ := callSS X1 F.1 (y := y') hown (mvT (s := X.s.setVm vm0) hZ w1) (mvT (s := X.s.setVm vm0) hZ w2) (mvT (s := X.s.setVm vm0) hZ w3) (mvT (s := X.s.setVm vm0) hZ w4) hy (P _ _ _ _ _ _ vm0 hZ hC.1 hE (fun x hx => hs x (hsf x hx)) F.2.2.2.2.2.2) (g := mkF X.m pc Ls (argsL.reverse ++ st)) rfl (by rw [F.2.2.1]; exact hz) (argsL := argsL) (rest := st) (lenOf hpd hlen) rfl (by show 2 * 0 + _ ≤ _; omega) (hb F.2.1 hd) (fun _ _ => ⟨hargs, eT, ble hk, ble hn⟩)
  refine Done.back (T' := B.U) (g' := mkF X.m (pc + 3) Ls (v.toList ++ st)) (fun t q => stp.trans q) ?_
  subst eT
  obtain ⟨L', ⟨q1, q2, q3⟩, e1, e2, e3, hC2, hN2⟩ := hq
  have hW : (X.s.setVm vm0).WarmedH B.U.vm := hN2 rfl
  have hlat := CHv.later (vm := vm0) (vm1 := B.U.vm) (h := T.heap) (h' := T.heap) hZ (show (Wst Z vm0 T.heap).Warmed39 B.U.vm from hW.wide) F.2.2.2.2.2.2 (ext_refl _) (Or.inl hW.interned_eq) hC.1
  rw [e1, e2, e3] at X2
  refine G v B.U.heap q1 hle B.U ⟨F, B.U.vm, _, X2, rfl, hS.trans hS2 hle, State.Warmed39.trans (t := X.s.setVm vm0) hZ hS2.1, (hS2.1.alike.findClass _ _).trans hown, hC.trans hC2, hF.app q2, q3, fun x hx => ?_, fun q => State.WarmedH.trans (hN q) hW⟩
  rcases List.mem_append.mp hx with hx | hx
  · exact ⟨(hnb _ _ q1 x hx).2, Safe.ext (hE' _ _ q1) hlat.1 (Safe.new (hnb _ _ q1 x hx).1)⟩
  · exact ⟨Nat.lt_of_lt_of_le (hs x hx).1 hle, hC2.safe (hs x hx).1 (hs x hx).2⟩
theorem g_invokespecial {ix : Nat} {y' : MethodName} {bs' : ByteArray} {ml' : Nat} {as' : Array Value} {kc' ks' : Nat} {Q' : Option Value → Heap → Prop} (sfc : List Addr) {a : Addr} (argsL : List Value) {ps : List FieldType} {r : Option FieldType} (hd : decode bs pc = .ok (.invokespecial ix, 3)) (hp : pc + 3 = pc') (hi : y'.name = "<init>")
    (w1 : (Jvm.Cond.methodLink y.cls ix y').before a0 Z = true) (w2 : (Jvm.Cond.instanceMethod y').before a0 Z = true) (w4 : (Jvm.Cond.code y' bs' ml' none).before a0 Z = true) (hy : y'.cls ≠ "java/lang/invoke/MethodHandle" ∧ y'.cls ≠ "java/lang/invoke/VarHandle")
    (P : Pay X.l R y' (st.map fun v => v.category).sum as' Z a0 EL nw sfc h kc' ks' Q') (hpd : parseMethodDescriptor y'.desc = some ⟨ps, r⟩) (hlen : argsL.length = ps.length) (hargs : (Value.ref a :: argsL).toArray = as') (hz : Ls.size = ml) (hk : Nat.ble (k + kc') R.cells = true) (hn : Nat.ble (n + ks') R.slots = true) (hsf : ∀ x ∈ sfc, x ∈ sf)
    (G : ∀ v h', Q' v h' → h.size ≤ h'.size → Go X R Z a0 EL nw y bs ml rt Q kc ks sf h' (k + kc') (n + ks') (mkF X.m pc' Ls (v.toList ++ st))) : Go X R Z a0 EL nw y bs ml rt Q kc ks sf h k n (mkF X.m pc Ls (argsL.reverse ++ .ref a :: st)) := fun T S => by
  subst hp
  obtain ⟨F, vm0, L, X1, eT, hS, hZ, hown, hC, hF, hE, hs, hN⟩ := S
  obtain ⟨v, vm1, B, -, X2, hS2, hle, hq, stp⟩ := X1.specialBackS F.1 (y := y') hi hown (mvT (s := X.s.setVm vm0) hZ w1) (mvT (s := X.s.setVm vm0) hZ w2) (mvT (s := X.s.setVm vm0) hZ w4) hy (P _ _ _ _ _ _ vm0 hZ hC.1 hE (fun x hx => hs x (hsf x hx)) F.2.2.2.2.2.2) (g := mkF X.m pc Ls (argsL.reverse ++ .ref a :: st)) rfl (by rw [F.2.2.1]; exact hz) (Steps.refl _) (a := a) (argsL := argsL) (rest := st) (lenOf hpd hlen) rfl (by show 2 * 0 + _ ≤ _; omega) (hb F.2.1 hd) (fun _ _ => ⟨hargs, eT, ble hk, ble hn⟩)
  exact (Go.back F eT hS hZ hown hC hF hs X2 hS2 hle hq hN G).back fun t q => stp.trans q
def NF (Z : State) (y : MethodName) : Prop := ∀ s : State, Z.Warmed39 s.vm → NotFace s y
theorem g_invokevirtualN {ix : Nat} {C : String} {y' z' : MethodName} {as' : Array Value} {kc' ks' : Nat} {Q' : Option Value → Heap → Prop} (sfc : List Addr) {a : Addr} (argsL : List Value) {ps : List FieldType} {r : Option FieldType} (hd : decode bs pc = .ok (.invokevirtual ix, 3)) (hp : pc + 3 = pc')
    (w1 : (Jvm.Cond.methodLink y.cls ix y').before a0 Z = true) (w2 : (Jvm.Cond.declares y').before a0 Z = true) (w3 : (Jvm.Cond.selects C y' z').before a0 Z = true) (w4 : (Jvm.Cond.instanceMethod z').before a0 Z = true) (hy : y'.cls ≠ "java/lang/invoke/MethodHandle" ∧ y'.cls ≠ "java/lang/invoke/VarHandle")
    (hnf : NF Z y') (E : Exa Z h a C) (P : Pay X.l R z' (st.map fun v => v.category).sum as' Z a0 EL nw sfc h kc' ks' Q') (hpd : parseMethodDescriptor y'.desc = some ⟨ps, r⟩) (hlen : argsL.length = ps.length) (hargs : (Value.ref a :: argsL).toArray = as') (hz : Ls.size = ml) (hk : Nat.ble (k + kc') R.cells = true) (hn : Nat.ble (n + ks') R.slots = true) (hsf : ∀ x ∈ sfc, x ∈ sf)
    (G : ∀ v h', Q' v h' → h.size ≤ h'.size → Go X R Z a0 EL nw y bs ml rt Q kc ks sf h' (k + kc') (n + ks') (mkF X.m pc' Ls (v.toList ++ st))) : Go X R Z a0 EL nw y bs ml rt Q kc ks sf h k n (mkF X.m pc Ls (argsL.reverse ++ .ref a :: st)) := fun T S => by
  subst hp
  obtain ⟨F, vm0, L, X1, eT, hS, hZ, hown, hC, hF, hE, hs, hN⟩ := S
  obtain ⟨cq, kq, qa, qb, qc⟩ := isOf (s := X.s.setVm vm0) hZ eT E
  obtain ⟨v, vm1, B, -, X2, hS2, hle, hq, stp⟩ := X1.virtualBackS F.1 (y := y') (z := z') hown (mvT (s := X.s.setVm vm0) hZ w1) (mvT (s := X.s.setVm vm0) hZ w2) (hnf (X.s.setVm vm0) hZ) (mvT (s := X.s.setVm vm0) hZ w3) (mvT (s := X.s.setVm vm0) hZ w4) hy (P _ _ _ _ _ _ vm0 hZ hC.1 hE (fun x hx => hs x (hsf x hx)) F.2.2.2.2.2.2) qa qc (g := mkF X.m pc Ls (argsL.reverse ++ .ref a :: st)) rfl (by rw [F.2.2.1]; exact hz) (Steps.refl _) (argsL := argsL) (rest := st) (lenOf hpd hlen) rfl (by show 2 * 0 + _ ≤ _; omega) (hb F.2.1 hd) (fun _ _ => ⟨hargs, eT, ble hk, ble hn⟩)
  exact (Go.back F eT hS hZ hown hC hF hs X2 hS2 hle hq hN G).back fun t q => stp.trans q
theorem g_invokeinterface {ix cnt : Nat} {C : String} {y' z' : MethodName} {as' : Array Value} {kc' ks' : Nat} {Q' : Option Value → Heap → Prop} (sfc : List Addr) {a : Addr} (argsL : List Value) {ps : List FieldType} {r : Option FieldType} (hd : decode bs pc = .ok (.invokeinterface ix cnt, 5)) (hp : pc + 5 = pc')
    (w1 : (Jvm.Cond.methodLink y.cls ix y').before a0 Z = true) (w2 : (Jvm.Cond.declares y').before a0 Z = true) (w3 : (Jvm.Cond.selects C y' z').before a0 Z = true) (w4 : (Jvm.Cond.instanceMethod z').before a0 Z = true) (w5 : (Jvm.Cond.interfaceMethod y'.cls y'.cls y'.name y'.desc).before a0 Z = true) (d5 : ((Jvm.Cond.interfaceMethod y'.cls y'.cls y'.name y'.desc).onTables && (Jvm.Cond.interfaceMethod y'.cls y'.cls y'.name y'.desc).keepsFace) = true) (w6 : (Jvm.Cond.publicMethod z').before a0 Z = true) (w7 : (Jvm.Cond.unhidden C y'.name y'.desc).before a0 Z = true) (w8 : (Jvm.Cond.castable C y'.cls).before a0 Z = true) (hy : y'.cls ≠ "java/lang/invoke/MethodHandle" ∧ y'.cls ≠ "java/lang/invoke/VarHandle")
    (E : Exa Z h a C) (P : Pay X.l R z' (st.map fun v => v.category).sum as' Z a0 EL nw sfc h kc' ks' Q') (hpd : parseMethodDescriptor y'.desc = some ⟨ps, r⟩) (hlen : argsL.length = ps.length) (hargs : (Value.ref a :: argsL).toArray = as') (hz : Ls.size = ml) (hk : Nat.ble (k + kc') R.cells = true) (hn : Nat.ble (n + ks') R.slots = true) (hsf : ∀ x ∈ sfc, x ∈ sf)
    (G : ∀ v h', Q' v h' → h.size ≤ h'.size → Go X R Z a0 EL nw y bs ml rt Q kc ks sf h' (k + kc') (n + ks') (mkF X.m pc' Ls (v.toList ++ st))) : Go X R Z a0 EL nw y bs ml rt Q kc ks sf h k n (mkF X.m pc Ls (argsL.reverse ++ .ref a :: st)) := fun T S => by
  subst hp
  obtain ⟨F, vm0, L, X1, eT, hS, hZ, hown, hC, hF, hE, hs, hN⟩ := S
  obtain ⟨cq, kq, qa, qb, qc⟩ := isOf (s := X.s.setVm vm0) hZ eT E
  obtain ⟨v, vm1, B, -, X2, hS2, hle, hq, stp⟩ := X1.interfaceBackS F.1 (xi := y') (y := z') hown (mvT (s := X.s.setVm vm0) hZ w1) (mvT (s := X.s.setVm vm0) hZ w2) (mvT (s := X.s.setVm vm0) hZ w5 d5) (mvT (s := X.s.setVm vm0) hZ w3) (mvT (s := X.s.setVm vm0) hZ w4) (mvT (s := X.s.setVm vm0) hZ w6) (mvT (s := X.s.setVm vm0) hZ w7) (mvT (s := X.s.setVm vm0) hZ w8) hy (P _ _ _ _ _ _ vm0 hZ hC.1 hE (fun x hx => hs x (hsf x hx)) F.2.2.2.2.2.2) qa qb qc (g := mkF X.m pc Ls (argsL.reverse ++ .ref a :: st)) rfl (by rw [F.2.2.1]; exact hz) (Steps.refl _) (argsL := argsL) (rest := st) (lenOf hpd hlen) rfl (by show 2 * 0 + _ ≤ _; omega) (hb F.2.1 hd) (fun _ _ => ⟨hargs, eT, ble hk, ble hn⟩)
  exact (Go.back F eT hS hZ hown hC hF hs X2 hS2 hle hq hN G).back fun t q => stp.trans q
theorem NF.sel {C : String} {y' : MethodName} (w3 : (Jvm.Cond.selects C y' y').before a0 Z = true) : NF Z y' := fun s hZ => notFace_of_selects (args := #[]) (mvT (s := s) hZ w3)
theorem g_invokevirtual {ix : Nat} {C : String} {y' : MethodName} {as' : Array Value} {kc' ks' : Nat} {Q' : Option Value → Heap → Prop} (sfc : List Addr) {a : Addr} (argsL : List Value) {ps : List FieldType} {r : Option FieldType} (hd : decode bs pc = .ok (.invokevirtual ix, 3)) (hp : pc + 3 = pc')
    (w1 : (Jvm.Cond.methodLink y.cls ix y').before a0 Z = true) (w2 : (Jvm.Cond.declares y').before a0 Z = true) (w3 : (Jvm.Cond.selects C y' y').before a0 Z = true) (w4 : (Jvm.Cond.instanceMethod y').before a0 Z = true) (hy : y'.cls ≠ "java/lang/invoke/MethodHandle" ∧ y'.cls ≠ "java/lang/invoke/VarHandle")
    (E : Exa Z h a C) (P : Pay X.l R y' (st.map fun v => v.category).sum as' Z a0 EL nw sfc h kc' ks' Q') (hpd : parseMethodDescriptor y'.desc = some ⟨ps, r⟩) (hlen : argsL.length = ps.length) (hargs : (Value.ref a :: argsL).toArray = as') (hz : Ls.size = ml) (hk : Nat.ble (k + kc') R.cells = true) (hn : Nat.ble (n + ks') R.slots = true) (hsf : ∀ x ∈ sfc, x ∈ sf)
    (G : ∀ v h', Q' v h' → h.size ≤ h'.size → Go X R Z a0 EL nw y bs ml rt Q kc ks sf h' (k + kc') (n + ks') (mkF X.m pc' Ls (v.toList ++ st))) : Go X R Z a0 EL nw y bs ml rt Q kc ks sf h k n (mkF X.m pc Ls (argsL.reverse ++ .ref a :: st)) :=
  g_invokevirtualN sfc argsL hd hp w1 w2 w3 w4 hy (NF.sel w3) E P hpd hlen hargs hz hk hn hsf G
end Kit
end Own
open Own
namespace Own
open Jvm Jvm.ClassFile Sem Op Lib Jvm.Free Jvm.Stand Jvm.LawKit Jvm.RoadKit Bundle
/-- a boolean as an int -/
def b01 (b : Bool) : Int32 := if b then 1 else 0
theorem in0 {P : Int32 → Prop} : ∀ c ∈ ([] : List Int32), P c := fun _ q => nomatch q
theorem inS {P : Int32 → Prop} {c : Int32} {cs : List Int32} (q : P c) (r : ∀ x ∈ cs, P x) : ∀ x ∈ c :: cs, P x := fun x z => (List.mem_cons.mp z).elim (fun u => u ▸ q) (r x)
theorem i32_nat {c : Int32} (h0 : ¬ c < 0) : (c.toBitVec.toNat : Int) = c.toInt ∧ c.toBitVec.toNat < 2147483648 := by
  have h := c.toBitVec.isLt
  have e : c.toInt = c.toBitVec.toInt := rfl
  rw [Int32.lt_iff_toInt_lt] at h0
  have z : (0 : Int32).toInt = 0 := rfl
  rw [BitVec.toInt_eq_toNat_cond] at e
  split at e <;> omega
theorem c16_of {c : Int32} (h0 : ¬ c < 0) (h1 : ¬ (65535 : Int32) < c) : c.toUInt32.toUInt16.toUInt32.toInt32 = c := by
  obtain ⟨e, -⟩ := i32_nat h0
  have u : c.toInt ≤ 65535 := by
    rw [Int32.lt_iff_toInt_lt] at h1
    have z : (65535 : Int32).toInt = 65535 := rfl
    omega
  apply Int32.toBitVec_inj.mp
  apply BitVec.eq_of_toNat_eq
  show ((c.toBitVec.setWidth 16).setWidth 32).toNat = c.toBitVec.toNat
  rw [BitVec.toNat_setWidth, BitVec.toNat_setWidth]
  omega
theorem and_lt {x : Int32} (k : Nat) (hk : k < 2147483648) : ¬ (x &&& Int32.ofNat k) < 0 ∧ (x &&& Int32.ofNat k).toInt ≤ k := by
  have h : (x &&& Int32.ofNat k).toBitVec.toNat ≤ k := by
    rw [Int32.toBitVec_and, BitVec.toNat_and]
    refine Nat.le_trans Nat.and_le_right ?_
    show (BitVec.ofNat 32 k).toNat ≤ k
    rw [BitVec.toNat_ofNat]
    exact Nat.mod_le _ _
  have e : (x &&& Int32.ofNat k).toInt = (x &&& Int32.ofNat k).toBitVec.toInt := rfl
  rw [BitVec.toInt_eq_toNat_cond] at e
  have z : (0 : Int32).toInt = 0 := rfl
  rw [Int32.lt_iff_toInt_lt, z]
  split at e <;> omega
theorem and255 (x : Int32) : ¬ (x &&& 255) < 0 ∧ ¬ (255 : Int32) < (x &&& 255) := by
  obtain ⟨h1, h2⟩ := and_lt (x := x) 255 (by decide)
  refine ⟨h1, ?_⟩
  rw [Int32.lt_iff_toInt_lt]
  have z : (255 : Int32).toInt = 255 := rfl
  rw [z]
  have h2 : (x &&& 255).toInt ≤ 255 := h2
  omega
theorem to65 {c : Int32} (h : ¬ (255 : Int32) < c) : ¬ (65535 : Int32) < c := by
  rw [Int32.lt_iff_toInt_lt] at h ⊢
  have z : (255 : Int32).toInt = 255 := rfl
  have z' : (65535 : Int32).toInt = 65535 := rfl
  omega
/-- (char) (x & 255) -/
theorem c255 (x : Int32) : (x &&& 255).toUInt32.toUInt16.toUInt32.toInt32 = (x &&& 255) := c16_of (and255 x).1 (to65 (and255 x).2)
theorem nar_c (x : Int32) : nar .char x = x.toUInt32.toUInt16.toUInt32.toInt32 := rfl
theorem nar8 {c : Int32} (h : ¬ c < 0 ∧ ¬ (255 : Int32) < c) : nar .char c = c := c16_of h.1 (to65 h.2)
theorem nar16 {c : Int32} (h : ¬ c < 0 ∧ ¬ (65535 : Int32) < c) : nar .char c = c := c16_of h.1 h.2
theorem c16_range (x : Int32) : ¬ x.toUInt32.toUInt16.toUInt32.toInt32 < 0 ∧ ¬ (65535 : Int32) < x.toUInt32.toUInt16.toUInt32.toInt32 := by
  have e : (x.toUInt32.toUInt16.toUInt32.toInt32).toInt = ((x.toBitVec.setWidth 16).setWidth 32).toInt := rfl
  rw [BitVec.toInt_eq_toNat_cond, BitVec.toNat_setWidth, BitVec.toNat_setWidth] at e
  have z : (0 : Int32).toInt = 0 := rfl
  have z' : (65535 : Int32).toInt = 65535 := rfl
  rw [Int32.lt_iff_toInt_lt, Int32.lt_iff_toInt_lt, z, z']
  split at e <;> omega
theorem nar_idem (x : Int32) : nar .char (x.toUInt32.toUInt16.toUInt32.toInt32) = x.toUInt32.toUInt16.toUInt32.toInt32 := nar16 (c16_range x)
theorem ok8 (x : Int32) : ¬ (x &&& 255).toUInt32.toUInt16.toUInt32.toInt32 < 0 ∧ ¬ (255 : Int32) < (x &&& 255).toUInt32.toUInt16.toUInt32.toInt32 := by rw [c255]; exact and255 x
theorem and_small {x : Int32} {P : Int32 → Prop} (k : Nat) (hk : k < 2147483648) (h : ∀ i : Nat, i ≤ k → P (Int32.ofNat i)) : P (x &&& Int32.ofNat k) := by
  obtain ⟨h1, h2⟩ := and_lt (x := x) k hk
  obtain ⟨e, -⟩ := i32_nat h1
  have := h (x &&& Int32.ofNat k).toBitVec.toNat (by omega)
  have e2 : Int32.ofNat (x &&& Int32.ofNat k).toBitVec.toNat = (x &&& Int32.ofNat k) := by
    apply Int32.toBitVec_inj.mp
    show BitVec.ofNat 32 _ = _
    rw [BitVec.ofNat_toNat]; simp
  rw [e2] at this
  exact this
theorem toInt_ofNat {a : Nat} (ha : a < 2147483648) : (Int32.ofNat a).toInt = a := Int32.toInt_ofNat_small (by omega)
theorem ofNat_lt {a b : Nat} (ha : a < 2147483648) (hb : b < 2147483648) : Int32.ofNat a < Int32.ofNat b ↔ a < b := by
  rw [Int32.lt_iff_toInt_lt, toInt_ofNat ha, toInt_ofNat hb]; omega
theorem ofNat_nn {a : Nat} (ha : a < 2147483648) : ¬ Int32.ofNat a < 0 := by
  rw [Int32.lt_iff_toInt_lt, toInt_ofNat ha]
  have z : (0 : Int32).toInt = 0 := rfl
  omega
theorem ofNat_clamp {a : Nat} (ha : a < 2147483648) : (Int32.ofNat a).toNatClampNeg = a := by
  show (Int32.ofNat a).toInt.toNat = a
  rw [toInt_ofNat ha]; rfl
theorem nn_ofNat {c : Int32} (h : ¬ c < 0) : ∃ m : Nat, m < 2147483648 ∧ c = Int32.ofNat m := by
  have hh : ¬ c < 0 := h
  have b := c.toBitVec.isLt
  have e : c.toInt = c.toBitVec.toInt := rfl
  rw [Int32.lt_iff_toInt_lt] at hh
  have z : (0 : Int32).toInt = 0 := rfl
  rw [BitVec.toInt_eq_toNat_cond] at e
  refine ⟨c.toBitVec.toNat, by split at e <;> omega, ?_⟩
  apply Int32.toBitVec_inj.mp
  show _ = BitVec.ofNat 32 _
  rw [BitVec.ofNat_toNat]; simp
theorem ofNat_succ (a : Nat) : Int32.ofNat a + Int32.ofInt 1 = Int32.ofNat (a + 1) := by
  apply Int32.toBitVec_inj.mp
  show BitVec.ofNat 32 a + BitVec.ofInt 32 1 = BitVec.ofNat 32 (a + 1)
  apply BitVec.eq_of_toNat_eq
  simp [BitVec.toNat_add, BitVec.toNat_ofNat]
theorem mod_ofNat {m d : Nat} (hm : m < 2147483648) (hd : d < 2147483648) (h0 : 0 < d) : Int32.ofNat m % Int32.ofNat d = Int32.ofNat (m % d) := by
  have hlt := Nat.mod_lt m h0
  apply Int32.toInt_inj.mp
  rw [Int32.toInt_mod, toInt_ofNat hm, toInt_ofNat hd, toInt_ofNat (by omega)]
  exact (Int.ofNat_tmod m d).symm
theorem ofNat_inj {a b : Nat} (ha : a < 2147483648) (hb : b < 2147483648) : Int32.ofNat a = Int32.ofNat b ↔ a = b := by
  rw [← Int32.toInt_inj, toInt_ofNat ha, toInt_ofNat hb]; omega
theorem ok8L (y : Int64) : ¬ (y &&& 255).toInt32.toUInt32.toUInt16.toUInt32.toInt32 < 0 ∧ ¬ (255 : Int32) < (y &&& 255).toInt32.toUInt32.toUInt16.toUInt32.toInt32 := by
  have b : (y.toBitVec &&& (255 : BitVec 64)).toNat ≤ 255 := by
    rw [BitVec.toNat_and]
    exact Nat.and_le_right
  have e : (y &&& 255).toInt32.toInt = ((y.toBitVec &&& (255 : BitVec 64)).signExtend 32).toInt := rfl
  rw [BitVec.signExtend_eq_setWidth_of_le _ (by decide)] at e
  rw [BitVec.toInt_eq_toNat_cond, BitVec.toNat_setWidth] at e
  have z : (0 : Int32).toInt = 0 := rfl
  have z' : (255 : Int32).toInt = 255 := rfl
  have h : ¬ (y &&& 255).toInt32 < 0 ∧ ¬ (255 : Int32) < (y &&& 255).toInt32 := by
    rw [Int32.lt_iff_toInt_lt, Int32.lt_iff_toInt_lt, z, z']
    split at e <;> omega
  rw [c16_of h.1 (to65 h.2)]
  exact h
theorem shl1 (i : Nat) : Int32.ofNat i <<< ((1 : Int32) &&& 31) = Int32.ofNat (2 * i) := by
  apply Int32.toBitVec_inj.mp
  rw [Int32.toBitVec_shiftLeft]
  have : (((1 : Int32) &&& 31).toBitVec.smod 32) = 1#32 := by decide
  rw [this]
  apply BitVec.eq_of_toNat_eq
  rw [BitVec.shiftLeft_eq', BitVec.toNat_shiftLeft]
  show ((BitVec.ofNat 32 i).toNat <<< (1#32).toNat) % 2 ^ 32 = (BitVec.ofNat 32 (2 * i)).toNat
  rw [BitVec.toNat_ofNat, BitVec.toNat_ofNat, Nat.shiftLeft_eq]
  simp
  omega
theorem cod1 {n : Nat} (h0 : 0 < n) (h1 : n ≤ 4000) : ((Int32.ofNat n - Int32.ofNat (2 * n)).toUInt32 >>> ((31 : Int32) &&& 31).toUInt32).toInt32.toInt8.toInt32 = 1 := by
  have e : (Int32.ofNat n - Int32.ofNat (2 * n)).toBitVec.toNat = 4294967296 - n := by
    rw [Int32.toBitVec_sub]
    show (BitVec.ofNat 32 n - BitVec.ofNat 32 (2 * n)).toNat = _
    rw [BitVec.toNat_sub, BitVec.toNat_ofNat, BitVec.toNat_ofNat]
    omega
  have e2 : ((Int32.ofNat n - Int32.ofNat (2 * n)).toUInt32 >>> ((31 : Int32) &&& 31).toUInt32).toInt32 = 1 := by
    apply Int32.toBitVec_inj.mp
    apply BitVec.eq_of_toNat_eq
    show ((Int32.ofNat n - Int32.ofNat (2 * n)).toUInt32 >>> ((31 : Int32) &&& 31).toUInt32).toNat = 1
    rw [UInt32.toNat_shiftRight]
    have : (((31 : Int32) &&& 31).toUInt32).toNat % 32 = 31 := by decide
    rw [this]
    show (Int32.ofNat n - Int32.ofNat (2 * n)).toBitVec.toNat >>> 31 = 1
    rw [e, Nat.shiftRight_eq_div_pow]
    omega
  rw [e2]
  decide
theorem bl {a b : Nat} (h : a ≤ b) : Nat.ble a b = true := Nat.ble_eq_true_of_le h
end Own
namespace Own
open Jvm Jvm.ClassFile Sem Op Lib Jvm.Free Jvm.Stand Jvm.LawKit Jvm.RoadKit Bundle
section Strs
variable {X : Cx} {l : Launch} {R : Room} {Z : State} {a0 : Array Value} {EL : List (String × Nat)} {nw : Bool} {sf : List Addr} {h h' : Heap} {W : Nat} {x x' b : Addr} {cs ds : List Int32}
/-- at x stands a String that spells cs -/
def Str (Z : State) (h : Heap) (x : Addr) (cs : List Int32) : Prop :=
  Exa Z h x "java/lang/String" ∧ ∃ (t : Addr) (kb : ClassId) (cd N2 : Int32) (vs : List Value), Fld Z h x "java/lang/String" "value" "[B" (.ref t) ∧ Fld Z h x "java/lang/String" "coder" "B" (.int cd) ∧ Arv Z h t kb .byte N2 vs (.int 0) ∧ StrChars.Road.CodA cs cd N2 vs ∧ (∀ c ∈ cs, ¬ c < 0 ∧ ¬ (65535 : Int32) < c) ∧ cs.length ≤ 4000
theorem Str.ext (S : Str Z h x cs) (E : Ext h h') : Str Z h' x cs := by
  obtain ⟨E1, t, kb, cd, N2, vs, h1, h2, h3, r⟩ := S
  exact ⟨E1.ext E, t, kb, cd, N2, vs, h1.ext E, h2.ext E, h3.ext E, r⟩
theorem Str.exa (S : Str Z h x cs) : Exa Z h x "java/lang/String" := S.1
theorem Str.lt (S : Str Z h x cs) : x < h.size := S.1.lt
theorem up255 (q : ∀ c ∈ cs, ¬ c < 0 ∧ ¬ (255 : Int32) < c) : ∀ c ∈ cs, ¬ c < 0 ∧ ¬ (65535 : Int32) < c := fun c hc => ⟨(q c hc).1, fun u => (q c hc).2 (by rw [Int32.lt_iff_toInt_lt] at u ⊢; have e1 : (65535 : Int32).toInt = 65535 := rfl; have e2 : (255 : Int32).toInt = 255 := rfl; omega)⟩
theorem Str.of_lit {kb : ClassId} {z : Int32} {vs : List Value} {t : Addr} (E : Exa Z h x "java/lang/String") (C : Fld Z h x "java/lang/String" "coder" "B" (.int 0)) (V : Fld Z h x "java/lang/String" "value" "[B" (.ref t)) (A : Arv Z h t kb .byte z vs (.int 0)) (hz : z = Int32.ofNat cs.length) (hv : vs = cs.map fun c => Value.int (StrChars.lo8 c)) (hc : ∀ c ∈ cs, ¬ c < 0 ∧ ¬ (255 : Int32) < c) (hl : cs.length ≤ 4000) : Str Z h x cs :=
  ⟨E, t, kb, 0, z, vs, V, C, A, Or.inl ⟨rfl, hz, hv, fun c q => (hc c q).2⟩, up255 hc, hl⟩
/-- a String constant, read -/
theorem g_lit {y : MethodName} {bs : ByteArray} {ml : Nat} {rt : Option FieldType} {Q : Option Value → Heap → Prop} {kc ks k n pc pc' : Nat} {Ls : Array Slot} {st : List Value} (hnw : nw = false) {text : String} {ix : Nat} (cs : List Int32) (nn : Nat) (hd : decode bs pc = .ok (.ldc ix, 2)) (hp : pc + 2 = pc') (w : (Jvm.Cond.stringLink y.cls ix text).before a0 Z = true) (wS : ∀ a ∈ Bundle.stringAtoms, a.before a0 Z = true) (hm : (y.cls, ix) ∈ EL)
    (ht : (∀ c ∈ text.toList, c.toNat < 256) ∧ text.toList.map (fun c => Value.int (Jvm.Lit.byteI c.toNat.toUInt16)) = cs.map fun c => Value.int (StrChars.lo8 c)) (hc : ∀ c ∈ cs, ¬ c < 0 ∧ ¬ (255 : Int32) < c) (hz : ¬ Int32.ofNat cs.length < 0) (hl : (Int32.ofNat cs.length).toNatClampNeg = cs.length) (hcl : Nat.ble cs.length 4000 = true) (h4 : Nat.ble (4 * text.toList.length) nn = true) (hbig : Nat.ble nn 536870912 = true) (hk : Nat.ble (k + 2) R.cells = true) (hn : Nat.ble (n + (nn + 4)) R.slots = true)
    (G : ∀ h' a, Ext h h' → Str Z h' a cs → (∀ x ∈ sf, x ≠ a) → Go X R Z a0 EL nw y bs ml rt Q kc ks sf h' (k + 2) (n + (nn + 4)) (mkF X.m pc' Ls (.ref a :: st))) : Go X R Z a0 EL nw y bs ml rt Q kc ks sf h k n (mkF X.m pc Ls st) :=
  g_ldcS hnw (z := Int32.ofNat cs.length) hd hp w wS hm ht hz (by rw [hl, List.length_map]) h4 hbig hk hn fun h' a b kb E A1 A2 A3 A4 hne => G h' a E (Str.of_lit A1 A2 A3 A4 rfl rfl hc (ble hcl)) fun x hx => (hne x hx).1
theorem pay_new {kC : ClassId} {N z : Int32} {d v0 c0 : Value} {n : Nat} (hws : ∀ d ∈ StrChars.Road.words, d.before a0 Z = true) (wi : (Jvm.Cond.instantiable "java/lang/String" 4).before a0 Z = true) (S : Sta Z Z.heap "java/lang/String" "COMPACT_STRINGS" "Z" (.int z)) (hz : ¬ z = 0) (EZ : Ext Z.heap h) (hx0 : Z.heap.size ≤ x)
    (E : Exa Z h x "java/lang/String") (V : Fld Z h x "java/lang/String" "value" "[B" v0) (C : Fld Z h x "java/lang/String" "coder" "B" c0) (K : Arv Z h b kC .char N (cs.map Value.int) d) (hn : cs.length = n) (hN : N = Int32.ofNat n) (l0 : Nat.ble 1 n = true) (l2 : Nat.ble n 4000 = true) (hp : ∀ c ∈ cs, ¬ c < 0 ∧ ¬ (255 : Int32) < c) (hfr : Nat.ble 4 R.frames = true) (hlo : Nat.ble (W + 65) R.locals = true) :
    Pay l R ⟨"java/lang/String", "<init>", "([C)V"⟩ W #[.ref x, .ref b] Z a0 EL nw [x] h 1 n (fun v h' => v = none ∧ Keep h h' [x] ∧ Str Z h' x cs) :=
  Pay.of_back [x] (fun p e below s args len hZ => StrChars.Road.backV (n0 := Z.heap.size) hZ hws (kI := 4) wi hx0 EZ.1 E V C K (S.ext EZ) hz hn hN (ble l0) (ble l2) hp rfl (ble hfr) (ble hlo)) (fun y hy => ⟨hy, by cases List.mem_singleton.mp hy; exact hx0⟩)
    (fun v h' L q => by
      obtain ⟨e1, N1, K1, E1, C1, t, kb, -, -, -, V1, A1⟩ := q
      exact ⟨⟨e1, K1, E1, t, kb, 0, N, _, V1, C1, A1, by rw [hN]; exact StrChars.Road.codOf hn (fun c hc => (hp c hc).2), up255 hp, by rw [hn]; exact ble l2⟩, K1, N1⟩)
theorem Str.lat (T : Str Z h x cs) (hp : ∀ c ∈ cs, ¬ (255 : Int32) < c) : ∃ (t : Addr) (kb : ClassId) (N2 : Int32) (vs : List Value), Fld Z h x "java/lang/String" "value" "[B" (.ref t) ∧ Fld Z h x "java/lang/String" "coder" "B" (.int 0) ∧ Arv Z h t kb .byte N2 vs (.int 0) ∧ StrChars.Road.CodA cs 0 N2 vs ∧ (∀ c ∈ cs, ¬ c < 0 ∧ ¬ (65535 : Int32) < c) ∧ cs.length ≤ 4000 := by
  obtain ⟨E1, t, kb, cd, N2, vs, V, C, A, hc, hb, hl⟩ := T
  have e : cd = 0 := by
    rcases hc with q | ⟨-, -, -, c, q1, q2⟩
    · exact q.1
    · exact absurd q2 (hp c q1)
  subst e
  exact ⟨t, kb, N2, vs, V, C, A, hc, hb, hl⟩
end Strs
end Own
namespace Own
open Jvm Jvm.ClassFile Sem Op Lib Jvm.Free Jvm.Stand Jvm.LawKit Jvm.RoadKit Bundle
section Strs
variable {X : Cx} {l : Launch} {R : Room} {Z : State} {a0 : Array Value} {EL : List (String × Nat)} {nw : Bool} {sf : List Addr} {h h' : Heap} {W : Nat} {x x' b : Addr} {cs ds : List Int32}
theorem pay_len {z : Int32} (hln : ∀ d ∈ StrChars.Road.wordsLen, d.before a0 Z = true) (wi : (Jvm.Cond.instantiable "java/lang/String" 4).before a0 Z = true) (S : Sta Z Z.heap "java/lang/String" "COMPACT_STRINGS" "Z" (.int z)) (hz : ¬ z = 0) (EZ : Ext Z.heap h) (T : Str Z h x cs) (hfr : Nat.ble 2 R.frames = true) (hlo : Nat.ble (W + 25) R.locals = true) :
    Pay l R ⟨"java/lang/String", "length", "()I"⟩ W #[.ref x] Z a0 EL nw sf h 0 0 (fun v h' => v = some (.int (Int32.ofNat cs.length)) ∧ h' = h) := by
  obtain ⟨E1, t, kb, cd, N2, vs, V, C, A, hc, hb, hl⟩ := T
  exact Pay.pure (P := fun v => v = some (.int (Int32.ofNat cs.length))) fun p e below s args len hZ => StrChars.Road.lenW hZ hln (kI := 4) wi E1 V C A hc hb (S.ext EZ) hz hl (ble hfr) (ble hlo)
end Strs
end Own
namespace Own
open Jvm Jvm.ClassFile Sem Op Lib Jvm.Free Jvm.Stand Jvm.LawKit Jvm.RoadKit Bundle
section Strs
variable {X : Cx} {l : Launch} {R : Room} {Z : State} {a0 : Array Value} {EL : List (String × Nat)} {nw : Bool} {sf : List Addr} {h h' : Heap} {W : Nat} {x x' b : Addr} {cs ds : List Int32}
theorem pay_ch {z j : Int32} {fm : Value} {i : Nat} (hch : ∀ d ∈ StrChars.Road.wordsChN, d.before a0 Z = true) (wi : (Jvm.Cond.instantiable "java/lang/String" 4).before a0 Z = true) (S : Sta Z Z.heap "java/lang/String" "COMPACT_STRINGS" "Z" (.int z)) (hz : ¬ z = 0) (F : Sta Z Z.heap "jdk/internal/util/Preconditions" "SIOOBE_FORMATTER" "Ljava/util/function/BiFunction;" fm) (rf : fm.isRef = true) (EZ : Ext Z.heap h) (T : Str Z h x cs) (hp : ∀ c ∈ cs, ¬ (255 : Int32) < c) (hi : i < cs.length) (hj : j = Int32.ofNat i) (hfr : Nat.ble 4 R.frames = true) (hlo : Nat.ble (W + 53) R.locals = true) :
    Pay l R ⟨"java/lang/String", "charAt", "(I)C"⟩ W #[.ref x, .int j] Z a0 EL nw sf h 0 0 (fun v h' => v = some (.int (cs.getD i 0)) ∧ h' = h) := by
  obtain ⟨t, kb, N2, vs, V, C, A, hc, hb, hl⟩ := T.lat hp
  exact Pay.pure (P := fun v => v = some (.int (cs.getD i 0))) fun p e below s args len hZ => StrChars.Road.chN hZ hch (kI := 4) wi T.1 V C A hc hb (S.ext EZ) hz (F.ext EZ) rf hl hi hj (ble hfr) (ble hlo)
end Strs
end Own
theorem wk_Utf16IsWellFormedPinLaw_7 {a0 : Array Value} {Z : State} (hw : ∀ d ∈ tables_1, d.before a0 Z = true) : (Jvm.Cond.constant "com/example/streetd/streetd/web/Utf16IsWellFormedPinLaw" (7 : Nat) (2147483647 : Int32)).before a0 Z = true := hw _ (List.mem_of_getElem? (i := 0) rfl)
theorem wa_char {a0 : Array Value} {Z : State} (hw : ∀ d ∈ tables_1, d.before a0 Z = true) : (Jvm.Cond.arrayClass Jvm.ClassFile.FieldType.char).before a0 Z = true := hw _ (List.mem_of_getElem? (i := 1) rfl)
theorem wl_Utf16IsWellFormedPinLaw_8 {a0 : Array Value} {Z : State} (hw : ∀ d ∈ tables_1, d.before a0 Z = true) : (Jvm.Cond.methodLink "com/example/streetd/streetd/web/Utf16IsWellFormedPinLaw" (8 : Nat) ({ cls := "com/example/streetd/streetd/web/Utf16IsWellFormedPinLaw", name := "draw", desc := "(I)C" } : Jvm.MethodName)).before a0 Z = true := hw _ (List.mem_of_getElem? (i := 2) rfl)
theorem ws_Utf16IsWellFormedPinLaw_draw_lIrC {a0 : Array Value} {Z : State} (hw : ∀ d ∈ tables_1, d.before a0 Z = true) : (Jvm.Cond.static ({ cls := "com/example/streetd/streetd/web/Utf16IsWellFormedPinLaw", name := "draw", desc := "(I)C" } : Jvm.MethodName)).before a0 Z = true := hw _ (List.mem_of_getElem? (i := 3) rfl)
theorem wi_Utf16IsWellFormedPinLaw {a0 : Array Value} {Z : State} (hw : ∀ d ∈ tables_1, d.before a0 Z = true) : (Jvm.Cond.initialized "com/example/streetd/streetd/web/Utf16IsWellFormedPinLaw").before a0 Z = true := hw _ (List.mem_of_getElem? (i := 4) rfl)
theorem wb_Utf16IsWellFormedPinLaw_draw_lIrC {a0 : Array Value} {Z : State} (hw : ∀ d ∈ tables_1, d.before a0 Z = true) : (Jvm.Cond.code ({ cls := "com/example/streetd/streetd/web/Utf16IsWellFormedPinLaw", name := "draw", desc := "(I)C" } : Jvm.MethodName) method_3_code (1 : Nat) (Option.some Jvm.ClassFile.FieldType.char)).before a0 Z = true := hw _ (List.mem_of_getElem? (i := 5) rfl)
theorem wk_Utf16IsWellFormedPinLaw_29 {a0 : Array Value} {Z : State} (hw : ∀ d ∈ tables_1, d.before a0 Z = true) : (Jvm.Cond.constant "com/example/streetd/streetd/web/Utf16IsWellFormedPinLaw" (29 : Nat) (65536 : Int32)).before a0 Z = true := hw _ (List.mem_of_getElem? (i := 6) rfl)
theorem wk_Utf16IsWellFormedPinLaw_31 {a0 : Array Value} {Z : State} (hw : ∀ d ∈ tables_1, d.before a0 Z = true) : (Jvm.Cond.constant "com/example/streetd/streetd/web/Utf16IsWellFormedPinLaw" (31 : Nat) (65535 : Int32)).before a0 Z = true := hw _ (List.mem_of_getElem? (i := 7) rfl)
theorem wc_Utf16IsWellFormedPinLaw_14 {a0 : Array Value} {Z : State} (hw : ∀ d ∈ tables_1, d.before a0 Z = true) : (Jvm.Cond.classLink "com/example/streetd/streetd/web/Utf16IsWellFormedPinLaw" (14 : Nat) "java/lang/String").before a0 Z = true := hw _ (List.mem_of_getElem? (i := 8) rfl)
theorem wn_String {a0 : Array Value} {Z : State} (hw : ∀ d ∈ tables_1, d.before a0 Z = true) : (Jvm.Cond.instantiable "java/lang/String" (4 : Nat)).before a0 Z = true := hw _ (List.mem_of_getElem? (i := 9) rfl)
theorem wi_String {a0 : Array Value} {Z : State} (hw : ∀ d ∈ tables_1, d.before a0 Z = true) : (Jvm.Cond.initialized "java/lang/String").before a0 Z = true := hw _ (List.mem_of_getElem? (i := 10) rfl)
theorem wl_Utf16IsWellFormedPinLaw_16 {a0 : Array Value} {Z : State} (hw : ∀ d ∈ tables_1, d.before a0 Z = true) : (Jvm.Cond.methodLink "com/example/streetd/streetd/web/Utf16IsWellFormedPinLaw" (16 : Nat) ({ cls := "java/lang/String", name := "<init>", desc := "([C)V" } : Jvm.MethodName)).before a0 Z = true := hw _ (List.mem_of_getElem? (i := 11) rfl)
theorem wm_String_init_lACrV {a0 : Array Value} {Z : State} (hw : ∀ d ∈ tables_1, d.before a0 Z = true) : (Jvm.Cond.instanceMethod ({ cls := "java/lang/String", name := "<init>", desc := "([C)V" } : Jvm.MethodName)).before a0 Z = true := hw _ (List.mem_of_getElem? (i := 12) rfl)
theorem wb_String_init_lACrV {a0 : Array Value} {Z : State} (hw : ∀ d ∈ tables_1, d.before a0 Z = true) : (Jvm.Cond.code ({ cls := "java/lang/String", name := "<init>", desc := "([C)V" } : Jvm.MethodName) jdk_42_method_3_code (2 : Nat) (Option.none : Option Jvm.ClassFile.FieldType)).before a0 Z = true := hw _ (List.mem_of_getElem? (i := 13) rfl)
theorem wl_String_27 {a0 : Array Value} {Z : State} (hw : ∀ d ∈ tables_1, d.before a0 Z = true) : (Jvm.Cond.methodLink "java/lang/String" (27 : Nat) ({ cls := "java/lang/String", name := "<init>", desc := "([CIILjava/lang/Void;)V" } : Jvm.MethodName)).before a0 Z = true := hw _ (List.mem_of_getElem? (i := 14) rfl)
theorem wm_String_init_lACIILjavalangVoidrV {a0 : Array Value} {Z : State} (hw : ∀ d ∈ tables_1, d.before a0 Z = true) : (Jvm.Cond.instanceMethod ({ cls := "java/lang/String", name := "<init>", desc := "([CIILjava/lang/Void;)V" } : Jvm.MethodName)).before a0 Z = true := hw _ (List.mem_of_getElem? (i := 15) rfl)
theorem wx_String_String {a0 : Array Value} {Z : State} (hw : ∀ d ∈ tables_1, d.before a0 Z = true) : (Jvm.Cond.castable "java/lang/String" "java/lang/String").before a0 Z = true := hw _ (List.mem_of_getElem? (i := 16) rfl)
theorem wb_String_init_lACIILjavalangVoidrV {a0 : Array Value} {Z : State} (hw : ∀ d ∈ tables_1, d.before a0 Z = true) : (Jvm.Cond.code ({ cls := "java/lang/String", name := "<init>", desc := "([CIILjava/lang/Void;)V" } : Jvm.MethodName) jdk_42_method_149_code (6 : Nat) (Option.none : Option Jvm.ClassFile.FieldType)).before a0 Z = true := hw _ (List.mem_of_getElem? (i := 17) rfl)
theorem wl_String_1 {a0 : Array Value} {Z : State} (hw : ∀ d ∈ tables_1, d.before a0 Z = true) : (Jvm.Cond.methodLink "java/lang/String" (1 : Nat) ({ cls := "java/lang/Object", name := "<init>", desc := "()V" } : Jvm.MethodName)).before a0 Z = true := hw _ (List.mem_of_getElem? (i := 18) rfl)
theorem wm_Object_init_lrV {a0 : Array Value} {Z : State} (hw : ∀ d ∈ tables_1, d.before a0 Z = true) : (Jvm.Cond.instanceMethod ({ cls := "java/lang/Object", name := "<init>", desc := "()V" } : Jvm.MethodName)).before a0 Z = true := hw _ (List.mem_of_getElem? (i := 19) rfl)
theorem wb_Object_init_lrV {a0 : Array Value} {Z : State} (hw : ∀ d ∈ tables_1, d.before a0 Z = true) : (Jvm.Cond.code ({ cls := "java/lang/Object", name := "<init>", desc := "()V" } : Jvm.MethodName) object_method_1_code (1 : Nat) (Option.none : Option Jvm.ClassFile.FieldType)).before a0 Z = true := hw _ (List.mem_of_getElem? (i := 20) rfl)
theorem wt_String_7 {a0 : Array Value} {Z : State} (hw : ∀ d ∈ tables_1, d.before a0 Z = true) : (Jvm.Cond.stringLink "java/lang/String" (7 : Nat) "").before a0 Z = true := hw _ (List.mem_of_getElem? (i := 21) rfl)
theorem wa_byte {a0 : Array Value} {Z : State} (hw : ∀ d ∈ tables_1, d.before a0 Z = true) : (Jvm.Cond.arrayClass Jvm.ClassFile.FieldType.byte).before a0 Z = true := hw _ (List.mem_of_getElem? (i := 22) rfl)
theorem wy_String_String_value {a0 : Array Value} {Z : State} (hw : ∀ d ∈ tables_1, d.before a0 Z = true) : (Jvm.Cond.laysFinal "java/lang/String" "java/lang/String" "value" "[B").before a0 Z = true := hw _ (List.mem_of_getElem? (i := 23) rfl)
theorem wy_String_String_coder {a0 : Array Value} {Z : State} (hw : ∀ d ∈ tables_1, d.before a0 Z = true) : (Jvm.Cond.laysFinal "java/lang/String" "java/lang/String" "coder" "B").before a0 Z = true := hw _ (List.mem_of_getElem? (i := 24) rfl)
theorem w25 {a0 : Array Value} {Z : State} (hw : ∀ d ∈ tables_1, d.before a0 Z = true) : (Jvm.Cond.soleField "java/lang/String" "value").before a0 Z = true := hw _ (List.mem_of_getElem? (i := 25) rfl)
theorem w26 {a0 : Array Value} {Z : State} (hw : ∀ d ∈ tables_1, d.before a0 Z = true) : (Jvm.Cond.soleField "java/lang/String" "coder").before a0 Z = true := hw _ (List.mem_of_getElem? (i := 26) rfl)
theorem wf_String_9 {a0 : Array Value} {Z : State} (hw : ∀ d ∈ tables_1, d.before a0 Z = true) : (Jvm.Cond.fieldLink "java/lang/String" (9 : Nat) "java/lang/String" "value" "[B").before a0 Z = true := hw _ (List.mem_of_getElem? (i := 27) rfl)
theorem wf_String_15 {a0 : Array Value} {Z : State} (hw : ∀ d ∈ tables_1, d.before a0 Z = true) : (Jvm.Cond.fieldLink "java/lang/String" (15 : Nat) "java/lang/String" "coder" "B").before a0 Z = true := hw _ (List.mem_of_getElem? (i := 28) rfl)
theorem wl_Utf16IsWellFormedPinLaw_19 {a0 : Array Value} {Z : State} (hw : ∀ d ∈ tables_1, d.before a0 Z = true) : (Jvm.Cond.methodLink "com/example/streetd/streetd/web/Utf16IsWellFormedPinLaw" (19 : Nat) ({ cls := "com/example/streetd/streetd/web/Utf16IsWellFormedPinLaw", name := "lone", desc := "([CII)Z" } : Jvm.MethodName)).before a0 Z = true := hw _ (List.mem_of_getElem? (i := 29) rfl)
theorem ws_Utf16IsWellFormedPinLaw_lone_lACIIrZ {a0 : Array Value} {Z : State} (hw : ∀ d ∈ tables_1, d.before a0 Z = true) : (Jvm.Cond.static ({ cls := "com/example/streetd/streetd/web/Utf16IsWellFormedPinLaw", name := "lone", desc := "([CII)Z" } : Jvm.MethodName)).before a0 Z = true := hw _ (List.mem_of_getElem? (i := 30) rfl)
theorem wb_Utf16IsWellFormedPinLaw_lone_lACIIrZ {a0 : Array Value} {Z : State} (hw : ∀ d ∈ tables_1, d.before a0 Z = true) : (Jvm.Cond.code ({ cls := "com/example/streetd/streetd/web/Utf16IsWellFormedPinLaw", name := "lone", desc := "([CII)Z" } : Jvm.MethodName) method_6_code (4 : Nat) (Option.some Jvm.ClassFile.FieldType.boolean)).before a0 Z = true := hw _ (List.mem_of_getElem? (i := 31) rfl)
theorem wl_Utf16IsWellFormedPinLaw_23 {a0 : Array Value} {Z : State} (hw : ∀ d ∈ tables_1, d.before a0 Z = true) : (Jvm.Cond.methodLink "com/example/streetd/streetd/web/Utf16IsWellFormedPinLaw" (23 : Nat) ({ cls := "com/example/streetd/streetd/web/Utf16", name := "isWellFormed", desc := "(Ljava/lang/CharSequence;)Z" } : Jvm.MethodName)).before a0 Z = true := hw _ (List.mem_of_getElem? (i := 32) rfl)
theorem ws_Utf16_isWellFormed_lLjavalangCharSequencerZ {a0 : Array Value} {Z : State} (hw : ∀ d ∈ tables_1, d.before a0 Z = true) : (Jvm.Cond.static ({ cls := "com/example/streetd/streetd/web/Utf16", name := "isWellFormed", desc := "(Ljava/lang/CharSequence;)Z" } : Jvm.MethodName)).before a0 Z = true := hw _ (List.mem_of_getElem? (i := 33) rfl)
theorem wi_Utf16 {a0 : Array Value} {Z : State} (hw : ∀ d ∈ tables_1, d.before a0 Z = true) : (Jvm.Cond.initialized "com/example/streetd/streetd/web/Utf16").before a0 Z = true := hw _ (List.mem_of_getElem? (i := 34) rfl)
theorem wb_Utf16_isWellFormed_lLjavalangCharSequencerZ {a0 : Array Value} {Z : State} (hw : ∀ d ∈ tables_1, d.before a0 Z = true) : (Jvm.Cond.code ({ cls := "com/example/streetd/streetd/web/Utf16", name := "isWellFormed", desc := "(Ljava/lang/CharSequence;)Z" } : Jvm.MethodName) prog_28_method_2_code (1 : Nat) (Option.some Jvm.ClassFile.FieldType.boolean)).before a0 Z = true := hw _ (List.mem_of_getElem? (i := 35) rfl)
theorem wl_Utf16_7 {a0 : Array Value} {Z : State} (hw : ∀ d ∈ tables_1, d.before a0 Z = true) : (Jvm.Cond.methodLink "com/example/streetd/streetd/web/Utf16" (7 : Nat) ({ cls := "com/example/streetd/streetd/web/Utf16", name := "loneSurrogate", desc := "(Ljava/lang/CharSequence;I)I" } : Jvm.MethodName)).before a0 Z = true := hw _ (List.mem_of_getElem? (i := 36) rfl)
theorem ws_Utf16_loneSurrogate_lLjavalangCharSequenceIrI {a0 : Array Value} {Z : State} (hw : ∀ d ∈ tables_1, d.before a0 Z = true) : (Jvm.Cond.static ({ cls := "com/example/streetd/streetd/web/Utf16", name := "loneSurrogate", desc := "(Ljava/lang/CharSequence;I)I" } : Jvm.MethodName)).before a0 Z = true := hw _ (List.mem_of_getElem? (i := 37) rfl)
theorem wb_Utf16_loneSurrogate_lLjavalangCharSequenceIrI {a0 : Array Value} {Z : State} (hw : ∀ d ∈ tables_1, d.before a0 Z = true) : (Jvm.Cond.code ({ cls := "com/example/streetd/streetd/web/Utf16", name := "loneSurrogate", desc := "(Ljava/lang/CharSequence;I)I" } : Jvm.MethodName) prog_28_method_4_code (6 : Nat) (Option.some Jvm.ClassFile.FieldType.int)).before a0 Z = true := hw _ (List.mem_of_getElem? (i := 38) rfl)
theorem wl_Utf16_23 {a0 : Array Value} {Z : State} (hw : ∀ d ∈ tables_1, d.before a0 Z = true) : (Jvm.Cond.methodLink "com/example/streetd/streetd/web/Utf16" (23 : Nat) ({ cls := "java/lang/CharSequence", name := "length", desc := "()I" } : Jvm.MethodName)).before a0 Z = true := hw _ (List.mem_of_getElem? (i := 39) rfl)
theorem wd_CharSequence_length_lrI {a0 : Array Value} {Z : State} (hw : ∀ d ∈ tables_1, d.before a0 Z = true) : (Jvm.Cond.declares ({ cls := "java/lang/CharSequence", name := "length", desc := "()I" } : Jvm.MethodName)).before a0 Z = true := hw _ (List.mem_of_getElem? (i := 40) rfl)
theorem wg_CharSequence_length_lrI {a0 : Array Value} {Z : State} (hw : ∀ d ∈ tables_1, d.before a0 Z = true) : (Jvm.Cond.interfaceMethod "java/lang/CharSequence" "java/lang/CharSequence" "length" "()I").before a0 Z = true := hw _ (List.mem_of_getElem? (i := 41) rfl)
theorem wv_String_CharSequence_length_lrI {a0 : Array Value} {Z : State} (hw : ∀ d ∈ tables_1, d.before a0 Z = true) : (Jvm.Cond.selects "java/lang/String" ({ cls := "java/lang/CharSequence", name := "length", desc := "()I" } : Jvm.MethodName) ({ cls := "java/lang/String", name := "length", desc := "()I" } : Jvm.MethodName)).before a0 Z = true := hw _ (List.mem_of_getElem? (i := 42) rfl)
theorem wm_String_length_lrI {a0 : Array Value} {Z : State} (hw : ∀ d ∈ tables_1, d.before a0 Z = true) : (Jvm.Cond.instanceMethod ({ cls := "java/lang/String", name := "length", desc := "()I" } : Jvm.MethodName)).before a0 Z = true := hw _ (List.mem_of_getElem? (i := 43) rfl)
theorem wp_String_length_lrI {a0 : Array Value} {Z : State} (hw : ∀ d ∈ tables_1, d.before a0 Z = true) : (Jvm.Cond.publicMethod ({ cls := "java/lang/String", name := "length", desc := "()I" } : Jvm.MethodName)).before a0 Z = true := hw _ (List.mem_of_getElem? (i := 44) rfl)
theorem wu_String_length_lrI {a0 : Array Value} {Z : State} (hw : ∀ d ∈ tables_1, d.before a0 Z = true) : (Jvm.Cond.unhidden "java/lang/String" "length" "()I").before a0 Z = true := hw _ (List.mem_of_getElem? (i := 45) rfl)
theorem wx_String_CharSequence {a0 : Array Value} {Z : State} (hw : ∀ d ∈ tables_1, d.before a0 Z = true) : (Jvm.Cond.castable "java/lang/String" "java/lang/CharSequence").before a0 Z = true := hw _ (List.mem_of_getElem? (i := 46) rfl)
theorem wb_String_length_lrI {a0 : Array Value} {Z : State} (hw : ∀ d ∈ tables_1, d.before a0 Z = true) : (Jvm.Cond.code ({ cls := "java/lang/String", name := "length", desc := "()I" } : Jvm.MethodName) jdk_42_method_54_code (1 : Nat) (Option.some Jvm.ClassFile.FieldType.int)).before a0 Z = true := hw _ (List.mem_of_getElem? (i := 47) rfl)
theorem wl_String_335 {a0 : Array Value} {Z : State} (hw : ∀ d ∈ tables_1, d.before a0 Z = true) : (Jvm.Cond.methodLink "java/lang/String" (335 : Nat) ({ cls := "java/lang/String", name := "coder", desc := "()B" } : Jvm.MethodName)).before a0 Z = true := hw _ (List.mem_of_getElem? (i := 48) rfl)
theorem wd_String_coder_lrB {a0 : Array Value} {Z : State} (hw : ∀ d ∈ tables_1, d.before a0 Z = true) : (Jvm.Cond.declares ({ cls := "java/lang/String", name := "coder", desc := "()B" } : Jvm.MethodName)).before a0 Z = true := hw _ (List.mem_of_getElem? (i := 49) rfl)
theorem wm_String_coder_lrB {a0 : Array Value} {Z : State} (hw : ∀ d ∈ tables_1, d.before a0 Z = true) : (Jvm.Cond.instanceMethod ({ cls := "java/lang/String", name := "coder", desc := "()B" } : Jvm.MethodName)).before a0 Z = true := hw _ (List.mem_of_getElem? (i := 50) rfl)
theorem wv_String_String_coder_lrB {a0 : Array Value} {Z : State} (hw : ∀ d ∈ tables_1, d.before a0 Z = true) : (Jvm.Cond.selects "java/lang/String" ({ cls := "java/lang/String", name := "coder", desc := "()B" } : Jvm.MethodName) ({ cls := "java/lang/String", name := "coder", desc := "()B" } : Jvm.MethodName)).before a0 Z = true := hw _ (List.mem_of_getElem? (i := 51) rfl)
theorem wb_String_coder_lrB {a0 : Array Value} {Z : State} (hw : ∀ d ∈ tables_1, d.before a0 Z = true) : (Jvm.Cond.code ({ cls := "java/lang/String", name := "coder", desc := "()B" } : Jvm.MethodName) jdk_42_method_152_code (1 : Nat) (Option.some Jvm.ClassFile.FieldType.byte)).before a0 Z = true := hw _ (List.mem_of_getElem? (i := 52) rfl)
theorem wf_String_38 {a0 : Array Value} {Z : State} (hw : ∀ d ∈ tables_1, d.before a0 Z = true) : (Jvm.Cond.fieldLink "java/lang/String" (38 : Nat) "java/lang/String" "COMPACT_STRINGS" "Z").before a0 Z = true := hw _ (List.mem_of_getElem? (i := 53) rfl)
theorem wl_String_177 {a0 : Array Value} {Z : State} (hw : ∀ d ∈ tables_1, d.before a0 Z = true) : (Jvm.Cond.methodLink "java/lang/String" (177 : Nat) ({ cls := "java/lang/StringUTF16", name := "compress", desc := "([CII)[B" } : Jvm.MethodName)).before a0 Z = true := hw _ (List.mem_of_getElem? (i := 54) rfl)
theorem ws_StringUTF16_compress_lACIIrAB {a0 : Array Value} {Z : State} (hw : ∀ d ∈ tables_1, d.before a0 Z = true) : (Jvm.Cond.static ({ cls := "java/lang/StringUTF16", name := "compress", desc := "([CII)[B" } : Jvm.MethodName)).before a0 Z = true := hw _ (List.mem_of_getElem? (i := 55) rfl)
theorem wi_StringUTF16 {a0 : Array Value} {Z : State} (hw : ∀ d ∈ tables_1, d.before a0 Z = true) : (Jvm.Cond.initialized "java/lang/StringUTF16").before a0 Z = true := hw _ (List.mem_of_getElem? (i := 56) rfl)
theorem wb_StringUTF16_compress_lACIIrAB {a0 : Array Value} {Z : State} (hw : ∀ d ∈ tables_1, d.before a0 Z = true) : (Jvm.Cond.code ({ cls := "java/lang/StringUTF16", name := "compress", desc := "([CII)[B" } : Jvm.MethodName) jdk_52_method_16_code (6 : Nat) (Option.some (Jvm.ClassFile.FieldType.array Jvm.ClassFile.FieldType.byte))).before a0 Z = true := hw _ (List.mem_of_getElem? (i := 57) rfl)
theorem wl_StringUTF16_115 {a0 : Array Value} {Z : State} (hw : ∀ d ∈ tables_1, d.before a0 Z = true) : (Jvm.Cond.methodLink "java/lang/StringUTF16" (115 : Nat) ({ cls := "java/lang/StringUTF16", name := "compress", desc := "([CI[BII)I" } : Jvm.MethodName)).before a0 Z = true := hw _ (List.mem_of_getElem? (i := 58) rfl)
theorem ws_StringUTF16_compress_lACIABIIrI {a0 : Array Value} {Z : State} (hw : ∀ d ∈ tables_1, d.before a0 Z = true) : (Jvm.Cond.static ({ cls := "java/lang/StringUTF16", name := "compress", desc := "([CI[BII)I" } : Jvm.MethodName)).before a0 Z = true := hw _ (List.mem_of_getElem? (i := 59) rfl)
theorem wb_StringUTF16_compress_lACIABIIrI {a0 : Array Value} {Z : State} (hw : ∀ d ∈ tables_1, d.before a0 Z = true) : (Jvm.Cond.code ({ cls := "java/lang/StringUTF16", name := "compress", desc := "([CI[BII)I" } : Jvm.MethodName) jdk_52_method_21_code (7 : Nat) (Option.some Jvm.ClassFile.FieldType.int)).before a0 Z = true := hw _ (List.mem_of_getElem? (i := 60) rfl)
theorem wl_String_47 {a0 : Array Value} {Z : State} (hw : ∀ d ∈ tables_1, d.before a0 Z = true) : (Jvm.Cond.methodLink "java/lang/String" (47 : Nat) ({ cls := "java/lang/StringUTF16", name := "coderFromArrayLen", desc := "([BI)B" } : Jvm.MethodName)).before a0 Z = true := hw _ (List.mem_of_getElem? (i := 61) rfl)
theorem ws_StringUTF16_coderFromArrayLen_lABIrB {a0 : Array Value} {Z : State} (hw : ∀ d ∈ tables_1, d.before a0 Z = true) : (Jvm.Cond.static ({ cls := "java/lang/StringUTF16", name := "coderFromArrayLen", desc := "([BI)B" } : Jvm.MethodName)).before a0 Z = true := hw _ (List.mem_of_getElem? (i := 62) rfl)
theorem wb_StringUTF16_coderFromArrayLen_lABIrB {a0 : Array Value} {Z : State} (hw : ∀ d ∈ tables_1, d.before a0 Z = true) : (Jvm.Cond.code ({ cls := "java/lang/StringUTF16", name := "coderFromArrayLen", desc := "([BI)B" } : Jvm.MethodName) jdk_52_method_15_code (2 : Nat) (Option.some Jvm.ClassFile.FieldType.byte)).before a0 Z = true := hw _ (List.mem_of_getElem? (i := 63) rfl)
theorem wl_Utf16IsWellFormedPinLaw_35 {a0 : Array Value} {Z : State} (hw : ∀ d ∈ tables_1, d.before a0 Z = true) : (Jvm.Cond.methodLink "com/example/streetd/streetd/web/Utf16IsWellFormedPinLaw" (35 : Nat) ({ cls := "com/example/streetd/streetd/web/Utf16IsWellFormedPinLaw", name := "high", desc := "(C)Z" } : Jvm.MethodName)).before a0 Z = true := hw _ (List.mem_of_getElem? (i := 64) rfl)
theorem ws_Utf16IsWellFormedPinLaw_high_lCrZ {a0 : Array Value} {Z : State} (hw : ∀ d ∈ tables_1, d.before a0 Z = true) : (Jvm.Cond.static ({ cls := "com/example/streetd/streetd/web/Utf16IsWellFormedPinLaw", name := "high", desc := "(C)Z" } : Jvm.MethodName)).before a0 Z = true := hw _ (List.mem_of_getElem? (i := 65) rfl)
theorem wb_Utf16IsWellFormedPinLaw_high_lCrZ {a0 : Array Value} {Z : State} (hw : ∀ d ∈ tables_1, d.before a0 Z = true) : (Jvm.Cond.code ({ cls := "com/example/streetd/streetd/web/Utf16IsWellFormedPinLaw", name := "high", desc := "(C)Z" } : Jvm.MethodName) method_4_code (1 : Nat) (Option.some Jvm.ClassFile.FieldType.boolean)).before a0 Z = true := hw _ (List.mem_of_getElem? (i := 66) rfl)
theorem wk_Utf16IsWellFormedPinLaw_30 {a0 : Array Value} {Z : State} (hw : ∀ d ∈ tables_1, d.before a0 Z = true) : (Jvm.Cond.constant "com/example/streetd/streetd/web/Utf16IsWellFormedPinLaw" (30 : Nat) (55296 : Int32)).before a0 Z = true := hw _ (List.mem_of_getElem? (i := 67) rfl)
theorem wl_Utf16IsWellFormedPinLaw_39 {a0 : Array Value} {Z : State} (hw : ∀ d ∈ tables_1, d.before a0 Z = true) : (Jvm.Cond.methodLink "com/example/streetd/streetd/web/Utf16IsWellFormedPinLaw" (39 : Nat) ({ cls := "com/example/streetd/streetd/web/Utf16IsWellFormedPinLaw", name := "low", desc := "(C)Z" } : Jvm.MethodName)).before a0 Z = true := hw _ (List.mem_of_getElem? (i := 68) rfl)
theorem ws_Utf16IsWellFormedPinLaw_low_lCrZ {a0 : Array Value} {Z : State} (hw : ∀ d ∈ tables_1, d.before a0 Z = true) : (Jvm.Cond.static ({ cls := "com/example/streetd/streetd/web/Utf16IsWellFormedPinLaw", name := "low", desc := "(C)Z" } : Jvm.MethodName)).before a0 Z = true := hw _ (List.mem_of_getElem? (i := 69) rfl)
theorem wb_Utf16IsWellFormedPinLaw_low_lCrZ {a0 : Array Value} {Z : State} (hw : ∀ d ∈ tables_1, d.before a0 Z = true) : (Jvm.Cond.code ({ cls := "com/example/streetd/streetd/web/Utf16IsWellFormedPinLaw", name := "low", desc := "(C)Z" } : Jvm.MethodName) method_5_code (1 : Nat) (Option.some Jvm.ClassFile.FieldType.boolean)).before a0 Z = true := hw _ (List.mem_of_getElem? (i := 70) rfl)
theorem wk_Utf16IsWellFormedPinLaw_33 {a0 : Array Value} {Z : State} (hw : ∀ d ∈ tables_1, d.before a0 Z = true) : (Jvm.Cond.constant "com/example/streetd/streetd/web/Utf16IsWellFormedPinLaw" (33 : Nat) (56320 : Int32)).before a0 Z = true := hw _ (List.mem_of_getElem? (i := 71) rfl)
theorem wl_Utf16_29 {a0 : Array Value} {Z : State} (hw : ∀ d ∈ tables_1, d.before a0 Z = true) : (Jvm.Cond.methodLink "com/example/streetd/streetd/web/Utf16" (29 : Nat) ({ cls := "java/lang/CharSequence", name := "charAt", desc := "(I)C" } : Jvm.MethodName)).before a0 Z = true := hw _ (List.mem_of_getElem? (i := 72) rfl)
theorem wd_CharSequence_charAt_lIrC {a0 : Array Value} {Z : State} (hw : ∀ d ∈ tables_1, d.before a0 Z = true) : (Jvm.Cond.declares ({ cls := "java/lang/CharSequence", name := "charAt", desc := "(I)C" } : Jvm.MethodName)).before a0 Z = true := hw _ (List.mem_of_getElem? (i := 73) rfl)
theorem wg_CharSequence_charAt_lIrC {a0 : Array Value} {Z : State} (hw : ∀ d ∈ tables_1, d.before a0 Z = true) : (Jvm.Cond.interfaceMethod "java/lang/CharSequence" "java/lang/CharSequence" "charAt" "(I)C").before a0 Z = true := hw _ (List.mem_of_getElem? (i := 74) rfl)
theorem wv_String_CharSequence_charAt_lIrC {a0 : Array Value} {Z : State} (hw : ∀ d ∈ tables_1, d.before a0 Z = true) : (Jvm.Cond.selects "java/lang/String" ({ cls := "java/lang/CharSequence", name := "charAt", desc := "(I)C" } : Jvm.MethodName) ({ cls := "java/lang/String", name := "charAt", desc := "(I)C" } : Jvm.MethodName)).before a0 Z = true := hw _ (List.mem_of_getElem? (i := 75) rfl)
theorem wm_String_charAt_lIrC {a0 : Array Value} {Z : State} (hw : ∀ d ∈ tables_1, d.before a0 Z = true) : (Jvm.Cond.instanceMethod ({ cls := "java/lang/String", name := "charAt", desc := "(I)C" } : Jvm.MethodName)).before a0 Z = true := hw _ (List.mem_of_getElem? (i := 76) rfl)
theorem wp_String_charAt_lIrC {a0 : Array Value} {Z : State} (hw : ∀ d ∈ tables_1, d.before a0 Z = true) : (Jvm.Cond.publicMethod ({ cls := "java/lang/String", name := "charAt", desc := "(I)C" } : Jvm.MethodName)).before a0 Z = true := hw _ (List.mem_of_getElem? (i := 77) rfl)
theorem wu_String_charAt_lIrC {a0 : Array Value} {Z : State} (hw : ∀ d ∈ tables_1, d.before a0 Z = true) : (Jvm.Cond.unhidden "java/lang/String" "charAt" "(I)C").before a0 Z = true := hw _ (List.mem_of_getElem? (i := 78) rfl)
theorem wb_String_charAt_lIrC {a0 : Array Value} {Z : State} (hw : ∀ d ∈ tables_1, d.before a0 Z = true) : (Jvm.Cond.code ({ cls := "java/lang/String", name := "charAt", desc := "(I)C" } : Jvm.MethodName) jdk_42_method_56_code (2 : Nat) (Option.some Jvm.ClassFile.FieldType.char)).before a0 Z = true := hw _ (List.mem_of_getElem? (i := 79) rfl)
theorem wl_String_492 {a0 : Array Value} {Z : State} (hw : ∀ d ∈ tables_1, d.before a0 Z = true) : (Jvm.Cond.methodLink "java/lang/String" (492 : Nat) ({ cls := "java/lang/String", name := "isLatin1", desc := "()Z" } : Jvm.MethodName)).before a0 Z = true := hw _ (List.mem_of_getElem? (i := 80) rfl)
theorem wd_String_isLatin1_lrZ {a0 : Array Value} {Z : State} (hw : ∀ d ∈ tables_1, d.before a0 Z = true) : (Jvm.Cond.declares ({ cls := "java/lang/String", name := "isLatin1", desc := "()Z" } : Jvm.MethodName)).before a0 Z = true := hw _ (List.mem_of_getElem? (i := 81) rfl)
theorem wm_String_isLatin1_lrZ {a0 : Array Value} {Z : State} (hw : ∀ d ∈ tables_1, d.before a0 Z = true) : (Jvm.Cond.instanceMethod ({ cls := "java/lang/String", name := "isLatin1", desc := "()Z" } : Jvm.MethodName)).before a0 Z = true := hw _ (List.mem_of_getElem? (i := 82) rfl)
theorem wv_String_String_isLatin1_lrZ {a0 : Array Value} {Z : State} (hw : ∀ d ∈ tables_1, d.before a0 Z = true) : (Jvm.Cond.selects "java/lang/String" ({ cls := "java/lang/String", name := "isLatin1", desc := "()Z" } : Jvm.MethodName) ({ cls := "java/lang/String", name := "isLatin1", desc := "()Z" } : Jvm.MethodName)).before a0 Z = true := hw _ (List.mem_of_getElem? (i := 83) rfl)
theorem wb_String_isLatin1_lrZ {a0 : Array Value} {Z : State} (hw : ∀ d ∈ tables_1, d.before a0 Z = true) : (Jvm.Cond.code ({ cls := "java/lang/String", name := "isLatin1", desc := "()Z" } : Jvm.MethodName) jdk_42_method_154_code (1 : Nat) (Option.some Jvm.ClassFile.FieldType.boolean)).before a0 Z = true := hw _ (List.mem_of_getElem? (i := 84) rfl)
theorem wl_String_495 {a0 : Array Value} {Z : State} (hw : ∀ d ∈ tables_1, d.before a0 Z = true) : (Jvm.Cond.methodLink "java/lang/String" (495 : Nat) ({ cls := "java/lang/StringLatin1", name := "charAt", desc := "([BI)C" } : Jvm.MethodName)).before a0 Z = true := hw _ (List.mem_of_getElem? (i := 85) rfl)
theorem ws_StringLatin1_charAt_lABIrC {a0 : Array Value} {Z : State} (hw : ∀ d ∈ tables_1, d.before a0 Z = true) : (Jvm.Cond.static ({ cls := "java/lang/StringLatin1", name := "charAt", desc := "([BI)C" } : Jvm.MethodName)).before a0 Z = true := hw _ (List.mem_of_getElem? (i := 86) rfl)
theorem wi_StringLatin1 {a0 : Array Value} {Z : State} (hw : ∀ d ∈ tables_1, d.before a0 Z = true) : (Jvm.Cond.initialized "java/lang/StringLatin1").before a0 Z = true := hw _ (List.mem_of_getElem? (i := 87) rfl)
theorem wb_StringLatin1_charAt_lABIrC {a0 : Array Value} {Z : State} (hw : ∀ d ∈ tables_1, d.before a0 Z = true) : (Jvm.Cond.code ({ cls := "java/lang/StringLatin1", name := "charAt", desc := "([BI)C" } : Jvm.MethodName) jdk_43_method_2_code (2 : Nat) (Option.some Jvm.ClassFile.FieldType.char)).before a0 Z = true := hw _ (List.mem_of_getElem? (i := 88) rfl)
theorem wl_StringLatin1_9 {a0 : Array Value} {Z : State} (hw : ∀ d ∈ tables_1, d.before a0 Z = true) : (Jvm.Cond.methodLink "java/lang/StringLatin1" (9 : Nat) ({ cls := "java/lang/String", name := "checkIndex", desc := "(II)V" } : Jvm.MethodName)).before a0 Z = true := hw _ (List.mem_of_getElem? (i := 89) rfl)
theorem ws_String_checkIndex_lIIrV {a0 : Array Value} {Z : State} (hw : ∀ d ∈ tables_1, d.before a0 Z = true) : (Jvm.Cond.static ({ cls := "java/lang/String", name := "checkIndex", desc := "(II)V" } : Jvm.MethodName)).before a0 Z = true := hw _ (List.mem_of_getElem? (i := 90) rfl)
theorem wb_String_checkIndex_lIIrV {a0 : Array Value} {Z : State} (hw : ∀ d ∈ tables_1, d.before a0 Z = true) : (Jvm.Cond.code ({ cls := "java/lang/String", name := "checkIndex", desc := "(II)V" } : Jvm.MethodName) jdk_42_method_155_code (2 : Nat) (Option.none : Option Jvm.ClassFile.FieldType)).before a0 Z = true := hw _ (List.mem_of_getElem? (i := 91) rfl)
theorem wf_String_1053 {a0 : Array Value} {Z : State} (hw : ∀ d ∈ tables_1, d.before a0 Z = true) : (Jvm.Cond.fieldLink "java/lang/String" (1053 : Nat) "jdk/internal/util/Preconditions" "SIOOBE_FORMATTER" "Ljava/util/function/BiFunction;").before a0 Z = true := hw _ (List.mem_of_getElem? (i := 92) rfl)
theorem wi_Preconditions {a0 : Array Value} {Z : State} (hw : ∀ d ∈ tables_1, d.before a0 Z = true) : (Jvm.Cond.initialized "jdk/internal/util/Preconditions").before a0 Z = true := hw _ (List.mem_of_getElem? (i := 93) rfl)
theorem wl_String_1059 {a0 : Array Value} {Z : State} (hw : ∀ d ∈ tables_1, d.before a0 Z = true) : (Jvm.Cond.methodLink "java/lang/String" (1059 : Nat) ({ cls := "jdk/internal/util/Preconditions", name := "checkIndex", desc := "(IILjava/util/function/BiFunction;)I" } : Jvm.MethodName)).before a0 Z = true := hw _ (List.mem_of_getElem? (i := 94) rfl)
theorem ws_Preconditions_checkIndex_lIILjavautilfunctionBiFunctionrI {a0 : Array Value} {Z : State} (hw : ∀ d ∈ tables_1, d.before a0 Z = true) : (Jvm.Cond.static ({ cls := "jdk/internal/util/Preconditions", name := "checkIndex", desc := "(IILjava/util/function/BiFunction;)I" } : Jvm.MethodName)).before a0 Z = true := hw _ (List.mem_of_getElem? (i := 95) rfl)
theorem wb_Preconditions_checkIndex_lIILjavautilfunctionBiFunctionrI {a0 : Array Value} {Z : State} (hw : ∀ d ∈ tables_1, d.before a0 Z = true) : (Jvm.Cond.code ({ cls := "jdk/internal/util/Preconditions", name := "checkIndex", desc := "(IILjava/util/function/BiFunction;)I" } : Jvm.MethodName) jdk_41_method_11_code (3 : Nat) (Option.some Jvm.ClassFile.FieldType.int)).before a0 Z = true := hw _ (List.mem_of_getElem? (i := 96) rfl)
theorem wl_Utf16_33 {a0 : Array Value} {Z : State} (hw : ∀ d ∈ tables_1, d.before a0 Z = true) : (Jvm.Cond.methodLink "com/example/streetd/streetd/web/Utf16" (33 : Nat) ({ cls := "java/lang/Character", name := "isSurrogate", desc := "(C)Z" } : Jvm.MethodName)).before a0 Z = true := hw _ (List.mem_of_getElem? (i := 97) rfl)
theorem ws_Character_isSurrogate_lCrZ {a0 : Array Value} {Z : State} (hw : ∀ d ∈ tables_1, d.before a0 Z = true) : (Jvm.Cond.static ({ cls := "java/lang/Character", name := "isSurrogate", desc := "(C)Z" } : Jvm.MethodName)).before a0 Z = true := hw _ (List.mem_of_getElem? (i := 98) rfl)
theorem wi_Character {a0 : Array Value} {Z : State} (hw : ∀ d ∈ tables_1, d.before a0 Z = true) : (Jvm.Cond.initialized "java/lang/Character").before a0 Z = true := hw _ (List.mem_of_getElem? (i := 99) rfl)
theorem wb_Character_isSurrogate_lCrZ {a0 : Array Value} {Z : State} (hw : ∀ d ∈ tables_1, d.before a0 Z = true) : (Jvm.Cond.code ({ cls := "java/lang/Character", name := "isSurrogate", desc := "(C)Z" } : Jvm.MethodName) jdk_89_method_16_code (1 : Nat) (Option.some Jvm.ClassFile.FieldType.boolean)).before a0 Z = true := hw _ (List.mem_of_getElem? (i := 100) rfl)
theorem wk_Character_75 {a0 : Array Value} {Z : State} (hw : ∀ d ∈ tables_1, d.before a0 Z = true) : (Jvm.Cond.constant "java/lang/Character" (75 : Nat) (55296 : Int32)).before a0 Z = true := hw _ (List.mem_of_getElem? (i := 101) rfl)
theorem wl_StringUTF16_119 {a0 : Array Value} {Z : State} (hw : ∀ d ∈ tables_1, d.before a0 Z = true) : (Jvm.Cond.methodLink "java/lang/StringUTF16" (119 : Nat) ({ cls := "java/lang/StringUTF16", name := "toBytes", desc := "([CII)[B" } : Jvm.MethodName)).before a0 Z = true := hw _ (List.mem_of_getElem? (i := 102) rfl)
theorem ws_StringUTF16_toBytes_lACIIrAB {a0 : Array Value} {Z : State} (hw : ∀ d ∈ tables_1, d.before a0 Z = true) : (Jvm.Cond.static ({ cls := "java/lang/StringUTF16", name := "toBytes", desc := "([CII)[B" } : Jvm.MethodName)).before a0 Z = true := hw _ (List.mem_of_getElem? (i := 103) rfl)
theorem wb_StringUTF16_toBytes_lACIIrAB {a0 : Array Value} {Z : State} (hw : ∀ d ∈ tables_1, d.before a0 Z = true) : (Jvm.Cond.code ({ cls := "java/lang/StringUTF16", name := "toBytes", desc := "([CII)[B" } : Jvm.MethodName) jdk_52_method_14_code (5 : Nat) (Option.some (Jvm.ClassFile.FieldType.array Jvm.ClassFile.FieldType.byte))).before a0 Z = true := hw _ (List.mem_of_getElem? (i := 104) rfl)
theorem wl_StringUTF16_107 {a0 : Array Value} {Z : State} (hw : ∀ d ∈ tables_1, d.before a0 Z = true) : (Jvm.Cond.methodLink "java/lang/StringUTF16" (107 : Nat) ({ cls := "java/lang/StringUTF16", name := "newBytesFor", desc := "(I)[B" } : Jvm.MethodName)).before a0 Z = true := hw _ (List.mem_of_getElem? (i := 105) rfl)
theorem ws_StringUTF16_newBytesFor_lIrAB {a0 : Array Value} {Z : State} (hw : ∀ d ∈ tables_1, d.before a0 Z = true) : (Jvm.Cond.static ({ cls := "java/lang/StringUTF16", name := "newBytesFor", desc := "(I)[B" } : Jvm.MethodName)).before a0 Z = true := hw _ (List.mem_of_getElem? (i := 106) rfl)
theorem wb_StringUTF16_newBytesFor_lIrAB {a0 : Array Value} {Z : State} (hw : ∀ d ∈ tables_1, d.before a0 Z = true) : (Jvm.Cond.code ({ cls := "java/lang/StringUTF16", name := "newBytesFor", desc := "(I)[B" } : Jvm.MethodName) jdk_52_method_2_code (1 : Nat) (Option.some (Jvm.ClassFile.FieldType.array Jvm.ClassFile.FieldType.byte))).before a0 Z = true := hw _ (List.mem_of_getElem? (i := 107) rfl)
theorem wl_StringUTF16_11 {a0 : Array Value} {Z : State} (hw : ∀ d ∈ tables_1, d.before a0 Z = true) : (Jvm.Cond.methodLink "java/lang/StringUTF16" (11 : Nat) ({ cls := "java/lang/StringUTF16", name := "newBytesLength", desc := "(I)I" } : Jvm.MethodName)).before a0 Z = true := hw _ (List.mem_of_getElem? (i := 108) rfl)
theorem ws_StringUTF16_newBytesLength_lIrI {a0 : Array Value} {Z : State} (hw : ∀ d ∈ tables_1, d.before a0 Z = true) : (Jvm.Cond.static ({ cls := "java/lang/StringUTF16", name := "newBytesLength", desc := "(I)I" } : Jvm.MethodName)).before a0 Z = true := hw _ (List.mem_of_getElem? (i := 109) rfl)
theorem wb_StringUTF16_newBytesLength_lIrI {a0 : Array Value} {Z : State} (hw : ∀ d ∈ tables_1, d.before a0 Z = true) : (Jvm.Cond.code ({ cls := "java/lang/StringUTF16", name := "newBytesLength", desc := "(I)I" } : Jvm.MethodName) jdk_52_method_3_code (1 : Nat) (Option.some Jvm.ClassFile.FieldType.int)).before a0 Z = true := hw _ (List.mem_of_getElem? (i := 110) rfl)
theorem wk_StringUTF16_20 {a0 : Array Value} {Z : State} (hw : ∀ d ∈ tables_1, d.before a0 Z = true) : (Jvm.Cond.constant "java/lang/StringUTF16" (20 : Nat) (1073741823 : Int32)).before a0 Z = true := hw _ (List.mem_of_getElem? (i := 111) rfl)
theorem wl_StringUTF16_111 {a0 : Array Value} {Z : State} (hw : ∀ d ∈ tables_1, d.before a0 Z = true) : (Jvm.Cond.methodLink "java/lang/StringUTF16" (111 : Nat) ({ cls := "java/lang/StringUTF16", name := "putChar", desc := "([BII)V" } : Jvm.MethodName)).before a0 Z = true := hw _ (List.mem_of_getElem? (i := 112) rfl)
theorem ws_StringUTF16_putChar_lABIIrV {a0 : Array Value} {Z : State} (hw : ∀ d ∈ tables_1, d.before a0 Z = true) : (Jvm.Cond.static ({ cls := "java/lang/StringUTF16", name := "putChar", desc := "([BII)V" } : Jvm.MethodName)).before a0 Z = true := hw _ (List.mem_of_getElem? (i := 113) rfl)
theorem wb_StringUTF16_putChar_lABIIrV {a0 : Array Value} {Z : State} (hw : ∀ d ∈ tables_1, d.before a0 Z = true) : (Jvm.Cond.code ({ cls := "java/lang/StringUTF16", name := "putChar", desc := "([BII)V" } : Jvm.MethodName) jdk_52_method_4_code (3 : Nat) (Option.none : Option Jvm.ClassFile.FieldType)).before a0 Z = true := hw _ (List.mem_of_getElem? (i := 114) rfl)
theorem wf_StringUTF16_44 {a0 : Array Value} {Z : State} (hw : ∀ d ∈ tables_1, d.before a0 Z = true) : (Jvm.Cond.fieldLink "java/lang/StringUTF16" (44 : Nat) "java/lang/StringUTF16" "$assertionsDisabled" "Z").before a0 Z = true := hw _ (List.mem_of_getElem? (i := 115) rfl)
theorem wf_StringUTF16_59 {a0 : Array Value} {Z : State} (hw : ∀ d ∈ tables_1, d.before a0 Z = true) : (Jvm.Cond.fieldLink "java/lang/StringUTF16" (59 : Nat) "java/lang/StringUTF16" "HI_BYTE_SHIFT" "I").before a0 Z = true := hw _ (List.mem_of_getElem? (i := 116) rfl)
theorem wf_StringUTF16_63 {a0 : Array Value} {Z : State} (hw : ∀ d ∈ tables_1, d.before a0 Z = true) : (Jvm.Cond.fieldLink "java/lang/StringUTF16" (63 : Nat) "java/lang/StringUTF16" "LO_BYTE_SHIFT" "I").before a0 Z = true := hw _ (List.mem_of_getElem? (i := 117) rfl)
theorem wl_StringUTF16_71 {a0 : Array Value} {Z : State} (hw : ∀ d ∈ tables_1, d.before a0 Z = true) : (Jvm.Cond.methodLink "java/lang/StringUTF16" (71 : Nat) ({ cls := "java/lang/StringUTF16", name := "getChar", desc := "([BI)C" } : Jvm.MethodName)).before a0 Z = true := hw _ (List.mem_of_getElem? (i := 118) rfl)
theorem ws_StringUTF16_getChar_lABIrC {a0 : Array Value} {Z : State} (hw : ∀ d ∈ tables_1, d.before a0 Z = true) : (Jvm.Cond.static ({ cls := "java/lang/StringUTF16", name := "getChar", desc := "([BI)C" } : Jvm.MethodName)).before a0 Z = true := hw _ (List.mem_of_getElem? (i := 119) rfl)
theorem wb_StringUTF16_getChar_lABIrC {a0 : Array Value} {Z : State} (hw : ∀ d ∈ tables_1, d.before a0 Z = true) : (Jvm.Cond.code ({ cls := "java/lang/StringUTF16", name := "getChar", desc := "([BI)C" } : Jvm.MethodName) jdk_52_method_5_code (2 : Nat) (Option.some Jvm.ClassFile.FieldType.char)).before a0 Z = true := hw _ (List.mem_of_getElem? (i := 120) rfl)
theorem wk_Utf16IsWellFormedPinLaw_32 {a0 : Array Value} {Z : State} (hw : ∀ d ∈ tables_1, d.before a0 Z = true) : (Jvm.Cond.constant "com/example/streetd/streetd/web/Utf16IsWellFormedPinLaw" (32 : Nat) (56319 : Int32)).before a0 Z = true := hw _ (List.mem_of_getElem? (i := 121) rfl)
theorem wk_Utf16IsWellFormedPinLaw_34 {a0 : Array Value} {Z : State} (hw : ∀ d ∈ tables_1, d.before a0 Z = true) : (Jvm.Cond.constant "com/example/streetd/streetd/web/Utf16IsWellFormedPinLaw" (34 : Nat) (57343 : Int32)).before a0 Z = true := hw _ (List.mem_of_getElem? (i := 122) rfl)
theorem wl_String_498 {a0 : Array Value} {Z : State} (hw : ∀ d ∈ tables_1, d.before a0 Z = true) : (Jvm.Cond.methodLink "java/lang/String" (498 : Nat) ({ cls := "java/lang/StringUTF16", name := "charAt", desc := "([BI)C" } : Jvm.MethodName)).before a0 Z = true := hw _ (List.mem_of_getElem? (i := 123) rfl)
theorem ws_StringUTF16_charAt_lABIrC {a0 : Array Value} {Z : State} (hw : ∀ d ∈ tables_1, d.before a0 Z = true) : (Jvm.Cond.static ({ cls := "java/lang/StringUTF16", name := "charAt", desc := "([BI)C" } : Jvm.MethodName)).before a0 Z = true := hw _ (List.mem_of_getElem? (i := 124) rfl)
theorem wb_StringUTF16_charAt_lABIrC {a0 : Array Value} {Z : State} (hw : ∀ d ∈ tables_1, d.before a0 Z = true) : (Jvm.Cond.code ({ cls := "java/lang/StringUTF16", name := "charAt", desc := "([BI)C" } : Jvm.MethodName) jdk_52_method_83_code (2 : Nat) (Option.some Jvm.ClassFile.FieldType.char)).before a0 Z = true := hw _ (List.mem_of_getElem? (i := 125) rfl)
theorem wl_StringUTF16_67 {a0 : Array Value} {Z : State} (hw : ∀ d ∈ tables_1, d.before a0 Z = true) : (Jvm.Cond.methodLink "java/lang/StringUTF16" (67 : Nat) ({ cls := "java/lang/StringUTF16", name := "checkIndex", desc := "(I[B)V" } : Jvm.MethodName)).before a0 Z = true := hw _ (List.mem_of_getElem? (i := 126) rfl)
theorem ws_StringUTF16_checkIndex_lIABrV {a0 : Array Value} {Z : State} (hw : ∀ d ∈ tables_1, d.before a0 Z = true) : (Jvm.Cond.static ({ cls := "java/lang/StringUTF16", name := "checkIndex", desc := "(I[B)V" } : Jvm.MethodName)).before a0 Z = true := hw _ (List.mem_of_getElem? (i := 127) rfl)
theorem wb_StringUTF16_checkIndex_lIABrV {a0 : Array Value} {Z : State} (hw : ∀ d ∈ tables_1, d.before a0 Z = true) : (Jvm.Cond.code ({ cls := "java/lang/StringUTF16", name := "checkIndex", desc := "(I[B)V" } : Jvm.MethodName) jdk_52_method_91_code (2 : Nat) (Option.none : Option Jvm.ClassFile.FieldType)).before a0 Z = true := hw _ (List.mem_of_getElem? (i := 128) rfl)
theorem wl_StringUTF16_48 {a0 : Array Value} {Z : State} (hw : ∀ d ∈ tables_1, d.before a0 Z = true) : (Jvm.Cond.methodLink "java/lang/StringUTF16" (48 : Nat) ({ cls := "java/lang/StringUTF16", name := "length", desc := "([B)I" } : Jvm.MethodName)).before a0 Z = true := hw _ (List.mem_of_getElem? (i := 129) rfl)
theorem ws_StringUTF16_length_lABrI {a0 : Array Value} {Z : State} (hw : ∀ d ∈ tables_1, d.before a0 Z = true) : (Jvm.Cond.static ({ cls := "java/lang/StringUTF16", name := "length", desc := "([B)I" } : Jvm.MethodName)).before a0 Z = true := hw _ (List.mem_of_getElem? (i := 130) rfl)
theorem wb_StringUTF16_length_lABrI {a0 : Array Value} {Z : State} (hw : ∀ d ∈ tables_1, d.before a0 Z = true) : (Jvm.Cond.code ({ cls := "java/lang/StringUTF16", name := "length", desc := "([B)I" } : Jvm.MethodName) jdk_52_method_6_code (1 : Nat) (Option.some Jvm.ClassFile.FieldType.int)).before a0 Z = true := hw _ (List.mem_of_getElem? (i := 131) rfl)
theorem wl_StringUTF16_414 {a0 : Array Value} {Z : State} (hw : ∀ d ∈ tables_1, d.before a0 Z = true) : (Jvm.Cond.methodLink "java/lang/StringUTF16" (414 : Nat) ({ cls := "java/lang/String", name := "checkIndex", desc := "(II)V" } : Jvm.MethodName)).before a0 Z = true := hw _ (List.mem_of_getElem? (i := 132) rfl)
theorem wk_Character_77 {a0 : Array Value} {Z : State} (hw : ∀ d ∈ tables_1, d.before a0 Z = true) : (Jvm.Cond.constant "java/lang/Character" (77 : Nat) (57344 : Int32)).before a0 Z = true := hw _ (List.mem_of_getElem? (i := 133) rfl)
theorem wl_Utf16_39 {a0 : Array Value} {Z : State} (hw : ∀ d ∈ tables_1, d.before a0 Z = true) : (Jvm.Cond.methodLink "com/example/streetd/streetd/web/Utf16" (39 : Nat) ({ cls := "java/lang/Character", name := "isHighSurrogate", desc := "(C)Z" } : Jvm.MethodName)).before a0 Z = true := hw _ (List.mem_of_getElem? (i := 134) rfl)
theorem ws_Character_isHighSurrogate_lCrZ {a0 : Array Value} {Z : State} (hw : ∀ d ∈ tables_1, d.before a0 Z = true) : (Jvm.Cond.static ({ cls := "java/lang/Character", name := "isHighSurrogate", desc := "(C)Z" } : Jvm.MethodName)).before a0 Z = true := hw _ (List.mem_of_getElem? (i := 135) rfl)
theorem wb_Character_isHighSurrogate_lCrZ {a0 : Array Value} {Z : State} (hw : ∀ d ∈ tables_1, d.before a0 Z = true) : (Jvm.Cond.code ({ cls := "java/lang/Character", name := "isHighSurrogate", desc := "(C)Z" } : Jvm.MethodName) jdk_89_method_14_code (1 : Nat) (Option.some Jvm.ClassFile.FieldType.boolean)).before a0 Z = true := hw _ (List.mem_of_getElem? (i := 136) rfl)
theorem wk_Character_76 {a0 : Array Value} {Z : State} (hw : ∀ d ∈ tables_1, d.before a0 Z = true) : (Jvm.Cond.constant "java/lang/Character" (76 : Nat) (56320 : Int32)).before a0 Z = true := hw _ (List.mem_of_getElem? (i := 137) rfl)
theorem wl_Utf16_42 {a0 : Array Value} {Z : State} (hw : ∀ d ∈ tables_1, d.before a0 Z = true) : (Jvm.Cond.methodLink "com/example/streetd/streetd/web/Utf16" (42 : Nat) ({ cls := "java/lang/Character", name := "isLowSurrogate", desc := "(C)Z" } : Jvm.MethodName)).before a0 Z = true := hw _ (List.mem_of_getElem? (i := 138) rfl)
theorem ws_Character_isLowSurrogate_lCrZ {a0 : Array Value} {Z : State} (hw : ∀ d ∈ tables_1, d.before a0 Z = true) : (Jvm.Cond.static ({ cls := "java/lang/Character", name := "isLowSurrogate", desc := "(C)Z" } : Jvm.MethodName)).before a0 Z = true := hw _ (List.mem_of_getElem? (i := 139) rfl)
theorem wb_Character_isLowSurrogate_lCrZ {a0 : Array Value} {Z : State} (hw : ∀ d ∈ tables_1, d.before a0 Z = true) : (Jvm.Cond.code ({ cls := "java/lang/Character", name := "isLowSurrogate", desc := "(C)Z" } : Jvm.MethodName) jdk_89_method_15_code (1 : Nat) (Option.some Jvm.ClassFile.FieldType.boolean)).before a0 Z = true := hw _ (List.mem_of_getElem? (i := 140) rfl)
theorem dm3_0 : decode method_3_code 0 = .ok (.iload_n 0, 1) := by decide +kernel
theorem dm3_1 : decode method_3_code 1 = .ok (.ldc 29, 2) := by decide +kernel
theorem dm3_3 : decode method_3_code 3 = .ok (.iand, 1) := by decide +kernel
theorem dm3_4 : decode method_3_code 4 = .ok (.ifCond .eq 13, 3) := by decide +kernel
theorem dm3_7 : decode method_3_code 7 = .ok (.ldc 30, 2) := by decide +kernel
theorem dm3_9 : decode method_3_code 9 = .ok (.iload_n 0, 1) := by decide +kernel
theorem dm3_10 : decode method_3_code 10 = .ok (.sipush 2047, 3) := by decide +kernel
theorem dm3_13 : decode method_3_code 13 = .ok (.iand, 1) := by decide +kernel
theorem dm3_14 : decode method_3_code 14 = .ok (.iadd, 1) := by decide +kernel
theorem dm3_15 : decode method_3_code 15 = .ok (.i2c, 1) := by decide +kernel
theorem dm3_16 : decode method_3_code 16 = .ok (.ireturn, 1) := by decide +kernel
theorem dm3_17 : decode method_3_code 17 = .ok (.iload_n 0, 1) := by decide +kernel
theorem dm3_18 : decode method_3_code 18 = .ok (.ldc 31, 2) := by decide +kernel
theorem dm3_20 : decode method_3_code 20 = .ok (.iand, 1) := by decide +kernel
theorem dm3_21 : decode method_3_code 21 = .ok (.i2c, 1) := by decide +kernel
theorem dm3_22 : decode method_3_code 22 = .ok (.ireturn, 1) := by decide +kernel
theorem dj42_3_0 : decode jdk_42_method_3_code 0 = .ok (.aload_n 0, 1) := by decide +kernel
theorem dj42_3_1 : decode jdk_42_method_3_code 1 = .ok (.aload_n 1, 1) := by decide +kernel
theorem dj42_3_2 : decode jdk_42_method_3_code 2 = .ok (.iconst 0, 1) := by decide +kernel
theorem dj42_3_3 : decode jdk_42_method_3_code 3 = .ok (.aload_n 1, 1) := by decide +kernel
theorem dj42_3_4 : decode jdk_42_method_3_code 4 = .ok (.arraylength, 1) := by decide +kernel
theorem dj42_3_5 : decode jdk_42_method_3_code 5 = .ok (.aconst_null, 1) := by decide +kernel
theorem dj42_3_6 : decode jdk_42_method_3_code 6 = .ok (.invokespecial 27, 3) := by decide +kernel
theorem dj42_3_9 : decode jdk_42_method_3_code 9 = .ok (.return_, 1) := by decide +kernel
theorem dj42_149_0 : decode jdk_42_method_149_code 0 = .ok (.aload_n 0, 1) := by decide +kernel
theorem dj42_149_1 : decode jdk_42_method_149_code 1 = .ok (.invokespecial 1, 3) := by decide +kernel
theorem dj42_149_4 : decode jdk_42_method_149_code 4 = .ok (.iload_n 3, 1) := by decide +kernel
theorem dj42_149_5 : decode jdk_42_method_149_code 5 = .ok (.ifCond .ne 22, 3) := by decide +kernel
theorem dj42_149_8 : decode jdk_42_method_149_code 8 = .ok (.aload_n 0, 1) := by decide +kernel
theorem dj42_149_9 : decode jdk_42_method_149_code 9 = .ok (.ldc 7, 2) := by decide +kernel
theorem dj42_149_11 : decode jdk_42_method_149_code 11 = .ok (.getfield 9, 3) := by decide +kernel
theorem dj42_149_14 : decode jdk_42_method_149_code 14 = .ok (.putfield 9, 3) := by decide +kernel
theorem dj42_149_17 : decode jdk_42_method_149_code 17 = .ok (.aload_n 0, 1) := by decide +kernel
theorem dj42_149_18 : decode jdk_42_method_149_code 18 = .ok (.ldc 7, 2) := by decide +kernel
theorem dj42_149_20 : decode jdk_42_method_149_code 20 = .ok (.getfield 15, 3) := by decide +kernel
theorem dj42_149_23 : decode jdk_42_method_149_code 23 = .ok (.putfield 15, 3) := by decide +kernel
theorem dj42_149_26 : decode jdk_42_method_149_code 26 = .ok (.return_, 1) := by decide +kernel
theorem dj42_149_27 : decode jdk_42_method_149_code 27 = .ok (.getstatic 38, 3) := by decide +kernel
theorem dj42_149_30 : decode jdk_42_method_149_code 30 = .ok (.ifCond .eq 28, 3) := by decide +kernel
theorem dj42_149_33 : decode jdk_42_method_149_code 33 = .ok (.aload_n 1, 1) := by decide +kernel
theorem dj42_149_34 : decode jdk_42_method_149_code 34 = .ok (.iload_n 2, 1) := by decide +kernel
theorem dj42_149_35 : decode jdk_42_method_149_code 35 = .ok (.iload_n 3, 1) := by decide +kernel
theorem dj42_149_36 : decode jdk_42_method_149_code 36 = .ok (.invokestatic 177, 3) := by decide +kernel
theorem dj42_149_39 : decode jdk_42_method_149_code 39 = .ok (.astore 5, 2) := by decide +kernel
theorem dj42_149_41 : decode jdk_42_method_149_code 41 = .ok (.aload_n 0, 1) := by decide +kernel
theorem dj42_149_42 : decode jdk_42_method_149_code 42 = .ok (.aload 5, 2) := by decide +kernel
theorem dj42_149_44 : decode jdk_42_method_149_code 44 = .ok (.iload_n 3, 1) := by decide +kernel
theorem dj42_149_45 : decode jdk_42_method_149_code 45 = .ok (.invokestatic 47, 3) := by decide +kernel
theorem dj42_149_48 : decode jdk_42_method_149_code 48 = .ok (.putfield 15, 3) := by decide +kernel
theorem dj42_149_51 : decode jdk_42_method_149_code 51 = .ok (.aload_n 0, 1) := by decide +kernel
theorem dj42_149_52 : decode jdk_42_method_149_code 52 = .ok (.aload 5, 2) := by decide +kernel
theorem dj42_149_54 : decode jdk_42_method_149_code 54 = .ok (.putfield 9, 3) := by decide +kernel
theorem dj42_149_57 : decode jdk_42_method_149_code 57 = .ok (.return_, 1) := by decide +kernel
theorem dj42_149_58 : decode jdk_42_method_149_code 58 = .ok (.aload_n 0, 1) := by decide +kernel
theorem dj42_149_59 : decode jdk_42_method_149_code 59 = .ok (.iconst 1, 1) := by decide +kernel
theorem dj42_149_60 : decode jdk_42_method_149_code 60 = .ok (.putfield 15, 3) := by decide +kernel
theorem dj42_149_63 : decode jdk_42_method_149_code 63 = .ok (.aload_n 0, 1) := by decide +kernel
theorem dj42_149_64 : decode jdk_42_method_149_code 64 = .ok (.aload_n 1, 1) := by decide +kernel
theorem dj42_149_65 : decode jdk_42_method_149_code 65 = .ok (.iload_n 2, 1) := by decide +kernel
theorem dj42_149_66 : decode jdk_42_method_149_code 66 = .ok (.iload_n 3, 1) := by decide +kernel
theorem dj42_149_67 : decode jdk_42_method_149_code 67 = .ok (.invokestatic 180, 3) := by decide +kernel
theorem dj42_149_70 : decode jdk_42_method_149_code 70 = .ok (.putfield 9, 3) := by decide +kernel
theorem dj42_149_73 : decode jdk_42_method_149_code 73 = .ok (.return_, 1) := by decide +kernel
theorem dobject_method_1_0 : decode object_method_1_code 0 = .ok (.return_, 1) := by decide +kernel
theorem dm6_0 : decode method_6_code 0 = .ok (.iload_n 2, 1) := by decide +kernel
theorem dm6_1 : decode method_6_code 1 = .ok (.iload_n 1, 1) := by decide +kernel
theorem dm6_2 : decode method_6_code 2 = .ok (.if_icmp .lt 5, 3) := by decide +kernel
theorem dm6_5 : decode method_6_code 5 = .ok (.iconst 0, 1) := by decide +kernel
theorem dm6_6 : decode method_6_code 6 = .ok (.ireturn, 1) := by decide +kernel
theorem dm6_7 : decode method_6_code 7 = .ok (.aload_n 0, 1) := by decide +kernel
theorem dm6_8 : decode method_6_code 8 = .ok (.iload_n 2, 1) := by decide +kernel
theorem dm6_9 : decode method_6_code 9 = .ok (.caload, 1) := by decide +kernel
theorem dm6_10 : decode method_6_code 10 = .ok (.istore_n 3, 1) := by decide +kernel
theorem dm6_11 : decode method_6_code 11 = .ok (.iload_n 3, 1) := by decide +kernel
theorem dm6_12 : decode method_6_code 12 = .ok (.invokestatic 35, 3) := by decide +kernel
theorem dm6_15 : decode method_6_code 15 = .ok (.ifCond .eq 27, 3) := by decide +kernel
theorem dm6_18 : decode method_6_code 18 = .ok (.iload_n 2, 1) := by decide +kernel
theorem dm6_19 : decode method_6_code 19 = .ok (.iconst 1, 1) := by decide +kernel
theorem dm6_20 : decode method_6_code 20 = .ok (.iadd, 1) := by decide +kernel
theorem dm6_21 : decode method_6_code 21 = .ok (.iload_n 1, 1) := by decide +kernel
theorem dm6_22 : decode method_6_code 22 = .ok (.if_icmp .ge 14, 3) := by decide +kernel
theorem dm6_25 : decode method_6_code 25 = .ok (.aload_n 0, 1) := by decide +kernel
theorem dm6_26 : decode method_6_code 26 = .ok (.iload_n 2, 1) := by decide +kernel
theorem dm6_27 : decode method_6_code 27 = .ok (.iconst 1, 1) := by decide +kernel
theorem dm6_28 : decode method_6_code 28 = .ok (.iadd, 1) := by decide +kernel
theorem dm6_29 : decode method_6_code 29 = .ok (.caload, 1) := by decide +kernel
theorem dm6_30 : decode method_6_code 30 = .ok (.invokestatic 39, 3) := by decide +kernel
theorem dm6_33 : decode method_6_code 33 = .ok (.ifCond .ne 7, 3) := by decide +kernel
theorem dm6_36 : decode method_6_code 36 = .ok (.iconst 1, 1) := by decide +kernel
theorem dm6_37 : decode method_6_code 37 = .ok (.goto 4, 3) := by decide +kernel
theorem dm6_40 : decode method_6_code 40 = .ok (.iconst 0, 1) := by decide +kernel
theorem dm6_41 : decode method_6_code 41 = .ok (.ireturn, 1) := by decide +kernel
theorem dm6_42 : decode method_6_code 42 = .ok (.iload_n 3, 1) := by decide +kernel
theorem dm6_43 : decode method_6_code 43 = .ok (.invokestatic 39, 3) := by decide +kernel
theorem dm6_46 : decode method_6_code 46 = .ok (.ifCond .eq 24, 3) := by decide +kernel
theorem dm6_49 : decode method_6_code 49 = .ok (.iload_n 2, 1) := by decide +kernel
theorem dm6_50 : decode method_6_code 50 = .ok (.ifCond .le 14, 3) := by decide +kernel
theorem dm6_53 : decode method_6_code 53 = .ok (.aload_n 0, 1) := by decide +kernel
theorem dm6_54 : decode method_6_code 54 = .ok (.iload_n 2, 1) := by decide +kernel
theorem dm6_55 : decode method_6_code 55 = .ok (.iconst 1, 1) := by decide +kernel
theorem dm6_56 : decode method_6_code 56 = .ok (.isub, 1) := by decide +kernel
theorem dm6_57 : decode method_6_code 57 = .ok (.caload, 1) := by decide +kernel
theorem dm6_58 : decode method_6_code 58 = .ok (.invokestatic 35, 3) := by decide +kernel
theorem dm6_61 : decode method_6_code 61 = .ok (.ifCond .ne 7, 3) := by decide +kernel
theorem dm6_64 : decode method_6_code 64 = .ok (.iconst 1, 1) := by decide +kernel
theorem dm6_65 : decode method_6_code 65 = .ok (.goto 4, 3) := by decide +kernel
theorem dm6_68 : decode method_6_code 68 = .ok (.iconst 0, 1) := by decide +kernel
theorem dm6_69 : decode method_6_code 69 = .ok (.ireturn, 1) := by decide +kernel
theorem dm6_70 : decode method_6_code 70 = .ok (.iconst 0, 1) := by decide +kernel
theorem dm6_71 : decode method_6_code 71 = .ok (.ireturn, 1) := by decide +kernel
theorem dp28_2_0 : decode prog_28_method_2_code 0 = .ok (.aload_n 0, 1) := by decide +kernel
theorem dp28_2_1 : decode prog_28_method_2_code 1 = .ok (.iconst 0, 1) := by decide +kernel
theorem dp28_2_2 : decode prog_28_method_2_code 2 = .ok (.invokestatic 7, 3) := by decide +kernel
theorem dp28_2_5 : decode prog_28_method_2_code 5 = .ok (.ifCond .ge 7, 3) := by decide +kernel
theorem dp28_2_8 : decode prog_28_method_2_code 8 = .ok (.iconst 1, 1) := by decide +kernel
theorem dp28_2_9 : decode prog_28_method_2_code 9 = .ok (.goto 4, 3) := by decide +kernel
theorem dp28_2_12 : decode prog_28_method_2_code 12 = .ok (.iconst 0, 1) := by decide +kernel
theorem dp28_2_13 : decode prog_28_method_2_code 13 = .ok (.ireturn, 1) := by decide +kernel
theorem dp28_4_0 : decode prog_28_method_4_code 0 = .ok (.iload_n 1, 1) := by decide +kernel
theorem dp28_4_1 : decode prog_28_method_4_code 1 = .ok (.istore_n 2, 1) := by decide +kernel
theorem dp28_4_2 : decode prog_28_method_4_code 2 = .ok (.iload_n 2, 1) := by decide +kernel
theorem dp28_4_3 : decode prog_28_method_4_code 3 = .ok (.aload_n 0, 1) := by decide +kernel
theorem dp28_4_4 : decode prog_28_method_4_code 4 = .ok (.invokeinterface 23 1, 5) := by decide +kernel
theorem dp28_4_9 : decode prog_28_method_4_code 9 = .ok (.if_icmp .ge 119, 3) := by decide +kernel
theorem dp28_4_12 : decode prog_28_method_4_code 12 = .ok (.aload_n 0, 1) := by decide +kernel
theorem dp28_4_13 : decode prog_28_method_4_code 13 = .ok (.iload_n 2, 1) := by decide +kernel
theorem dp28_4_14 : decode prog_28_method_4_code 14 = .ok (.invokeinterface 29 2, 5) := by decide +kernel
theorem dp28_4_19 : decode prog_28_method_4_code 19 = .ok (.istore_n 3, 1) := by decide +kernel
theorem dp28_4_20 : decode prog_28_method_4_code 20 = .ok (.iload_n 3, 1) := by decide +kernel
theorem dp28_4_21 : decode prog_28_method_4_code 21 = .ok (.invokestatic 33, 3) := by decide +kernel
theorem dp28_4_24 : decode prog_28_method_4_code 24 = .ok (.ifCond .ne 6, 3) := by decide +kernel
theorem dp28_4_27 : decode prog_28_method_4_code 27 = .ok (.goto 95, 3) := by decide +kernel
theorem dp28_4_30 : decode prog_28_method_4_code 30 = .ok (.iload_n 3, 1) := by decide +kernel
theorem dp28_4_31 : decode prog_28_method_4_code 31 = .ok (.invokestatic 39, 3) := by decide +kernel
theorem dp28_4_34 : decode prog_28_method_4_code 34 = .ok (.ifCond .eq 34, 3) := by decide +kernel
theorem dp28_4_37 : decode prog_28_method_4_code 37 = .ok (.iload_n 2, 1) := by decide +kernel
theorem dp28_4_38 : decode prog_28_method_4_code 38 = .ok (.iconst 1, 1) := by decide +kernel
theorem dp28_4_39 : decode prog_28_method_4_code 39 = .ok (.iadd, 1) := by decide +kernel
theorem dp28_4_40 : decode prog_28_method_4_code 40 = .ok (.aload_n 0, 1) := by decide +kernel
theorem dp28_4_41 : decode prog_28_method_4_code 41 = .ok (.invokeinterface 23 1, 5) := by decide +kernel
theorem dp28_4_46 : decode prog_28_method_4_code 46 = .ok (.if_icmp .ge 22, 3) := by decide +kernel
theorem dp28_4_49 : decode prog_28_method_4_code 49 = .ok (.aload_n 0, 1) := by decide +kernel
theorem dp28_4_50 : decode prog_28_method_4_code 50 = .ok (.iload_n 2, 1) := by decide +kernel
theorem dp28_4_51 : decode prog_28_method_4_code 51 = .ok (.iconst 1, 1) := by decide +kernel
theorem dp28_4_52 : decode prog_28_method_4_code 52 = .ok (.iadd, 1) := by decide +kernel
theorem dp28_4_53 : decode prog_28_method_4_code 53 = .ok (.invokeinterface 29 2, 5) := by decide +kernel
theorem dp28_4_58 : decode prog_28_method_4_code 58 = .ok (.invokestatic 42, 3) := by decide +kernel
theorem dp28_4_61 : decode prog_28_method_4_code 61 = .ok (.ifCond .eq 7, 3) := by decide +kernel
theorem dp28_4_64 : decode prog_28_method_4_code 64 = .ok (.iconst 1, 1) := by decide +kernel
theorem dp28_4_65 : decode prog_28_method_4_code 65 = .ok (.goto 4, 3) := by decide +kernel
theorem dp28_4_68 : decode prog_28_method_4_code 68 = .ok (.iconst 0, 1) := by decide +kernel
theorem dp28_4_69 : decode prog_28_method_4_code 69 = .ok (.istore 4, 2) := by decide +kernel
theorem dp28_4_71 : decode prog_28_method_4_code 71 = .ok (.iload_n 3, 1) := by decide +kernel
theorem dp28_4_72 : decode prog_28_method_4_code 72 = .ok (.invokestatic 42, 3) := by decide +kernel
theorem dp28_4_75 : decode prog_28_method_4_code 75 = .ok (.ifCond .eq 26, 3) := by decide +kernel
theorem dp28_4_78 : decode prog_28_method_4_code 78 = .ok (.iload_n 2, 1) := by decide +kernel
theorem dp28_4_79 : decode prog_28_method_4_code 79 = .ok (.ifCond .le 22, 3) := by decide +kernel
theorem dp28_4_82 : decode prog_28_method_4_code 82 = .ok (.aload_n 0, 1) := by decide +kernel
theorem dp28_4_83 : decode prog_28_method_4_code 83 = .ok (.iload_n 2, 1) := by decide +kernel
theorem dp28_4_84 : decode prog_28_method_4_code 84 = .ok (.iconst 1, 1) := by decide +kernel
theorem dp28_4_85 : decode prog_28_method_4_code 85 = .ok (.isub, 1) := by decide +kernel
theorem dp28_4_86 : decode prog_28_method_4_code 86 = .ok (.invokeinterface 29 2, 5) := by decide +kernel
theorem dp28_4_91 : decode prog_28_method_4_code 91 = .ok (.invokestatic 39, 3) := by decide +kernel
theorem dp28_4_94 : decode prog_28_method_4_code 94 = .ok (.ifCond .eq 7, 3) := by decide +kernel
theorem dp28_4_97 : decode prog_28_method_4_code 97 = .ok (.iconst 1, 1) := by decide +kernel
theorem dp28_4_98 : decode prog_28_method_4_code 98 = .ok (.goto 4, 3) := by decide +kernel
theorem dp28_4_101 : decode prog_28_method_4_code 101 = .ok (.iconst 0, 1) := by decide +kernel
theorem dp28_4_102 : decode prog_28_method_4_code 102 = .ok (.istore 5, 2) := by decide +kernel
theorem dp28_4_104 : decode prog_28_method_4_code 104 = .ok (.iload 4, 2) := by decide +kernel
theorem dp28_4_106 : decode prog_28_method_4_code 106 = .ok (.ifCond .eq 9, 3) := by decide +kernel
theorem dp28_4_109 : decode prog_28_method_4_code 109 = .ok (.iinc 2 1, 3) := by decide +kernel
theorem dp28_4_112 : decode prog_28_method_4_code 112 = .ok (.goto 10, 3) := by decide +kernel
theorem dp28_4_115 : decode prog_28_method_4_code 115 = .ok (.iload 5, 2) := by decide +kernel
theorem dp28_4_117 : decode prog_28_method_4_code 117 = .ok (.ifCond .ne 5, 3) := by decide +kernel
theorem dp28_4_120 : decode prog_28_method_4_code 120 = .ok (.iload_n 2, 1) := by decide +kernel
theorem dp28_4_121 : decode prog_28_method_4_code 121 = .ok (.ireturn, 1) := by decide +kernel
theorem dp28_4_122 : decode prog_28_method_4_code 122 = .ok (.iinc 2 1, 3) := by decide +kernel
theorem dp28_4_125 : decode prog_28_method_4_code 125 = .ok (.goto (-123), 3) := by decide +kernel
theorem dp28_4_128 : decode prog_28_method_4_code 128 = .ok (.iconst (-1), 1) := by decide +kernel
theorem dp28_4_129 : decode prog_28_method_4_code 129 = .ok (.ireturn, 1) := by decide +kernel
theorem dj42_54_0 : decode jdk_42_method_54_code 0 = .ok (.aload_n 0, 1) := by decide +kernel
theorem dj42_54_1 : decode jdk_42_method_54_code 1 = .ok (.getfield 9, 3) := by decide +kernel
theorem dj42_54_4 : decode jdk_42_method_54_code 4 = .ok (.arraylength, 1) := by decide +kernel
theorem dj42_54_5 : decode jdk_42_method_54_code 5 = .ok (.aload_n 0, 1) := by decide +kernel
theorem dj42_54_6 : decode jdk_42_method_54_code 6 = .ok (.invokevirtual 335, 3) := by decide +kernel
theorem dj42_54_9 : decode jdk_42_method_54_code 9 = .ok (.ishr, 1) := by decide +kernel
theorem dj42_54_10 : decode jdk_42_method_54_code 10 = .ok (.ireturn, 1) := by decide +kernel
theorem dj42_152_0 : decode jdk_42_method_152_code 0 = .ok (.getstatic 38, 3) := by decide +kernel
theorem dj42_152_3 : decode jdk_42_method_152_code 3 = .ok (.ifCond .eq 10, 3) := by decide +kernel
theorem dj42_152_6 : decode jdk_42_method_152_code 6 = .ok (.aload_n 0, 1) := by decide +kernel
theorem dj42_152_7 : decode jdk_42_method_152_code 7 = .ok (.getfield 15, 3) := by decide +kernel
theorem dj42_152_10 : decode jdk_42_method_152_code 10 = .ok (.goto 4, 3) := by decide +kernel
theorem dj42_152_13 : decode jdk_42_method_152_code 13 = .ok (.iconst 1, 1) := by decide +kernel
theorem dj42_152_14 : decode jdk_42_method_152_code 14 = .ok (.ireturn, 1) := by decide +kernel
theorem dj52_16_0 : decode jdk_52_method_16_code 0 = .ok (.iload_n 2, 1) := by decide +kernel
theorem dj52_16_1 : decode jdk_52_method_16_code 1 = .ok (.newarray .byte, 2) := by decide +kernel
theorem dj52_16_3 : decode jdk_52_method_16_code 3 = .ok (.astore_n 3, 1) := by decide +kernel
theorem dj52_16_4 : decode jdk_52_method_16_code 4 = .ok (.aload_n 0, 1) := by decide +kernel
theorem dj52_16_5 : decode jdk_52_method_16_code 5 = .ok (.iload_n 1, 1) := by decide +kernel
theorem dj52_16_6 : decode jdk_52_method_16_code 6 = .ok (.aload_n 3, 1) := by decide +kernel
theorem dj52_16_7 : decode jdk_52_method_16_code 7 = .ok (.iconst 0, 1) := by decide +kernel
theorem dj52_16_8 : decode jdk_52_method_16_code 8 = .ok (.iload_n 2, 1) := by decide +kernel
theorem dj52_16_9 : decode jdk_52_method_16_code 9 = .ok (.invokestatic 115, 3) := by decide +kernel
theorem dj52_16_12 : decode jdk_52_method_16_code 12 = .ok (.istore 4, 2) := by decide +kernel
theorem dj52_16_14 : decode jdk_52_method_16_code 14 = .ok (.iload 4, 2) := by decide +kernel
theorem dj52_16_16 : decode jdk_52_method_16_code 16 = .ok (.iload_n 2, 1) := by decide +kernel
theorem dj52_16_17 : decode jdk_52_method_16_code 17 = .ok (.if_icmp .eq 40, 3) := by decide +kernel
theorem dj52_16_20 : decode jdk_52_method_16_code 20 = .ok (.aload_n 0, 1) := by decide +kernel
theorem dj52_16_21 : decode jdk_52_method_16_code 21 = .ok (.iload_n 1, 1) := by decide +kernel
theorem dj52_16_22 : decode jdk_52_method_16_code 22 = .ok (.iload_n 2, 1) := by decide +kernel
theorem dj52_16_23 : decode jdk_52_method_16_code 23 = .ok (.invokestatic 119, 3) := by decide +kernel
theorem dj52_16_26 : decode jdk_52_method_16_code 26 = .ok (.astore 5, 2) := by decide +kernel
theorem dj52_16_28 : decode jdk_52_method_16_code 28 = .ok (.aload 5, 2) := by decide +kernel
theorem dj52_16_30 : decode jdk_52_method_16_code 30 = .ok (.iload 4, 2) := by decide +kernel
theorem dj52_16_32 : decode jdk_52_method_16_code 32 = .ok (.invokestatic 71, 3) := by decide +kernel
theorem dj52_16_35 : decode jdk_52_method_16_code 35 = .ok (.sipush 255, 3) := by decide +kernel
theorem dj52_16_38 : decode jdk_52_method_16_code 38 = .ok (.if_icmp .gt 16, 3) := by decide +kernel
theorem dj52_16_41 : decode jdk_52_method_16_code 41 = .ok (.aload 5, 2) := by decide +kernel
theorem dj52_16_43 : decode jdk_52_method_16_code 43 = .ok (.iconst 0, 1) := by decide +kernel
theorem dj52_16_44 : decode jdk_52_method_16_code 44 = .ok (.aload_n 3, 1) := by decide +kernel
theorem dj52_16_45 : decode jdk_52_method_16_code 45 = .ok (.iconst 0, 1) := by decide +kernel
theorem dj52_16_46 : decode jdk_52_method_16_code 46 = .ok (.iload_n 2, 1) := by decide +kernel
theorem dj52_16_47 : decode jdk_52_method_16_code 47 = .ok (.invokestatic 123, 3) := by decide +kernel
theorem dj52_16_50 : decode jdk_52_method_16_code 50 = .ok (.iload_n 2, 1) := by decide +kernel
theorem dj52_16_51 : decode jdk_52_method_16_code 51 = .ok (.if_icmp .eq 6, 3) := by decide +kernel
theorem dj52_16_54 : decode jdk_52_method_16_code 54 = .ok (.aload 5, 2) := by decide +kernel
theorem dj52_16_56 : decode jdk_52_method_16_code 56 = .ok (.areturn, 1) := by decide +kernel
theorem dj52_16_57 : decode jdk_52_method_16_code 57 = .ok (.aload_n 3, 1) := by decide +kernel
theorem dj52_16_58 : decode jdk_52_method_16_code 58 = .ok (.areturn, 1) := by decide +kernel
theorem dj52_21_0 : decode jdk_52_method_21_code 0 = .ok (.iconst 0, 1) := by decide +kernel
theorem dj52_21_1 : decode jdk_52_method_21_code 1 = .ok (.istore 5, 2) := by decide +kernel
theorem dj52_21_3 : decode jdk_52_method_21_code 3 = .ok (.iload 5, 2) := by decide +kernel
theorem dj52_21_5 : decode jdk_52_method_21_code 5 = .ok (.iload 4, 2) := by decide +kernel
theorem dj52_21_7 : decode jdk_52_method_21_code 7 = .ok (.if_icmp .ge 37, 3) := by decide +kernel
theorem dj52_21_10 : decode jdk_52_method_21_code 10 = .ok (.aload_n 0, 1) := by decide +kernel
theorem dj52_21_11 : decode jdk_52_method_21_code 11 = .ok (.iload_n 1, 1) := by decide +kernel
theorem dj52_21_12 : decode jdk_52_method_21_code 12 = .ok (.caload, 1) := by decide +kernel
theorem dj52_21_13 : decode jdk_52_method_21_code 13 = .ok (.istore 6, 2) := by decide +kernel
theorem dj52_21_15 : decode jdk_52_method_21_code 15 = .ok (.iload 6, 2) := by decide +kernel
theorem dj52_21_17 : decode jdk_52_method_21_code 17 = .ok (.sipush 255, 3) := by decide +kernel
theorem dj52_21_20 : decode jdk_52_method_21_code 20 = .ok (.if_icmp .le 6, 3) := by decide +kernel
theorem dj52_21_23 : decode jdk_52_method_21_code 23 = .ok (.iload 5, 2) := by decide +kernel
theorem dj52_21_25 : decode jdk_52_method_21_code 25 = .ok (.ireturn, 1) := by decide +kernel
theorem dj52_21_26 : decode jdk_52_method_21_code 26 = .ok (.aload_n 2, 1) := by decide +kernel
theorem dj52_21_27 : decode jdk_52_method_21_code 27 = .ok (.iload_n 3, 1) := by decide +kernel
theorem dj52_21_28 : decode jdk_52_method_21_code 28 = .ok (.iload 6, 2) := by decide +kernel
theorem dj52_21_30 : decode jdk_52_method_21_code 30 = .ok (.i2b, 1) := by decide +kernel
theorem dj52_21_31 : decode jdk_52_method_21_code 31 = .ok (.bastore, 1) := by decide +kernel
theorem dj52_21_32 : decode jdk_52_method_21_code 32 = .ok (.iinc 1 1, 3) := by decide +kernel
theorem dj52_21_35 : decode jdk_52_method_21_code 35 = .ok (.iinc 3 1, 3) := by decide +kernel
theorem dj52_21_38 : decode jdk_52_method_21_code 38 = .ok (.iinc 5 1, 3) := by decide +kernel
theorem dj52_21_41 : decode jdk_52_method_21_code 41 = .ok (.goto (-38), 3) := by decide +kernel
theorem dj52_21_44 : decode jdk_52_method_21_code 44 = .ok (.iload 4, 2) := by decide +kernel
theorem dj52_21_46 : decode jdk_52_method_21_code 46 = .ok (.ireturn, 1) := by decide +kernel
theorem dj52_15_0 : decode jdk_52_method_15_code 0 = .ok (.iload_n 1, 1) := by decide +kernel
theorem dj52_15_1 : decode jdk_52_method_15_code 1 = .ok (.aload_n 0, 1) := by decide +kernel
theorem dj52_15_2 : decode jdk_52_method_15_code 2 = .ok (.arraylength, 1) := by decide +kernel
theorem dj52_15_3 : decode jdk_52_method_15_code 3 = .ok (.isub, 1) := by decide +kernel
theorem dj52_15_4 : decode jdk_52_method_15_code 4 = .ok (.bipush 31, 2) := by decide +kernel
theorem dj52_15_6 : decode jdk_52_method_15_code 6 = .ok (.iushr, 1) := by decide +kernel
theorem dj52_15_7 : decode jdk_52_method_15_code 7 = .ok (.i2b, 1) := by decide +kernel
theorem dj52_15_8 : decode jdk_52_method_15_code 8 = .ok (.ireturn, 1) := by decide +kernel
theorem dm4_0 : decode method_4_code 0 = .ok (.iload_n 0, 1) := by decide +kernel
theorem dm4_1 : decode method_4_code 1 = .ok (.ldc 30, 2) := by decide +kernel
theorem dm4_3 : decode method_4_code 3 = .ok (.if_icmp .lt 13, 3) := by decide +kernel
theorem dm4_6 : decode method_4_code 6 = .ok (.iload_n 0, 1) := by decide +kernel
theorem dm4_7 : decode method_4_code 7 = .ok (.ldc 32, 2) := by decide +kernel
theorem dm4_9 : decode method_4_code 9 = .ok (.if_icmp .gt 7, 3) := by decide +kernel
theorem dm4_12 : decode method_4_code 12 = .ok (.iconst 1, 1) := by decide +kernel
theorem dm4_13 : decode method_4_code 13 = .ok (.goto 4, 3) := by decide +kernel
theorem dm4_16 : decode method_4_code 16 = .ok (.iconst 0, 1) := by decide +kernel
theorem dm4_17 : decode method_4_code 17 = .ok (.ireturn, 1) := by decide +kernel
theorem dm5_0 : decode method_5_code 0 = .ok (.iload_n 0, 1) := by decide +kernel
theorem dm5_1 : decode method_5_code 1 = .ok (.ldc 33, 2) := by decide +kernel
theorem dm5_3 : decode method_5_code 3 = .ok (.if_icmp .lt 13, 3) := by decide +kernel
theorem dm5_6 : decode method_5_code 6 = .ok (.iload_n 0, 1) := by decide +kernel
theorem dm5_7 : decode method_5_code 7 = .ok (.ldc 34, 2) := by decide +kernel
theorem dm5_9 : decode method_5_code 9 = .ok (.if_icmp .gt 7, 3) := by decide +kernel
theorem dm5_12 : decode method_5_code 12 = .ok (.iconst 1, 1) := by decide +kernel
theorem dm5_13 : decode method_5_code 13 = .ok (.goto 4, 3) := by decide +kernel
theorem dm5_16 : decode method_5_code 16 = .ok (.iconst 0, 1) := by decide +kernel
theorem dm5_17 : decode method_5_code 17 = .ok (.ireturn, 1) := by decide +kernel
theorem dj42_56_0 : decode jdk_42_method_56_code 0 = .ok (.aload_n 0, 1) := by decide +kernel
theorem dj42_56_1 : decode jdk_42_method_56_code 1 = .ok (.invokevirtual 492, 3) := by decide +kernel
theorem dj42_56_4 : decode jdk_42_method_56_code 4 = .ok (.ifCond .eq 12, 3) := by decide +kernel
theorem dj42_56_7 : decode jdk_42_method_56_code 7 = .ok (.aload_n 0, 1) := by decide +kernel
theorem dj42_56_8 : decode jdk_42_method_56_code 8 = .ok (.getfield 9, 3) := by decide +kernel
theorem dj42_56_11 : decode jdk_42_method_56_code 11 = .ok (.iload_n 1, 1) := by decide +kernel
theorem dj42_56_12 : decode jdk_42_method_56_code 12 = .ok (.invokestatic 495, 3) := by decide +kernel
theorem dj42_56_15 : decode jdk_42_method_56_code 15 = .ok (.ireturn, 1) := by decide +kernel
theorem dj42_56_16 : decode jdk_42_method_56_code 16 = .ok (.aload_n 0, 1) := by decide +kernel
theorem dj42_56_17 : decode jdk_42_method_56_code 17 = .ok (.getfield 9, 3) := by decide +kernel
theorem dj42_56_20 : decode jdk_42_method_56_code 20 = .ok (.iload_n 1, 1) := by decide +kernel
theorem dj42_56_21 : decode jdk_42_method_56_code 21 = .ok (.invokestatic 498, 3) := by decide +kernel
theorem dj42_56_24 : decode jdk_42_method_56_code 24 = .ok (.ireturn, 1) := by decide +kernel
theorem dj42_154_0 : decode jdk_42_method_154_code 0 = .ok (.getstatic 38, 3) := by decide +kernel
theorem dj42_154_3 : decode jdk_42_method_154_code 3 = .ok (.ifCond .eq 14, 3) := by decide +kernel
theorem dj42_154_6 : decode jdk_42_method_154_code 6 = .ok (.aload_n 0, 1) := by decide +kernel
theorem dj42_154_7 : decode jdk_42_method_154_code 7 = .ok (.getfield 15, 3) := by decide +kernel
theorem dj42_154_10 : decode jdk_42_method_154_code 10 = .ok (.ifCond .ne 7, 3) := by decide +kernel
theorem dj42_154_13 : decode jdk_42_method_154_code 13 = .ok (.iconst 1, 1) := by decide +kernel
theorem dj42_154_14 : decode jdk_42_method_154_code 14 = .ok (.goto 4, 3) := by decide +kernel
theorem dj42_154_17 : decode jdk_42_method_154_code 17 = .ok (.iconst 0, 1) := by decide +kernel
theorem dj42_154_18 : decode jdk_42_method_154_code 18 = .ok (.ireturn, 1) := by decide +kernel
theorem dj43_2_0 : decode jdk_43_method_2_code 0 = .ok (.iload_n 1, 1) := by decide +kernel
theorem dj43_2_1 : decode jdk_43_method_2_code 1 = .ok (.aload_n 0, 1) := by decide +kernel
theorem dj43_2_2 : decode jdk_43_method_2_code 2 = .ok (.arraylength, 1) := by decide +kernel
theorem dj43_2_3 : decode jdk_43_method_2_code 3 = .ok (.invokestatic 9, 3) := by decide +kernel
theorem dj43_2_6 : decode jdk_43_method_2_code 6 = .ok (.aload_n 0, 1) := by decide +kernel
theorem dj43_2_7 : decode jdk_43_method_2_code 7 = .ok (.iload_n 1, 1) := by decide +kernel
theorem dj43_2_8 : decode jdk_43_method_2_code 8 = .ok (.baload, 1) := by decide +kernel
theorem dj43_2_9 : decode jdk_43_method_2_code 9 = .ok (.sipush 255, 3) := by decide +kernel
theorem dj43_2_12 : decode jdk_43_method_2_code 12 = .ok (.iand, 1) := by decide +kernel
theorem dj43_2_13 : decode jdk_43_method_2_code 13 = .ok (.i2c, 1) := by decide +kernel
theorem dj43_2_14 : decode jdk_43_method_2_code 14 = .ok (.ireturn, 1) := by decide +kernel
theorem dj42_155_0 : decode jdk_42_method_155_code 0 = .ok (.iload_n 0, 1) := by decide +kernel
theorem dj42_155_1 : decode jdk_42_method_155_code 1 = .ok (.iload_n 1, 1) := by decide +kernel
theorem dj42_155_2 : decode jdk_42_method_155_code 2 = .ok (.getstatic 1053, 3) := by decide +kernel
theorem dj42_155_5 : decode jdk_42_method_155_code 5 = .ok (.invokestatic 1059, 3) := by decide +kernel
theorem dj42_155_8 : decode jdk_42_method_155_code 8 = .ok (.pop, 1) := by decide +kernel
theorem dj42_155_9 : decode jdk_42_method_155_code 9 = .ok (.return_, 1) := by decide +kernel
theorem dj41_11_0 : decode jdk_41_method_11_code 0 = .ok (.iload_n 0, 1) := by decide +kernel
theorem dj41_11_1 : decode jdk_41_method_11_code 1 = .ok (.ifCond .lt 8, 3) := by decide +kernel
theorem dj41_11_4 : decode jdk_41_method_11_code 4 = .ok (.iload_n 0, 1) := by decide +kernel
theorem dj41_11_5 : decode jdk_41_method_11_code 5 = .ok (.iload_n 1, 1) := by decide +kernel
theorem dj41_11_6 : decode jdk_41_method_11_code 6 = .ok (.if_icmp .lt 10, 3) := by decide +kernel
theorem dj41_11_9 : decode jdk_41_method_11_code 9 = .ok (.aload_n 2, 1) := by decide +kernel
theorem dj41_11_10 : decode jdk_41_method_11_code 10 = .ok (.iload_n 0, 1) := by decide +kernel
theorem dj41_11_11 : decode jdk_41_method_11_code 11 = .ok (.iload_n 1, 1) := by decide +kernel
theorem dj41_11_12 : decode jdk_41_method_11_code 12 = .ok (.invokestatic 95, 3) := by decide +kernel
theorem dj41_11_15 : decode jdk_41_method_11_code 15 = .ok (.athrow, 1) := by decide +kernel
theorem dj41_11_16 : decode jdk_41_method_11_code 16 = .ok (.iload_n 0, 1) := by decide +kernel
theorem dj41_11_17 : decode jdk_41_method_11_code 17 = .ok (.ireturn, 1) := by decide +kernel
theorem dj89_16_0 : decode jdk_89_method_16_code 0 = .ok (.iload_n 0, 1) := by decide +kernel
theorem dj89_16_1 : decode jdk_89_method_16_code 1 = .ok (.ldc 75, 2) := by decide +kernel
theorem dj89_16_3 : decode jdk_89_method_16_code 3 = .ok (.if_icmp .lt 13, 3) := by decide +kernel
theorem dj89_16_6 : decode jdk_89_method_16_code 6 = .ok (.iload_n 0, 1) := by decide +kernel
theorem dj89_16_7 : decode jdk_89_method_16_code 7 = .ok (.ldc 77, 2) := by decide +kernel
theorem dj89_16_9 : decode jdk_89_method_16_code 9 = .ok (.if_icmp .ge 7, 3) := by decide +kernel
theorem dj89_16_12 : decode jdk_89_method_16_code 12 = .ok (.iconst 1, 1) := by decide +kernel
theorem dj89_16_13 : decode jdk_89_method_16_code 13 = .ok (.goto 4, 3) := by decide +kernel
theorem dj89_16_16 : decode jdk_89_method_16_code 16 = .ok (.iconst 0, 1) := by decide +kernel
theorem dj89_16_17 : decode jdk_89_method_16_code 17 = .ok (.ireturn, 1) := by decide +kernel
theorem dj52_14_0 : decode jdk_52_method_14_code 0 = .ok (.iload_n 2, 1) := by decide +kernel
theorem dj52_14_1 : decode jdk_52_method_14_code 1 = .ok (.invokestatic 107, 3) := by decide +kernel
theorem dj52_14_4 : decode jdk_52_method_14_code 4 = .ok (.astore_n 3, 1) := by decide +kernel
theorem dj52_14_5 : decode jdk_52_method_14_code 5 = .ok (.iconst 0, 1) := by decide +kernel
theorem dj52_14_6 : decode jdk_52_method_14_code 6 = .ok (.istore 4, 2) := by decide +kernel
theorem dj52_14_8 : decode jdk_52_method_14_code 8 = .ok (.iload 4, 2) := by decide +kernel
theorem dj52_14_10 : decode jdk_52_method_14_code 10 = .ok (.iload_n 2, 1) := by decide +kernel
theorem dj52_14_11 : decode jdk_52_method_14_code 11 = .ok (.if_icmp .ge 21, 3) := by decide +kernel
theorem dj52_14_14 : decode jdk_52_method_14_code 14 = .ok (.aload_n 3, 1) := by decide +kernel
theorem dj52_14_15 : decode jdk_52_method_14_code 15 = .ok (.iload 4, 2) := by decide +kernel
theorem dj52_14_17 : decode jdk_52_method_14_code 17 = .ok (.aload_n 0, 1) := by decide +kernel
theorem dj52_14_18 : decode jdk_52_method_14_code 18 = .ok (.iload_n 1, 1) := by decide +kernel
theorem dj52_14_19 : decode jdk_52_method_14_code 19 = .ok (.caload, 1) := by decide +kernel
theorem dj52_14_20 : decode jdk_52_method_14_code 20 = .ok (.invokestatic 111, 3) := by decide +kernel
theorem dj52_14_23 : decode jdk_52_method_14_code 23 = .ok (.iinc 1 1, 3) := by decide +kernel
theorem dj52_14_26 : decode jdk_52_method_14_code 26 = .ok (.iinc 4 1, 3) := by decide +kernel
theorem dj52_14_29 : decode jdk_52_method_14_code 29 = .ok (.goto (-21), 3) := by decide +kernel
theorem dj52_14_32 : decode jdk_52_method_14_code 32 = .ok (.aload_n 3, 1) := by decide +kernel
theorem dj52_14_33 : decode jdk_52_method_14_code 33 = .ok (.areturn, 1) := by decide +kernel
theorem dj52_2_0 : decode jdk_52_method_2_code 0 = .ok (.iload_n 0, 1) := by decide +kernel
theorem dj52_2_1 : decode jdk_52_method_2_code 1 = .ok (.invokestatic 11, 3) := by decide +kernel
theorem dj52_2_4 : decode jdk_52_method_2_code 4 = .ok (.newarray .byte, 2) := by decide +kernel
theorem dj52_2_6 : decode jdk_52_method_2_code 6 = .ok (.areturn, 1) := by decide +kernel
theorem dj52_3_0 : decode jdk_52_method_3_code 0 = .ok (.iload_n 0, 1) := by decide +kernel
theorem dj52_3_1 : decode jdk_52_method_3_code 1 = .ok (.ifCond .ge 11, 3) := by decide +kernel
theorem dj52_3_4 : decode jdk_52_method_3_code 4 = .ok (.new 17, 3) := by decide +kernel
theorem dj52_3_7 : decode jdk_52_method_3_code 7 = .ok (.dup, 1) := by decide +kernel
theorem dj52_3_8 : decode jdk_52_method_3_code 8 = .ok (.invokespecial 19, 3) := by decide +kernel
theorem dj52_3_11 : decode jdk_52_method_3_code 11 = .ok (.athrow, 1) := by decide +kernel
theorem dj52_3_12 : decode jdk_52_method_3_code 12 = .ok (.iload_n 0, 1) := by decide +kernel
theorem dj52_3_13 : decode jdk_52_method_3_code 13 = .ok (.ldc 20, 2) := by decide +kernel
theorem dj52_3_15 : decode jdk_52_method_3_code 15 = .ok (.if_icmp .lt 40, 3) := by decide +kernel
theorem dj52_3_18 : decode jdk_52_method_3_code 18 = .ok (.new 21, 3) := by decide +kernel
theorem dj52_3_21 : decode jdk_52_method_3_code 21 = .ok (.dup, 1) := by decide +kernel
theorem dj52_3_22 : decode jdk_52_method_3_code 22 = .ok (.new 23, 3) := by decide +kernel
theorem dj52_3_25 : decode jdk_52_method_3_code 25 = .ok (.dup, 1) := by decide +kernel
theorem dj52_3_26 : decode jdk_52_method_3_code 26 = .ok (.invokespecial 25, 3) := by decide +kernel
theorem dj52_3_29 : decode jdk_52_method_3_code 29 = .ok (.ldc 26, 2) := by decide +kernel
theorem dj52_3_31 : decode jdk_52_method_3_code 31 = .ok (.invokevirtual 28, 3) := by decide +kernel
theorem dj52_3_34 : decode jdk_52_method_3_code 34 = .ok (.iload_n 0, 1) := by decide +kernel
theorem dj52_3_35 : decode jdk_52_method_3_code 35 = .ok (.invokevirtual 32, 3) := by decide +kernel
theorem dj52_3_38 : decode jdk_52_method_3_code 38 = .ok (.ldc 35, 2) := by decide +kernel
theorem dj52_3_40 : decode jdk_52_method_3_code 40 = .ok (.invokevirtual 28, 3) := by decide +kernel
theorem dj52_3_43 : decode jdk_52_method_3_code 43 = .ok (.ldc 20, 2) := by decide +kernel
theorem dj52_3_45 : decode jdk_52_method_3_code 45 = .ok (.invokevirtual 32, 3) := by decide +kernel
theorem dj52_3_48 : decode jdk_52_method_3_code 48 = .ok (.invokevirtual 37, 3) := by decide +kernel
theorem dj52_3_51 : decode jdk_52_method_3_code 51 = .ok (.invokespecial 41, 3) := by decide +kernel
theorem dj52_3_54 : decode jdk_52_method_3_code 54 = .ok (.athrow, 1) := by decide +kernel
theorem dj52_3_55 : decode jdk_52_method_3_code 55 = .ok (.iload_n 0, 1) := by decide +kernel
theorem dj52_3_56 : decode jdk_52_method_3_code 56 = .ok (.iconst 1, 1) := by decide +kernel
theorem dj52_3_57 : decode jdk_52_method_3_code 57 = .ok (.ishl, 1) := by decide +kernel
theorem dj52_3_58 : decode jdk_52_method_3_code 58 = .ok (.ireturn, 1) := by decide +kernel
theorem dj52_4_0 : decode jdk_52_method_4_code 0 = .ok (.getstatic 44, 3) := by decide +kernel
theorem dj52_4_3 : decode jdk_52_method_4_code 3 = .ok (.ifCond .ne 25, 3) := by decide +kernel
theorem dj52_4_6 : decode jdk_52_method_4_code 6 = .ok (.iload_n 1, 1) := by decide +kernel
theorem dj52_4_7 : decode jdk_52_method_4_code 7 = .ok (.ifCond .lt 11, 3) := by decide +kernel
theorem dj52_4_10 : decode jdk_52_method_4_code 10 = .ok (.iload_n 1, 1) := by decide +kernel
theorem dj52_4_11 : decode jdk_52_method_4_code 11 = .ok (.aload_n 0, 1) := by decide +kernel
theorem dj52_4_12 : decode jdk_52_method_4_code 12 = .ok (.invokestatic 48, 3) := by decide +kernel
theorem dj52_4_15 : decode jdk_52_method_4_code 15 = .ok (.if_icmp .lt 13, 3) := by decide +kernel
theorem dj52_4_18 : decode jdk_52_method_4_code 18 = .ok (.new 52, 3) := by decide +kernel
theorem dj52_4_21 : decode jdk_52_method_4_code 21 = .ok (.dup, 1) := by decide +kernel
theorem dj52_4_22 : decode jdk_52_method_4_code 22 = .ok (.ldc 54, 2) := by decide +kernel
theorem dj52_4_24 : decode jdk_52_method_4_code 24 = .ok (.invokespecial 56, 3) := by decide +kernel
theorem dj52_4_27 : decode jdk_52_method_4_code 27 = .ok (.athrow, 1) := by decide +kernel
theorem dj52_4_28 : decode jdk_52_method_4_code 28 = .ok (.iload_n 1, 1) := by decide +kernel
theorem dj52_4_29 : decode jdk_52_method_4_code 29 = .ok (.iconst 1, 1) := by decide +kernel
theorem dj52_4_30 : decode jdk_52_method_4_code 30 = .ok (.ishl, 1) := by decide +kernel
theorem dj52_4_31 : decode jdk_52_method_4_code 31 = .ok (.istore_n 1, 1) := by decide +kernel
theorem dj52_4_32 : decode jdk_52_method_4_code 32 = .ok (.aload_n 0, 1) := by decide +kernel
theorem dj52_4_33 : decode jdk_52_method_4_code 33 = .ok (.iload_n 1, 1) := by decide +kernel
theorem dj52_4_34 : decode jdk_52_method_4_code 34 = .ok (.iinc 1 1, 3) := by decide +kernel
theorem dj52_4_37 : decode jdk_52_method_4_code 37 = .ok (.iload_n 2, 1) := by decide +kernel
theorem dj52_4_38 : decode jdk_52_method_4_code 38 = .ok (.getstatic 59, 3) := by decide +kernel
theorem dj52_4_41 : decode jdk_52_method_4_code 41 = .ok (.ishr, 1) := by decide +kernel
theorem dj52_4_42 : decode jdk_52_method_4_code 42 = .ok (.i2b, 1) := by decide +kernel
theorem dj52_4_43 : decode jdk_52_method_4_code 43 = .ok (.bastore, 1) := by decide +kernel
theorem dj52_4_44 : decode jdk_52_method_4_code 44 = .ok (.aload_n 0, 1) := by decide +kernel
theorem dj52_4_45 : decode jdk_52_method_4_code 45 = .ok (.iload_n 1, 1) := by decide +kernel
theorem dj52_4_46 : decode jdk_52_method_4_code 46 = .ok (.iload_n 2, 1) := by decide +kernel
theorem dj52_4_47 : decode jdk_52_method_4_code 47 = .ok (.getstatic 63, 3) := by decide +kernel
theorem dj52_4_50 : decode jdk_52_method_4_code 50 = .ok (.ishr, 1) := by decide +kernel
theorem dj52_4_51 : decode jdk_52_method_4_code 51 = .ok (.i2b, 1) := by decide +kernel
theorem dj52_4_52 : decode jdk_52_method_4_code 52 = .ok (.bastore, 1) := by decide +kernel
theorem dj52_4_53 : decode jdk_52_method_4_code 53 = .ok (.return_, 1) := by decide +kernel
theorem dj52_5_0 : decode jdk_52_method_5_code 0 = .ok (.getstatic 44, 3) := by decide +kernel
theorem dj52_5_3 : decode jdk_52_method_5_code 3 = .ok (.ifCond .ne 25, 3) := by decide +kernel
theorem dj52_5_6 : decode jdk_52_method_5_code 6 = .ok (.iload_n 1, 1) := by decide +kernel
theorem dj52_5_7 : decode jdk_52_method_5_code 7 = .ok (.ifCond .lt 11, 3) := by decide +kernel
theorem dj52_5_10 : decode jdk_52_method_5_code 10 = .ok (.iload_n 1, 1) := by decide +kernel
theorem dj52_5_11 : decode jdk_52_method_5_code 11 = .ok (.aload_n 0, 1) := by decide +kernel
theorem dj52_5_12 : decode jdk_52_method_5_code 12 = .ok (.invokestatic 48, 3) := by decide +kernel
theorem dj52_5_15 : decode jdk_52_method_5_code 15 = .ok (.if_icmp .lt 13, 3) := by decide +kernel
theorem dj52_5_18 : decode jdk_52_method_5_code 18 = .ok (.new 52, 3) := by decide +kernel
theorem dj52_5_21 : decode jdk_52_method_5_code 21 = .ok (.dup, 1) := by decide +kernel
theorem dj52_5_22 : decode jdk_52_method_5_code 22 = .ok (.ldc 54, 2) := by decide +kernel
theorem dj52_5_24 : decode jdk_52_method_5_code 24 = .ok (.invokespecial 56, 3) := by decide +kernel
theorem dj52_5_27 : decode jdk_52_method_5_code 27 = .ok (.athrow, 1) := by decide +kernel
theorem dj52_5_28 : decode jdk_52_method_5_code 28 = .ok (.iload_n 1, 1) := by decide +kernel
theorem dj52_5_29 : decode jdk_52_method_5_code 29 = .ok (.iconst 1, 1) := by decide +kernel
theorem dj52_5_30 : decode jdk_52_method_5_code 30 = .ok (.ishl, 1) := by decide +kernel
theorem dj52_5_31 : decode jdk_52_method_5_code 31 = .ok (.istore_n 1, 1) := by decide +kernel
theorem dj52_5_32 : decode jdk_52_method_5_code 32 = .ok (.aload_n 0, 1) := by decide +kernel
theorem dj52_5_33 : decode jdk_52_method_5_code 33 = .ok (.iload_n 1, 1) := by decide +kernel
theorem dj52_5_34 : decode jdk_52_method_5_code 34 = .ok (.iinc 1 1, 3) := by decide +kernel
theorem dj52_5_37 : decode jdk_52_method_5_code 37 = .ok (.baload, 1) := by decide +kernel
theorem dj52_5_38 : decode jdk_52_method_5_code 38 = .ok (.sipush 255, 3) := by decide +kernel
theorem dj52_5_41 : decode jdk_52_method_5_code 41 = .ok (.iand, 1) := by decide +kernel
theorem dj52_5_42 : decode jdk_52_method_5_code 42 = .ok (.getstatic 59, 3) := by decide +kernel
theorem dj52_5_45 : decode jdk_52_method_5_code 45 = .ok (.ishl, 1) := by decide +kernel
theorem dj52_5_46 : decode jdk_52_method_5_code 46 = .ok (.aload_n 0, 1) := by decide +kernel
theorem dj52_5_47 : decode jdk_52_method_5_code 47 = .ok (.iload_n 1, 1) := by decide +kernel
theorem dj52_5_48 : decode jdk_52_method_5_code 48 = .ok (.baload, 1) := by decide +kernel
theorem dj52_5_49 : decode jdk_52_method_5_code 49 = .ok (.sipush 255, 3) := by decide +kernel
theorem dj52_5_52 : decode jdk_52_method_5_code 52 = .ok (.iand, 1) := by decide +kernel
theorem dj52_5_53 : decode jdk_52_method_5_code 53 = .ok (.getstatic 63, 3) := by decide +kernel
theorem dj52_5_56 : decode jdk_52_method_5_code 56 = .ok (.ishl, 1) := by decide +kernel
theorem dj52_5_57 : decode jdk_52_method_5_code 57 = .ok (.ior, 1) := by decide +kernel
theorem dj52_5_58 : decode jdk_52_method_5_code 58 = .ok (.i2c, 1) := by decide +kernel
theorem dj52_5_59 : decode jdk_52_method_5_code 59 = .ok (.ireturn, 1) := by decide +kernel
theorem dj52_83_0 : decode jdk_52_method_83_code 0 = .ok (.iload_n 1, 1) := by decide +kernel
theorem dj52_83_1 : decode jdk_52_method_83_code 1 = .ok (.aload_n 0, 1) := by decide +kernel
theorem dj52_83_2 : decode jdk_52_method_83_code 2 = .ok (.invokestatic 67, 3) := by decide +kernel
theorem dj52_83_5 : decode jdk_52_method_83_code 5 = .ok (.aload_n 0, 1) := by decide +kernel
theorem dj52_83_6 : decode jdk_52_method_83_code 6 = .ok (.iload_n 1, 1) := by decide +kernel
theorem dj52_83_7 : decode jdk_52_method_83_code 7 = .ok (.invokestatic 71, 3) := by decide +kernel
theorem dj52_83_10 : decode jdk_52_method_83_code 10 = .ok (.ireturn, 1) := by decide +kernel
theorem dj52_91_0 : decode jdk_52_method_91_code 0 = .ok (.iload_n 0, 1) := by decide +kernel
theorem dj52_91_1 : decode jdk_52_method_91_code 1 = .ok (.aload_n 1, 1) := by decide +kernel
theorem dj52_91_2 : decode jdk_52_method_91_code 2 = .ok (.invokestatic 48, 3) := by decide +kernel
theorem dj52_91_5 : decode jdk_52_method_91_code 5 = .ok (.invokestatic 414, 3) := by decide +kernel
theorem dj52_91_8 : decode jdk_52_method_91_code 8 = .ok (.return_, 1) := by decide +kernel
theorem dj52_6_0 : decode jdk_52_method_6_code 0 = .ok (.aload_n 0, 1) := by decide +kernel
theorem dj52_6_1 : decode jdk_52_method_6_code 1 = .ok (.arraylength, 1) := by decide +kernel
theorem dj52_6_2 : decode jdk_52_method_6_code 2 = .ok (.iconst 1, 1) := by decide +kernel
theorem dj52_6_3 : decode jdk_52_method_6_code 3 = .ok (.ishr, 1) := by decide +kernel
theorem dj52_6_4 : decode jdk_52_method_6_code 4 = .ok (.ireturn, 1) := by decide +kernel
theorem dj89_14_0 : decode jdk_89_method_14_code 0 = .ok (.iload_n 0, 1) := by decide +kernel
theorem dj89_14_1 : decode jdk_89_method_14_code 1 = .ok (.ldc 75, 2) := by decide +kernel
theorem dj89_14_3 : decode jdk_89_method_14_code 3 = .ok (.if_icmp .lt 13, 3) := by decide +kernel
theorem dj89_14_6 : decode jdk_89_method_14_code 6 = .ok (.iload_n 0, 1) := by decide +kernel
theorem dj89_14_7 : decode jdk_89_method_14_code 7 = .ok (.ldc 76, 2) := by decide +kernel
theorem dj89_14_9 : decode jdk_89_method_14_code 9 = .ok (.if_icmp .ge 7, 3) := by decide +kernel
theorem dj89_14_12 : decode jdk_89_method_14_code 12 = .ok (.iconst 1, 1) := by decide +kernel
theorem dj89_14_13 : decode jdk_89_method_14_code 13 = .ok (.goto 4, 3) := by decide +kernel
theorem dj89_14_16 : decode jdk_89_method_14_code 16 = .ok (.iconst 0, 1) := by decide +kernel
theorem dj89_14_17 : decode jdk_89_method_14_code 17 = .ok (.ireturn, 1) := by decide +kernel
theorem dj89_15_0 : decode jdk_89_method_15_code 0 = .ok (.iload_n 0, 1) := by decide +kernel
theorem dj89_15_1 : decode jdk_89_method_15_code 1 = .ok (.ldc 76, 2) := by decide +kernel
theorem dj89_15_3 : decode jdk_89_method_15_code 3 = .ok (.if_icmp .lt 13, 3) := by decide +kernel
theorem dj89_15_6 : decode jdk_89_method_15_code 6 = .ok (.iload_n 0, 1) := by decide +kernel
theorem dj89_15_7 : decode jdk_89_method_15_code 7 = .ok (.ldc 77, 2) := by decide +kernel
theorem dj89_15_9 : decode jdk_89_method_15_code 9 = .ok (.if_icmp .ge 7, 3) := by decide +kernel
theorem dj89_15_12 : decode jdk_89_method_15_code 12 = .ok (.iconst 1, 1) := by decide +kernel
theorem dj89_15_13 : decode jdk_89_method_15_code 13 = .ok (.goto 4, 3) := by decide +kernel
theorem dj89_15_16 : decode jdk_89_method_15_code 16 = .ok (.iconst 0, 1) := by decide +kernel
theorem dj89_15_17 : decode jdk_89_method_15_code 17 = .ok (.ireturn, 1) := by decide +kernel
theorem pd_lIrC : parseMethodDescriptor "(I)C" = some ⟨[.int], some .char⟩ := by decide +kernel
theorem pd_lACrV : parseMethodDescriptor "([C)V" = some ⟨[(.array .char)], none⟩ := by decide +kernel
theorem pd_lACIILjavalangVoidrV : parseMethodDescriptor "([CIILjava/lang/Void;)V" = some ⟨[(.array .char), .int, .int, (.object "java/lang/Void")], none⟩ := by decide +kernel
theorem pd_lrV : parseMethodDescriptor "()V" = some ⟨[], none⟩ := by decide +kernel
theorem pd_lACIIrZ : parseMethodDescriptor "([CII)Z" = some ⟨[(.array .char), .int, .int], some .boolean⟩ := by decide +kernel
theorem pd_lLjavalangCharSequencerZ : parseMethodDescriptor "(Ljava/lang/CharSequence;)Z" = some ⟨[(.object "java/lang/CharSequence")], some .boolean⟩ := by decide +kernel
theorem pd_lLjavalangCharSequenceIrI : parseMethodDescriptor "(Ljava/lang/CharSequence;I)I" = some ⟨[(.object "java/lang/CharSequence"), .int], some .int⟩ := by decide +kernel
theorem pd_lrI : parseMethodDescriptor "()I" = some ⟨[], some .int⟩ := by decide +kernel
theorem pd_lrB : parseMethodDescriptor "()B" = some ⟨[], some .byte⟩ := by decide +kernel
theorem pd_lACIIrAB : parseMethodDescriptor "([CII)[B" = some ⟨[(.array .char), .int, .int], some (.array .byte)⟩ := by decide +kernel
theorem pd_lACIABIIrI : parseMethodDescriptor "([CI[BII)I" = some ⟨[(.array .char), .int, (.array .byte), .int, .int], some .int⟩ := by decide +kernel
theorem pd_lABIrB : parseMethodDescriptor "([BI)B" = some ⟨[(.array .byte), .int], some .byte⟩ := by decide +kernel
theorem pd_lCrZ : parseMethodDescriptor "(C)Z" = some ⟨[.char], some .boolean⟩ := by decide +kernel
theorem pd_lrZ : parseMethodDescriptor "()Z" = some ⟨[], some .boolean⟩ := by decide +kernel
theorem pd_lABIrC : parseMethodDescriptor "([BI)C" = some ⟨[(.array .byte), .int], some .char⟩ := by decide +kernel
theorem pd_lIIrV : parseMethodDescriptor "(II)V" = some ⟨[.int, .int], none⟩ := by decide +kernel
theorem pd_lIILjavautilfunctionBiFunctionrI : parseMethodDescriptor "(IILjava/util/function/BiFunction;)I" = some ⟨[.int, .int, (.object "java/util/function/BiFunction")], some .int⟩ := by decide +kernel
theorem pd_lIrAB : parseMethodDescriptor "(I)[B" = some ⟨[.int], some (.array .byte)⟩ := by decide +kernel
theorem pd_lIrI : parseMethodDescriptor "(I)I" = some ⟨[.int], some .int⟩ := by decide +kernel
theorem pd_lABIIrV : parseMethodDescriptor "([BII)V" = some ⟨[(.array .byte), .int, .int], none⟩ := by decide +kernel
theorem pd_lIABrV : parseMethodDescriptor "(I[B)V" = some ⟨[.int, (.array .byte)], none⟩ := by decide +kernel
theorem pd_lABrI : parseMethodDescriptor "([B)I" = some ⟨[(.array .byte)], some .int⟩ := by decide +kernel
open Own
set_option maxHeartbeats 40000000
set_option maxRecDepth 65536
theorem own_new {a0 : Array Value} {Z : State} (hw : ∀ d ∈ tables_1, d.before a0 Z = true) : ∀ d ∈ StrChars.Road.words, d.before a0 Z = true := fun d hd => hw d ((by decide +kernel : ∀ d ∈ StrChars.Road.words, d ∈ tables_1) d hd)
theorem own_len {a0 : Array Value} {Z : State} (hw : ∀ d ∈ tables_1, d.before a0 Z = true) : ∀ d ∈ StrChars.Road.wordsLen, d.before a0 Z = true := fun d hd => hw d ((by decide +kernel : ∀ d ∈ StrChars.Road.wordsLen, d ∈ tables_1) d hd)
theorem own_ch {a0 : Array Value} {Z : State} (hw : ∀ d ∈ tables_1, d.before a0 Z = true) : ∀ d ∈ StrChars.Road.wordsChN, d.before a0 Z = true := fun d hd => hw d ((by decide +kernel : ∀ d ∈ StrChars.Road.wordsChN, d ∈ tables_1) d hd)
/-! new String(new char[0]), walked: the constant "" is loaded twice -/
section New0
variable {l : Launch} {R : Room} {Z : State} {a0 : Array Value} {EL : List (String × Nat)} {h : Heap} {W : Nat}
abbrev yI4 : MethodName := ⟨"java/lang/String", "<init>", "([CIILjava/lang/Void;)V"⟩
abbrev yI1 : MethodName := ⟨"java/lang/String", "<init>", "([C)V"⟩
theorem own_atoms (hw : ∀ d ∈ tables_1, d.before a0 Z = true) : ∀ a ∈ Bundle.stringAtoms, a.before a0 Z = true := fun d hd => hw d ((by decide +kernel : ∀ d ∈ Bundle.stringAtoms, d ∈ tables_1) d hd)
theorem met_I4z (hw : ∀ d ∈ tables_1, d.before a0 Z = true) (hm : ("java/lang/String", 7) ∈ EL) {x b : Addr} {v0 c0 : Value} (hx : Z.heap.size ≤ x) (E : Exa Z h x "java/lang/String") (V : Fld Z h x "java/lang/String" "value" "[B" v0) (C : Fld Z h x "java/lang/String" "coder" "B" c0) :
    MetW [] l yI4 jdk_42_method_149_code 6 none (Rm 1 4 8 12) #[.ref x, .ref b, .int 0, .int 0, .null] Z a0 EL false [x] h (fun v h' => v = none ∧ Keep h h' [x] ∧ Str Z h' x []) := by
  refine MetW.of (plainFor_of_name (by first | (simp [plainName, overriddenIn]; done) | decide +kernel)) fun X hX => ?_
  show Go X _ _ _ _ _ _ _ _ _ _ _ _ _ _ _ _ (mkF X.m 0 #[.val (.ref x), .val (.ref b), .val (.int 0), .val (.int 0), .val .null, .unset] [])
  have ne : RoadKit.slotOf Z "java/lang/String" "coder" "B" ≠ RoadKit.slotOf Z "java/lang/String" "value" "[B" := slot_ne (Or.inr (wy_String_String_coder hw)) (Or.inr (wy_String_String_value hw)) (by decide) (t := .byte) (t' := .array .byte) (by decide) (by decide)
  refine g_aloadN (pc' := 1) dj42_149_0 rfl rfl rfl ?_
  refine g_objinit (pc' := 4) dj42_149_1 rfl (wl_String_1 hw) (wm_Object_init_lrV hw) (wb_Object_init_lrV hw) rfl rfl rfl ?_
  refine g_iloadN (pc' := 5) dj42_149_4 rfl rfl ?_
  refine g_ifne (pc' := 8) (pc2 := 27) dj42_149_5 rfl (by decide) rfl (fun c5 => ?_) (fun c5 => absurd rfl c5)
  refine g_aloadN (pc' := 9) dj42_149_8 rfl rfl rfl ?_
  refine g_lit (pc' := 11) rfl [] 0 dj42_149_9 rfl (wt_String_7 hw) (own_atoms hw) hm ⟨by decide, rfl⟩ (by decide) (by decide) (by decide) rfl rfl rfl rfl rfl fun h9 a9 E9 T9 n9 => ?_
  have hxa9 : x ≠ a9 := n9 x (List.mem_cons_self ..)
  obtain ⟨t, kb, N2, vs, V9, C9, A9, hcod, -, -⟩ := T9.lat (fun c hc => nomatch hc)
  refine g_getfield (pc' := 14) dj42_149_11 rfl (wf_String_9 hw) V9 ?_
  refine g_putfield (pc' := 17) dj42_149_14 rfl (wf_String_9 hw) (V.ext E9) (E.ext E9) (Or.inr ⟨wy_String_String_value hw, rfl, rfl⟩) (wn_String hw) (ty := .array .byte) (by decide) rfl rfl hx (List.mem_cons_self ..) fun h14 W14 => ?_
  refine g_aloadN (pc' := 18) dj42_149_17 rfl rfl rfl ?_
  refine g_lit (pc' := 20) rfl [] 0 dj42_149_18 rfl (wt_String_7 hw) (own_atoms hw) hm ⟨by decide, rfl⟩ (by decide) (by decide) (by decide) rfl rfl rfl rfl rfl fun h18 a18 E18 T18 n18 => ?_
  obtain ⟨t', kb', N2', vs', V18, C18, A18, -, -, -⟩ := T18.lat (fun c hc => nomatch hc)
  refine g_getfield (pc' := 23) dj42_149_20 rfl (wf_String_15 hw) C18 ?_
  refine g_putfield (pc' := 26) dj42_149_23 rfl (wf_String_15 hw) (((C.ext E9).other W14 (Or.inr ne)).ext E18) (((E.ext E9).wr W14).ext E18) (Or.inr ⟨wy_String_String_coder hw, rfl, rfl⟩) (wn_String hw) (ty := .byte) (by decide) rfl rfl hx (List.mem_cons_self ..) fun h23 W23 => ?_
  have hxt : x ≠ t := (E.ext E9).neArv A9 (wn_String hw)
  have Ex : Exa Z h23 x "java/lang/String" := (((E.ext E9).wr W14).ext E18).wr W23
  have Vx : Fld Z h23 x "java/lang/String" "value" "[B" (.ref t) := (((V.ext E9).same W14).ext E18).other W23 (Or.inr ne.symm)
  have Cx : Fld Z h23 x "java/lang/String" "coder" "B" (.int 0) := (((C.ext E9).other W14 (Or.inr ne)).ext E18).same W23
  have Ax : Arv Z h23 t kb .byte N2 vs (.int 0) := (((A9.other W14 hxt.symm).ext E18).other W23 hxt.symm)
  exact g_return dj42_149_26 rfl rfl rfl ⟨rfl, ((((Keep.refl h [x]).ext E9).wr W14 (Or.inl (List.mem_cons_self ..))).ext E18).wr W23 (Or.inl (List.mem_cons_self ..)), Ex, t, kb, 0, N2, vs, Vx, Cx, Ax, hcod, (fun c hc => nomatch hc), Nat.zero_le _⟩
theorem met_I1z (hw : ∀ d ∈ tables_1, d.before a0 Z = true) (hm : ("java/lang/String", 7) ∈ EL) {x b : Addr} {kC : ClassId} {d v0 c0 : Value} {vs : List Value} (hx : Z.heap.size ≤ x) (E : Exa Z h x "java/lang/String") (V : Fld Z h x "java/lang/String" "value" "[B" v0) (C : Fld Z h x "java/lang/String" "coder" "B" c0) (K : Arv Z h b kC .char 0 vs d) :
    MetW [] l yI1 jdk_42_method_3_code 2 none (Rm 2 4 8 29) #[.ref x, .ref b] Z a0 EL false [x] h (fun v h' => v = none ∧ Keep h h' [x] ∧ Str Z h' x []) := by
  refine MetW.of (plainFor_of_name (by first | (simp [plainName, overriddenIn]; done) | decide +kernel)) fun X hX => ?_
  show Go X _ _ _ _ _ _ _ _ _ _ _ _ _ _ _ _ (mkF X.m 0 #[.val (.ref x), .val (.ref b)] [])
  refine g_aloadN (pc' := 1) dj42_3_0 rfl rfl rfl ?_
  refine g_aloadN (pc' := 2) dj42_3_1 rfl rfl rfl ?_
  refine g_iconst (pc' := 3) (w := 0) dj42_3_2 rfl (by decide) ?_
  refine g_aloadN (pc' := 4) dj42_3_3 rfl rfl rfl ?_
  refine g_arraylength (pc' := 5) dj42_3_4 rfl K ?_
  refine g_aconst_null (pc' := 6) dj42_3_5 rfl ?_
  refine g_invokespecial (pc' := 9) [x] [_, _, _, _] dj42_3_6 rfl rfl (wl_String_27 hw) (wm_String_init_lACIILjavalangVoidrV hw) (wb_String_init_lACIILjavalangVoidrV hw) (by decide) (Pay.of_met (met_I4z hw hm (b := b) hx E V C) (wb_String_init_lACIILjavalangVoidrV hw) (wi_String hw) rfl rfl) pd_lACIILjavalangVoidrV rfl rfl rfl rfl rfl (fun _ q => q) fun v6 h6 q6 l6 => ?_
  obtain ⟨rfl, K6, T6⟩ := q6
  exact g_return dj42_3_9 rfl rfl rfl ⟨rfl, K6, T6⟩
theorem pay_new0 (hw : ∀ d ∈ tables_1, d.before a0 Z = true) (hm : ("java/lang/String", 7) ∈ EL) {x b : Addr} {kC : ClassId} {d v0 c0 : Value} {vs : List Value} (hx : Z.heap.size ≤ x) (E : Exa Z h x "java/lang/String") (V : Fld Z h x "java/lang/String" "value" "[B" v0) (C : Fld Z h x "java/lang/String" "coder" "B" c0) (K : Arv Z h b kC .char 0 vs d) (hf : Nat.ble 3 R.frames = true) (hl : Nat.ble (W + 42) R.locals = true) :
    Pay l R yI1 W #[.ref x, .ref b] Z a0 EL false [x] h 4 8 (fun v h' => v = none ∧ Keep h h' [x] ∧ Str Z h' x []) := Pay.of_met (met_I1z hw hm hx E V C K) (wb_String_init_lACrV hw) (wi_String hw) hf (by exact hl)
end New0
/-! new String(char[]) with a char above 255, charAt on it: StringUTF16's bodies, walked -/
section U16
variable {l : Launch} {R : Room} {Z : State} {a0 : Array Value} {EL : List (String × Nat)} {nw : Bool} {h : Heap} {W : Nat}
abbrev U6 : String := "java/lang/StringUTF16"
/-- StringUTF16's statics -/
def SU (Z : State) : Prop := Sta Z Z.heap U6 "$assertionsDisabled" "Z" (.int 1) ∧ Sta Z Z.heap U6 "HI_BYTE_SHIFT" "I" (.int 0) ∧ Sta Z Z.heap U6 "LO_BYTE_SHIFT" "I" (.int 8)
abbrev yPut : MethodName := ⟨"java/lang/StringUTF16", "putChar", "([BII)V"⟩
abbrev yGetC : MethodName := ⟨"java/lang/StringUTF16", "getChar", "([BI)C"⟩
abbrev yNBL : MethodName := ⟨"java/lang/StringUTF16", "newBytesLength", "(I)I"⟩
abbrev yNBF : MethodName := ⟨"java/lang/StringUTF16", "newBytesFor", "(I)[B"⟩
abbrev yTB : MethodName := ⟨"java/lang/StringUTF16", "toBytes", "([CII)[B"⟩
abbrev yC5 : MethodName := ⟨"java/lang/StringUTF16", "compress", "([CI[BII)I"⟩
abbrev yC3 : MethodName := ⟨"java/lang/StringUTF16", "compress", "([CII)[B"⟩
abbrev yCFL : MethodName := ⟨"java/lang/StringUTF16", "coderFromArrayLen", "([BI)B"⟩
abbrev lo8 (c : Int32) : Int32 := StrChars.lo8 c
abbrev hi8 (c : Int32) : Int32 := StrChars.hi8 c
abbrev wideB (cs : List Int32) : List Value := StrChars.Road.wideBytes cs
theorem nar_b8' (x : Int32) : nar .byte x.toInt8.toInt32 = x.toInt8.toInt32 := by simp [nar]
theorem met_put (hw : ∀ d ∈ tables_1, d.before a0 Z = true) (U : SU Z) {dst : Addr} {kb : ClassId} {vs : List Value} {N : Int32} {i : Nat} {c : Int32} (hN : N = Int32.ofNat vs.length) (hl : vs.length ≤ 100000) (hi : 2 * i + 1 < vs.length) (hd : Z.heap.size ≤ dst) (B : Arv Z h dst kb .byte N vs (.int 0)) :
    MetW [] l yPut jdk_52_method_4_code 3 none (Rm 0 0 0 0) #[.ref dst, .int (Int32.ofNat i), .int c] Z a0 EL nw [dst] h
      (fun v h' => v = none ∧ Keep h h' [dst] ∧ Arv Z h' dst kb .byte N ((vs.set (2 * i) (.int (lo8 c))).set (2 * i + 1) (.int (hi8 c))) (.int 0)) := by
  subst hN
  refine MetW.of (plainFor_of_name (by first | (simp [plainName, overriddenIn]; done) | decide +kernel)) fun X hX => Go.old fun EZ => ?_
  show Go X _ _ _ _ _ _ _ _ _ _ _ _ _ _ _ _ (mkF X.m 0 #[.val (.ref dst), .val (.int (Int32.ofNat i)), .val (.int c)] [])
  refine g_getstatic (pc' := 3) dj52_4_0 rfl (wf_StringUTF16_44 hw) (U.1) ?_
  refine g_ifne (pc' := 6) (pc2 := 28) dj52_4_3 rfl (by decide) rfl (fun c3 => False.elim (absurd c3 (by decide))) (fun c3 => ?_)
  refine g_iloadN (pc' := 29) dj52_4_28 rfl rfl ?_
  refine g_iconst (pc' := 30) (w := 1) dj52_4_29 rfl (by decide) ?_
  refine g_ishl (pc' := 31) dj52_4_30 rfl ?_
  rw [shl1]
  refine g_istoreN (pc' := 32) (Ls' := #[_, _, _]) dj52_4_31 rfl rfl ?_
  refine g_aloadN (pc' := 33) dj52_4_32 rfl rfl rfl ?_
  refine g_iloadN (pc' := 34) dj52_4_33 rfl rfl ?_
  refine g_iinc (pc' := 37) (Ls' := #[.val (.ref dst), .val (.int (Int32.ofNat (2 * i + 1))), .val (.int c)]) dj52_4_34 rfl rfl (by rw [ofNat_succ]; rfl) ?_
  refine g_iloadN (pc' := 38) dj52_4_37 rfl rfl ?_
  refine g_getstatic (pc' := 41) dj52_4_38 rfl (wf_StringUTF16_59 hw) (U.2.1) ?_
  refine g_ishr (pc' := 42) dj52_4_41 rfl ?_
  refine g_i2b (pc' := 43) dj52_4_42 rfl ?_
  refine g_bastore (pc' := 44) (i := 2 * i) dj52_4_43 rfl B hd (List.mem_cons_self ..) ⟨ofNat_nn (by omega), (ofNat_lt (by omega) (by omega)).mpr (by omega)⟩ (ofNat_clamp (by omega)) (by omega) fun h43 K43 A43 => ?_
  rw [nar_b8', StrChars.shr0] at A43
  refine g_aloadN (pc' := 45) dj52_4_44 rfl rfl rfl ?_
  refine g_iloadN (pc' := 46) dj52_4_45 rfl rfl ?_
  refine g_iloadN (pc' := 47) dj52_4_46 rfl rfl ?_
  refine g_getstatic (pc' := 50) dj52_4_47 rfl (wf_StringUTF16_63 hw) (U.2.2) ?_
  refine g_ishr (pc' := 51) dj52_4_50 rfl ?_
  refine g_i2b (pc' := 52) dj52_4_51 rfl ?_
  refine g_bastore (pc' := 53) (i := 2 * i + 1) dj52_4_52 rfl A43 hd (List.mem_cons_self ..) ⟨ofNat_nn (by omega), (ofNat_lt (by omega) (by omega)).mpr (by omega)⟩ (ofNat_clamp (by omega)) (by rw [List.length_set]; omega) fun h52 K52 A52 => ?_
  rw [nar_b8'] at A52
  refine g_return dj52_4_53 rfl rfl rfl (⟨rfl, K43.trans K52 (fun _ q => Or.inl q), A52⟩)
theorem met_getC (hw : ∀ d ∈ tables_1, d.before a0 Z = true) (U : SU Z) {b : Addr} {kb : ClassId} {vs : List Value} {N : Int32} {i : Nat} {u v : Int32} (hN : N = Int32.ofNat vs.length) (hl : vs.length ≤ 100000) (hi : 2 * i + 1 < vs.length) (B : Arv Z h b kb .byte N vs (.int 0)) (hu : vs.getD (2 * i) (.int 0) = .int u) (hv : vs.getD (2 * i + 1) (.int 0) = .int v) :
    MetW [] l yGetC jdk_52_method_5_code 2 (some .char) (Rm 0 0 0 0) #[.ref b, .int (Int32.ofNat i)] Z a0 EL nw [] h (fun r h' => r = some (.int (StrChars.pairCh u v)) ∧ h' = h) := by
  subst hN
  refine MetW.of (plainFor_of_name (by first | (simp [plainName, overriddenIn]; done) | decide +kernel)) fun X hX => Go.old fun EZ => ?_
  show Go X _ _ _ _ _ _ _ _ _ _ _ _ _ _ _ _ (mkF X.m 0 #[.val (.ref b), .val (.int (Int32.ofNat i))] [])
  refine g_getstatic (pc' := 3) dj52_5_0 rfl (wf_StringUTF16_44 hw) (U.1) ?_
  refine g_ifne (pc' := 6) (pc2 := 28) dj52_5_3 rfl (by decide) rfl (fun c3 => False.elim (absurd c3 (by decide))) (fun c3 => ?_)
  refine g_iloadN (pc' := 29) dj52_5_28 rfl rfl ?_
  refine g_iconst (pc' := 30) (w := 1) dj52_5_29 rfl (by decide) ?_
  refine g_ishl (pc' := 31) dj52_5_30 rfl ?_
  rw [shl1]
  refine g_istoreN (pc' := 32) (Ls' := #[_, _]) dj52_5_31 rfl rfl ?_
  refine g_aloadN (pc' := 33) dj52_5_32 rfl rfl rfl ?_
  refine g_iloadN (pc' := 34) dj52_5_33 rfl rfl ?_
  refine g_iinc (pc' := 37) (Ls' := #[.val (.ref b), .val (.int (Int32.ofNat (2 * i + 1)))]) dj52_5_34 rfl rfl (by rw [ofNat_succ]; rfl) ?_
  refine g_baload (pc' := 38) (w := u) dj52_5_37 rfl (B) (⟨ofNat_nn (by omega), (ofNat_lt (by omega) (by omega)).mpr (by omega)⟩) (by rw [ofNat_clamp (by omega)]; exact hu) ?_
  refine g_sipush (pc' := 41) (w := 255) dj52_5_38 rfl (by decide) ?_
  refine g_iand (pc' := 42) dj52_5_41 rfl ?_
  refine g_getstatic (pc' := 45) dj52_5_42 rfl (wf_StringUTF16_59 hw) (U.2.1) ?_
  refine g_ishl (pc' := 46) dj52_5_45 rfl ?_
  refine g_aloadN (pc' := 47) dj52_5_46 rfl rfl rfl ?_
  refine g_iloadN (pc' := 48) dj52_5_47 rfl rfl ?_
  refine g_baload (pc' := 49) (w := v) dj52_5_48 rfl (B) (⟨ofNat_nn (by omega), (ofNat_lt (by omega) (by omega)).mpr (by omega)⟩) (by rw [ofNat_clamp (by omega)]; exact hv) ?_
  refine g_sipush (pc' := 52) (w := 255) dj52_5_49 rfl (by decide) ?_
  refine g_iand (pc' := 53) dj52_5_52 rfl ?_
  refine g_getstatic (pc' := 56) dj52_5_53 rfl (wf_StringUTF16_63 hw) (U.2.2) ?_
  refine g_ishl (pc' := 57) dj52_5_56 rfl ?_
  refine g_ior (pc' := 58) dj52_5_57 rfl ?_
  refine g_i2c (pc' := 59) dj52_5_58 rfl ?_
  refine g_ireturn (t := .char) dj52_5_59 rfl (by simp) (congrArg Value.int (nar_idem _)) rfl rfl (⟨rfl, rfl⟩)
theorem met_NBL (hw : ∀ d ∈ tables_1, d.before a0 Z = true) {n : Nat} (hn : n ≤ 4000) : MetW [] l yNBL jdk_52_method_3_code 1 (some .int) (Rm 0 0 0 0) #[.int (Int32.ofNat n)] Z a0 EL nw [] h (fun v h' => v = some (.int (Int32.ofNat (2 * n))) ∧ h' = h) := by
  refine MetW.of (plainFor_of_name (by first | (simp [plainName, overriddenIn]; done) | decide +kernel)) fun X hX => Go.old fun EZ => ?_
  show Go X _ _ _ _ _ _ _ _ _ _ _ _ _ _ _ _ (mkF X.m 0 #[.val (.int (Int32.ofNat n))] [])
  refine g_iloadN (pc' := 1) dj52_3_0 rfl rfl ?_
  refine g_ifge (pc' := 4) (pc2 := 12) dj52_3_1 rfl (by decide) rfl (fun c1 => False.elim (ofNat_nn (by omega) c1)) (fun c1 => ?_)
  refine g_iloadN (pc' := 13) dj52_3_12 rfl rfl ?_
  refine g_ldcI (pc' := 15) dj52_3_13 rfl (wk_StringUTF16_20 hw) ?_
  refine g_icmplt (pc' := 18) (pc2 := 55) dj52_3_15 rfl (by decide) rfl (fun c15 => False.elim (c15 ((ofNat_lt (b := 1073741823) (by omega) (by decide)).mpr (by omega)))) (fun c15 => ?_)
  refine g_iloadN (pc' := 56) dj52_3_55 rfl rfl ?_
  refine g_iconst (pc' := 57) (w := 1) dj52_3_56 rfl (by decide) ?_
  refine g_ishl (pc' := 58) dj52_3_57 rfl ?_
  rw [shl1]
  refine g_ireturn (t := .int) dj52_3_58 rfl (by simp) rfl rfl rfl (⟨rfl, rfl⟩)
theorem met_NBF (hw : ∀ d ∈ tables_1, d.before a0 Z = true) {n M : Nat} (hn : n ≤ M) (hM : M ≤ 4000) : MetW [] l yNBF jdk_52_method_2_code 1 (some (.array .byte)) (Rm 1 1 (2 * M) 12) #[.int (Int32.ofNat n)] Z a0 EL nw [] h
    (fun v h' => ∃ b kb, v = some (.ref b) ∧ b = h.size ∧ Ext h h' ∧ Arv Z h' b kb .byte (Int32.ofNat (2 * n)) (List.replicate (2 * n) (.int 0)) (.int 0)) := by
  refine MetW.of (plainFor_of_name (by first | (simp [plainName, overriddenIn]; done) | decide +kernel)) fun X hX => Go.old fun EZ => ?_
  show Go X _ _ _ _ _ _ _ _ _ _ _ _ _ _ _ _ (mkF X.m 0 #[.val (.int (Int32.ofNat n))] [])
  refine g_iloadN (pc' := 1) dj52_2_0 rfl rfl ?_
  refine g_invokestatic (pc' := 4) [] [_] dj52_2_1 rfl (wl_StringUTF16_11 hw) (ws_StringUTF16_newBytesLength_lIrI hw) (wi_StringUTF16 hw) (wb_StringUTF16_newBytesLength_lIrI hw) (by decide) (Pay.of_met (met_NBL hw (n := n) (by omega)) (wb_StringUTF16_newBytesLength_lIrI hw) (wi_StringUTF16 hw) rfl rfl) pd_lIrI rfl rfl rfl rfl (bl (by simp)) (fun _ q => nomatch q) fun v1 h1 q1 l1 => ?_
  obtain ⟨rfl, rfl⟩ := q1
  refine g_newarray (pc' := 6) (cap := 2 * n) dj52_2_4 rfl (wa_byte hw) (ofNat_nn (by omega)) (ofNat_clamp (by omega)) (bl (by omega)) rfl (bl (by show 0 + 0 + 2 * n ≤ 2 * M; omega)) fun h4 a4 k4 e4 E4 A4 => ?_
  refine g_areturn dj52_2_6 rfl rfl rfl rfl rfl (bl (by show 0 + 0 + 2 * n ≤ 2 * M; omega)) ⟨a4, k4, rfl, e4, E4, A4⟩
theorem wide_len (cs : List Int32) : (wideB cs).length = 2 * cs.length := by
  induction cs with
  | nil => rfl
  | cons c cs ih => show (wideB cs).length + 1 + 1 = 2 * (cs.length + 1); omega
theorem wide_app (as bs : List Int32) : wideB (as ++ bs) = wideB as ++ wideB bs := by
  induction as with
  | nil => rfl
  | cons c cs ih => show Value.int _ :: Value.int _ :: wideB (cs ++ bs) = _; rw [ih]; rfl
theorem wide_step (cs : List Int32) (i : Nat) (hi : i < cs.length) (m : Nat) (hm : m = 2 * (cs.length - i)) : ((wideB (cs.take i) ++ List.replicate m (Value.int 0)).set (2 * i) (.int (lo8 (cs.getD i 0)))).set (2 * i + 1) (.int (hi8 (cs.getD i 0))) = wideB (cs.take (i + 1)) ++ List.replicate (2 * (cs.length - (i + 1))) (Value.int 0) := by
  have hl : (wideB (cs.take i)).length = 2 * i := by rw [wide_len, List.length_take]; omega
  obtain ⟨r, rfl⟩ : ∃ r, m = r + 1 + 1 := ⟨m - 2, by omega⟩
  have hr : 2 * (cs.length - (i + 1)) = r := by omega
  have e1 : cs.take (i + 1) = cs.take i ++ [cs.getD i 0] := by
    rw [List.take_add_one]
    simp [List.getD_eq_getElem?_getD, hi]
  rw [e1, wide_app, hr, List.set_append_right _ _ (by omega), List.set_append_right _ _ (by omega), hl]
  have : 2 * i - 2 * i = 0 := by omega
  rw [this]
  have : 2 * i + 1 - 2 * i = 1 := by omega
  rw [this, List.replicate_succ, List.replicate_succ, List.append_assoc]
  rfl
theorem own_ch_at {cs : List Int32} {d : Value} {i : Nat} (hi : i < cs.length) : (cs.map Value.int).getD i d = .int (cs.getD i 0) := by
  simp [List.getD_eq_getElem?_getD, hi]
theorem met_TB (hw : ∀ d ∈ tables_1, d.before a0 Z = true) (U : SU Z) {src : Addr} {kC : ClassId} {cs : List Int32} {d : Value} {M : Nat} (hn : cs.length ≤ M) (hM : M ≤ 4000) (A : Arv Z h src kC .char (Int32.ofNat cs.length) (cs.map Value.int) d) :
    MetW [] l yTB jdk_52_method_14_code 5 (some (.array .byte)) (Rm 2 1 (2 * M) 30) #[.ref src, .int 0, .int (Int32.ofNat cs.length)] Z a0 EL nw [] h
      (fun v h' => ∃ b kb, v = some (.ref b) ∧ b = h.size ∧ Ext h h' ∧ Arv Z h' b kb .byte (Int32.ofNat (2 * cs.length)) (wideB cs) (.int 0)) := by
  refine MetW.of (plainFor_of_name (by first | (simp [plainName, overriddenIn]; done) | decide +kernel)) fun X hX => Go.old fun EZ => ?_
  show Go X _ _ _ _ _ _ _ _ _ _ _ _ _ _ _ _ (mkF X.m 0 #[.val (.ref src), .val (.int 0), .val (.int (Int32.ofNat cs.length)), .unset, .unset] [])
  refine g_iloadN (pc' := 1) dj52_14_0 rfl rfl ?_
  refine g_invokestaticB (fun v => match v with | some (.ref b) => [b] | _ => []) (pc' := 4) [] [_] dj52_14_1 rfl (wl_StringUTF16_107 hw) (ws_StringUTF16_newBytesFor_lIrAB hw) (wi_StringUTF16 hw) (wb_StringUTF16_newBytesFor_lIrAB hw) (by decide) (Pay.of_met (met_NBF hw hn hM) (wb_StringUTF16_newBytesFor_lIrAB hw) (wi_StringUTF16 hw) rfl rfl) (fun v h' q => q.elim fun _ q => q.elim fun _ q => q.2.2.1) (fun v h' q x hx => by { obtain ⟨b, kb, rfl, eb, E1, B1⟩ := q; cases List.mem_singleton.mp hx; exact ⟨Nat.le_of_eq eb.symm, B1.lt⟩ }) pd_lIrAB rfl rfl rfl rfl (bl (by show 0 + 2 * M ≤ 2 * M; omega)) (fun _ q => nomatch q) fun v1 h1 q1 l1 => ?_
  obtain ⟨b, kb, rfl, eb, E1, B1⟩ := q1
  show Go X _ _ _ _ _ _ _ _ _ _ _ _ ([b] ++ []) _ _ _ _
  have zb : Z.heap.size ≤ b := by rw [eb]; exact EZ.1
  refine g_astoreN (pc' := 5) (Ls' := #[_, _, _, _, _]) dj52_14_4 rfl rfl rfl ?_
  refine g_iconst (pc' := 6) (w := 0) dj52_14_5 rfl (by decide) ?_
  refine g_istore (pc' := 8) (Ls' := #[_, _, _, _, _]) dj52_14_6 rfl rfl ?_
  have loop : ∀ r i hh, cs.length - i = r → i ≤ cs.length → Ext h hh → Arv Z hh b kb .byte (Int32.ofNat (2 * cs.length)) (wideB (cs.take i) ++ List.replicate (2 * (cs.length - i)) (Value.int 0)) (.int 0) →
      Go X (Rm 2 1 (2 * M) 30) Z a0 EL nw yTB jdk_52_method_14_code 5 (some (.array .byte)) (fun v h' => ∃ b kb, v = some (.ref b) ∧ b = h.size ∧ Ext h h' ∧ Arv Z h' b kb .byte (Int32.ofNat (2 * cs.length)) (wideB cs) (.int 0)) (Rm 2 1 (2 * M) 30).cells (Rm 2 1 (2 * M) 30).slots [b] hh 1 (2 * M) (mkF X.m 8 #[.val (.ref src), .val (.int (Int32.ofNat i)), .val (.int (Int32.ofNat cs.length)), .val (.ref b), .val (.int (Int32.ofNat i))] []) := by
    intro r
    induction r with
    | zero =>
      intro i hh hr hi E B
      have ei : i = cs.length := by omega
      subst ei
      refine g_iload (pc' := 10) dj52_14_8 rfl rfl ?_
      refine g_iloadN (pc' := 11) dj52_14_10 rfl rfl ?_
      refine g_icmpge (pc' := 14) (pc2 := 32) dj52_14_11 rfl (by decide) rfl (fun c11 => False.elim (absurd c11 (fun q => absurd ((ofNat_lt (by omega) (by omega)).mp q) (by omega)))) (fun c11 => ?_)
      refine g_aloadN (pc' := 33) dj52_14_32 rfl rfl rfl ?_
      refine g_areturn dj52_14_33 rfl rfl rfl rfl rfl (bl (Nat.le_refl _)) ⟨b, kb, rfl, eb, E, ?_⟩
      simpa using B
    | succ r ih =>
      intro i hh hr hi E B
      have ci : i < cs.length := by omega
      refine g_iload (pc' := 10) dj52_14_8 rfl rfl ?_
      refine g_iloadN (pc' := 11) dj52_14_10 rfl rfl ?_
      refine g_icmpge (pc' := 14) (pc2 := 32) dj52_14_11 rfl (by decide) rfl (fun c11 => ?_) (fun c11 => False.elim (c11 ((ofNat_lt (by omega) (by omega)).mpr ci)))
      refine g_aloadN (pc' := 15) dj52_14_14 rfl rfl rfl ?_
      refine g_iload (pc' := 17) dj52_14_15 rfl rfl ?_
      refine g_aloadN (pc' := 18) dj52_14_17 rfl rfl rfl ?_
      refine g_iloadN (pc' := 19) dj52_14_18 rfl rfl ?_
      refine g_caload (pc' := 20) (w := cs.getD i 0) dj52_14_19 rfl (A.ext E) (⟨ofNat_nn (by omega), c11⟩) (by rw [ofNat_clamp (by omega)]; exact own_ch_at ci) ?_
      refine g_invokestatic (pc' := 23) [b] [_, _, _] dj52_14_20 rfl (wl_StringUTF16_111 hw) (ws_StringUTF16_putChar_lABIIrV hw) (wi_StringUTF16 hw) (wb_StringUTF16_putChar_lABIIrV hw) (by decide) (Pay.of_met (met_put hw U (i := i) (c := cs.getD i 0) (by rw [List.length_append, wide_len, List.length_replicate, List.length_take]; congr 1; omega) (by rw [List.length_append, wide_len, List.length_replicate, List.length_take]; omega) (by rw [List.length_append, wide_len, List.length_replicate, List.length_take]; omega) zb B) (wb_StringUTF16_putChar_lABIIrV hw) (wi_StringUTF16 hw) rfl rfl) pd_lABIIrV rfl rfl rfl rfl (bl (Nat.le_refl _)) (fun _ q => q) fun v20 h20 q20 l20 => ?_
      obtain ⟨rfl, K20, B20⟩ := q20
      rw [wide_step cs i ci _ rfl] at B20
      refine g_iinc (pc' := 26) (Ls' := #[.val (.ref src), .val (.int (Int32.ofNat (i + 1))), .val (.int (Int32.ofNat cs.length)), .val (.ref b), .val (.int (Int32.ofNat i))]) dj52_14_23 rfl rfl (by rw [ofNat_succ]; rfl) ?_
      refine g_iinc (pc' := 29) (Ls' := #[.val (.ref src), .val (.int (Int32.ofNat (i + 1))), .val (.int (Int32.ofNat cs.length)), .val (.ref b), .val (.int (Int32.ofNat (i + 1)))]) dj52_14_26 rfl rfl (by rw [ofNat_succ]; rfl) ?_
      refine g_goto (pc' := 8) dj52_14_29 (by decide) rfl ?_
      exact ih (i + 1) h20 (by omega) (by omega) (ext_keep E K20 (allS (Nat.le_of_eq eb.symm) all0)) B20
  refine Go.mono 1 (2 * M) rfl (bl (by show 0 + 2 * M ≤ 2 * M; omega)) ?_
  exact loop _ 0 h1 rfl (Nat.zero_le _) E1 B1
/-- the first char above 255 -/
theorem met_C5w (hw : ∀ d ∈ tables_1, d.before a0 Z = true) {src dst : Addr} {kC kb : ClassId} {cs : List Int32} {d : Value} (hn : cs.length ≤ 4000) (hwide : ∃ c ∈ cs, (255 : Int32) < c) (A : Arv Z h src kC .char (Int32.ofNat cs.length) (cs.map Value.int) d) (hd : Z.heap.size ≤ dst) (hsd : src ≠ dst) (B : Arv Z h dst kb .byte (Int32.ofNat cs.length) (List.replicate cs.length (.int 0)) (.int 0)) :
    MetW [] l yC5 jdk_52_method_21_code 7 (some .int) (Rm 0 0 0 0) #[.ref src, .int 0, .ref dst, .int 0, .int (Int32.ofNat cs.length)] Z a0 EL nw [dst] h
      (fun v h' => ∃ k, v = some (.int (Int32.ofNat k)) ∧ k < cs.length ∧ (255 : Int32) < cs.getD k 0 ∧ Keep h h' [dst]) := by
  refine MetW.of (plainFor_of_name (by first | (simp [plainName, overriddenIn]; done) | decide +kernel)) fun X hX => Go.old fun EZ => ?_
  show Go X _ _ _ _ _ _ _ _ _ _ _ _ _ _ _ _ (mkF X.m 0 #[.val (.ref src), .val (.int 0), .val (.ref dst), .val (.int 0), .val (.int (Int32.ofNat cs.length)), .unset, .unset] [])
  refine g_iconst (pc' := 1) (w := 0) dj52_21_0 rfl (by decide) ?_
  refine g_istore (pc' := 3) (Ls' := #[_, _, _, _, _, _, _]) dj52_21_1 rfl rfl ?_
  have loop : ∀ r i hh (o : Slot) (vs : List Value), (o = .unset ∨ ∃ q, o = .val (.int q)) → cs.length - i = r → i ≤ cs.length → vs.length = cs.length → (∀ j, j < i → ¬ (255 : Int32) < cs.getD j 0) → Keep h hh [dst] → Arv Z hh dst kb .byte (Int32.ofNat cs.length) vs (.int 0) →
      Go X (Rm 0 0 0 0) Z a0 EL nw yC5 jdk_52_method_21_code 7 (some .int) (fun v h' => ∃ k, v = some (.int (Int32.ofNat k)) ∧ k < cs.length ∧ (255 : Int32) < cs.getD k 0 ∧ Keep h h' [dst]) (Rm 0 0 0 0).cells (Rm 0 0 0 0).slots [dst] hh 0 0 (mkF X.m 3 #[.val (.ref src), .val (.int (Int32.ofNat i)), .val (.ref dst), .val (.int (Int32.ofNat i)), .val (.int (Int32.ofNat cs.length)), .val (.int (Int32.ofNat i)), o] []) := by
    intro r
    induction r with
    | zero =>
      intro i hh o vs ho hr hi hv hall K B
      exfalso
      obtain ⟨c, hc, hcw⟩ := hwide
      obtain ⟨j, hj, e⟩ := List.getElem_of_mem hc
      refine hall j (by omega) ?_
      simp [List.getD_eq_getElem?_getD, hj, e, hcw]
    | succ r ih =>
      intro i hh o vs ho hr hi hv hall K B
      have ci : i < cs.length := by omega
      have hst : ∀ q : Int32, storeLocals #[.val (.ref src), .val (.int (Int32.ofNat i)), .val (.ref dst), .val (.int (Int32.ofNat i)), .val (.int (Int32.ofNat cs.length)), .val (.int (Int32.ofNat i)), o] 6 (.int q) = some #[.val (.ref src), .val (.int (Int32.ofNat i)), .val (.ref dst), .val (.int (Int32.ofNat i)), .val (.int (Int32.ofNat cs.length)), .val (.int (Int32.ofNat i)), .val (.int q)] := by
        intro q
        rcases ho with rfl | ⟨q', rfl⟩ <;> rfl
      refine g_iload (pc' := 5) dj52_21_3 rfl rfl ?_
      refine g_iload (pc' := 7) dj52_21_5 rfl rfl ?_
      refine g_icmpge (pc' := 10) (pc2 := 44) dj52_21_7 rfl (by decide) rfl (fun c7 => ?_) (fun c7 => False.elim (c7 ((ofNat_lt (by omega) (by omega)).mpr ci)))
      refine g_aloadN (pc' := 11) dj52_21_10 rfl rfl rfl ?_
      refine g_iloadN (pc' := 12) dj52_21_11 rfl rfl ?_
      refine g_caload (pc' := 13) (w := cs.getD i 0) dj52_21_12 rfl (A.keep K (ninS hsd nin0)) (⟨ofNat_nn (by omega), c7⟩) (by rw [ofNat_clamp (by omega)]; exact own_ch_at ci) ?_
      refine g_istore (pc' := 15) dj52_21_13 rfl (hst _) ?_
      refine g_iload (pc' := 17) dj52_21_15 rfl rfl ?_
      refine g_sipush (pc' := 20) (w := 255) dj52_21_17 rfl (by decide) ?_
      refine g_icmple (pc' := 23) (pc2 := 26) dj52_21_20 rfl (by decide) rfl (fun c20 => ?_) (fun c20 => ?_)
      · refine g_iload (pc' := 25) dj52_21_23 rfl rfl ?_
        refine g_ireturn (t := .int) dj52_21_25 rfl (by simp) rfl rfl rfl (⟨i, rfl, ci, c20, K⟩)
      · refine g_aloadN (pc' := 27) dj52_21_26 rfl rfl rfl ?_
        refine g_iloadN (pc' := 28) dj52_21_27 rfl rfl ?_
        refine g_iload (pc' := 30) dj52_21_28 rfl rfl ?_
        refine g_i2b (pc' := 31) dj52_21_30 rfl ?_
        refine g_bastore (pc' := 32) (i := i) dj52_21_31 rfl B hd (List.mem_cons_self ..) ⟨ofNat_nn (by omega), c7⟩ (ofNat_clamp (by omega)) (by omega) fun h31 K31 A31 => ?_
        refine g_iinc (pc' := 35) (Ls' := #[.val (.ref src), .val (.int (Int32.ofNat (i + 1))), .val (.ref dst), .val (.int (Int32.ofNat i)), .val (.int (Int32.ofNat cs.length)), .val (.int (Int32.ofNat i)), .val (.int (cs.getD i 0))]) dj52_21_32 rfl rfl (by rw [ofNat_succ]; rfl) ?_
        refine g_iinc (pc' := 38) (Ls' := #[.val (.ref src), .val (.int (Int32.ofNat (i + 1))), .val (.ref dst), .val (.int (Int32.ofNat (i + 1))), .val (.int (Int32.ofNat cs.length)), .val (.int (Int32.ofNat i)), .val (.int (cs.getD i 0))]) dj52_21_35 rfl rfl (by rw [ofNat_succ]; rfl) ?_
        refine g_iinc (pc' := 41) (Ls' := #[.val (.ref src), .val (.int (Int32.ofNat (i + 1))), .val (.ref dst), .val (.int (Int32.ofNat (i + 1))), .val (.int (Int32.ofNat cs.length)), .val (.int (Int32.ofNat (i + 1))), .val (.int (cs.getD i 0))]) dj52_21_38 rfl rfl (by rw [ofNat_succ]; rfl) ?_
        refine g_goto (pc' := 3) dj52_21_41 (by decide) rfl ?_
        refine ih (i + 1) h31 _ _ (Or.inr ⟨_, rfl⟩) (by omega) (by omega) (by rw [List.length_set]; exact hv) (fun j hj => ?_) (K.trans K31 (fun _ q => Or.inl q)) A31
        by_cases q : j = i
        · rw [q]; exact c20
        · exact hall j (by omega)
  exact loop _ 0 h .unset _ (Or.inl rfl) rfl (Nat.zero_le _) (List.length_replicate ..) (fun j hj => absurd hj (Nat.not_lt_zero _)) (Keep.refl _ _) B
theorem met_C3w (hw : ∀ d ∈ tables_1, d.before a0 Z = true) (U : SU Z) {src : Addr} {kC : ClassId} {cs : List Int32} {d : Value} {M : Nat} (hn : cs.length ≤ M) (hM : M ≤ 4000) (hwide : ∃ c ∈ cs, (255 : Int32) < c) (hb : ∀ c ∈ cs, ¬ c < 0 ∧ ¬ (65535 : Int32) < c) (A : Arv Z h src kC .char (Int32.ofNat cs.length) (cs.map Value.int) d) :
    MetW [] l yC3 jdk_52_method_16_code 6 (some (.array .byte)) (Rm 3 2 (3 * M) 50) #[.ref src, .int 0, .int (Int32.ofNat cs.length)] Z a0 EL true [] h
      (fun v h' => ∃ b kb, v = some (.ref b) ∧ h.size ≤ b ∧ Ext h h' ∧ Arv Z h' b kb .byte (Int32.ofNat (2 * cs.length)) (wideB cs) (.int 0)) := by
  refine MetW.of (plainFor_of_name (by first | (simp [plainName, overriddenIn]; done) | decide +kernel)) fun X hX => Go.old fun EZ => ?_
  show Go X _ _ _ _ _ _ _ _ _ _ _ _ _ _ _ _ (mkF X.m 0 #[.val (.ref src), .val (.int 0), .val (.int (Int32.ofNat cs.length)), .unset, .unset, .unset] [])
  refine g_iloadN (pc' := 1) dj52_16_0 rfl rfl ?_
  refine g_newarray (pc' := 3) (cap := cs.length) dj52_16_1 rfl (wa_byte hw) (ofNat_nn (by omega)) (ofNat_clamp (by omega)) (bl (by omega)) rfl (bl (by show 0 + cs.length ≤ 3 * M; omega)) fun h1 a1 k1 e1 E1 A1 => ?_
  have zb : Z.heap.size ≤ a1 := by rw [e1]; exact EZ.1
  have hsd : src ≠ a1 := Nat.ne_of_lt (by rw [e1]; exact A.lt)
  refine g_astoreN (pc' := 4) (Ls' := #[_, _, _, _, _, _]) dj52_16_3 rfl rfl rfl ?_
  refine g_aloadN (pc' := 5) dj52_16_4 rfl rfl rfl ?_
  refine g_iloadN (pc' := 6) dj52_16_5 rfl rfl ?_
  refine g_aloadN (pc' := 7) dj52_16_6 rfl rfl rfl ?_
  refine g_iconst (pc' := 8) (w := 0) dj52_16_7 rfl (by decide) ?_
  refine g_iloadN (pc' := 9) dj52_16_8 rfl rfl ?_
  refine g_invokestatic (pc' := 12) [a1] [_, _, _, _, _] dj52_16_9 rfl (wl_StringUTF16_115 hw) (ws_StringUTF16_compress_lACIABIIrI hw) (wi_StringUTF16 hw) (wb_StringUTF16_compress_lACIABIIrI hw) (by decide) (Pay.of_met (met_C5w hw (by omega) hwide (A.ext E1) zb hsd A1) (wb_StringUTF16_compress_lACIABIIrI hw) (wi_StringUTF16 hw) rfl rfl) pd_lACIABIIrI rfl rfl rfl rfl (bl (by show 0 + cs.length + 0 ≤ 3 * M; omega)) (fun _ q => q) fun v9 h9 q9 l9 => ?_
  obtain ⟨k, rfl, hk, hck, K9⟩ := q9
  have E9 : Ext h h9 := ext_keep E1 K9 (allS (Nat.le_of_eq e1.symm) all0)
  refine g_istore (pc' := 14) (Ls' := #[_, _, _, _, _, _]) dj52_16_12 rfl rfl ?_
  refine g_iload (pc' := 16) dj52_16_14 rfl rfl ?_
  refine g_iloadN (pc' := 17) dj52_16_16 rfl rfl ?_
  refine g_icmpeq (pc' := 20) (pc2 := 57) dj52_16_17 rfl (by decide) rfl (fun c17 => ?_) (fun c17 => False.elim (absurd ((ofNat_inj (by omega) (by omega)).mp c17) (by omega)))
  refine g_aloadN (pc' := 21) dj52_16_20 rfl rfl rfl ?_
  refine g_iloadN (pc' := 22) dj52_16_21 rfl rfl ?_
  refine g_iloadN (pc' := 23) dj52_16_22 rfl rfl ?_
  refine g_invokestatic (pc' := 26) [] [_, _, _] dj52_16_23 rfl (wl_StringUTF16_119 hw) (ws_StringUTF16_toBytes_lACIIrAB hw) (wi_StringUTF16 hw) (wb_StringUTF16_toBytes_lACIIrAB hw) (by decide) (Pay.of_met (met_TB hw U hn hM (A.ext E9)) (wb_StringUTF16_toBytes_lACIIrAB hw) (wi_StringUTF16 hw) rfl rfl) pd_lACIIrAB rfl rfl rfl rfl (bl (by show 0 + cs.length + 0 + 2 * M ≤ 3 * M; omega)) (fun _ q => nomatch q) fun v23 h23 q23 l23 => ?_
  obtain ⟨b, kb, rfl, eb, E23, B23⟩ := q23
  refine g_astore (pc' := 28) (Ls' := #[_, _, _, _, _, _]) dj52_16_26 rfl rfl rfl ?_
  refine g_aload (pc' := 30) dj52_16_28 rfl rfl rfl ?_
  refine g_iload (pc' := 32) dj52_16_30 rfl rfl ?_
  have hc := hb (cs.getD k 0) (by simp [List.getD_eq_getElem?_getD, hk])
  refine g_invokestatic (pc' := 35) [] [_, _] dj52_16_32 rfl (wl_StringUTF16_71 hw) (ws_StringUTF16_getChar_lABIrC hw) (wi_StringUTF16 hw) (wb_StringUTF16_getChar_lABIrC hw) (by decide) (Pay.of_met (met_getC hw U (i := k) (by rw [wide_len]) (by rw [wide_len]; omega) (by rw [wide_len]; omega) B23 (StrChars.Road.wide_lo _ cs k hk) (StrChars.Road.wide_hi _ cs k hk)) (wb_StringUTF16_getChar_lABIrC hw) (wi_StringUTF16 hw) rfl rfl) pd_lABIrC rfl rfl rfl rfl (bl (by show 0 + cs.length + 0 + 2 * M + 0 ≤ 3 * M; omega)) (fun _ q => nomatch q) fun v32 h32 q32 l32 => ?_
  obtain ⟨rfl, rfl⟩ := q32
  rw [StrChars.pair_says hc.1 hc.2]
  refine g_sipush (pc' := 38) (w := 255) dj52_16_35 rfl (by decide) ?_
  refine g_icmpgt (pc' := 41) (pc2 := 54) dj52_16_38 rfl (by decide) rfl (fun c38 => False.elim (c38 hck)) (fun c38 => ?_)
  refine g_aload (pc' := 56) dj52_16_54 rfl rfl rfl ?_
  refine g_areturn dj52_16_56 rfl rfl rfl rfl rfl (bl (by show 0 + cs.length + 0 + 2 * M + 0 ≤ 3 * M; omega)) ⟨b, kb, rfl, ?_, ext_trans E9 E23, B23⟩
  rw [eb]; exact E9.1
theorem met_CFL (hw : ∀ d ∈ tables_1, d.before a0 Z = true) {b : Addr} {kb : ClassId} {n : Nat} {vs : List Value} {d : Value} (h0 : 0 < n) (hn : n ≤ 4000) (B : Arv Z h b kb .byte (Int32.ofNat (2 * n)) vs d) : MetW [] l yCFL jdk_52_method_15_code 2 (some .byte) (Rm 0 0 0 0) #[.ref b, .int (Int32.ofNat n)] Z a0 EL nw [] h (fun v h' => v = some (.int 1) ∧ h' = h) := by
  refine MetW.of (plainFor_of_name (by first | (simp [plainName, overriddenIn]; done) | decide +kernel)) fun X hX => Go.old fun EZ => ?_
  show Go X _ _ _ _ _ _ _ _ _ _ _ _ _ _ _ _ (mkF X.m 0 #[.val (.ref b), .val (.int (Int32.ofNat n))] [])
  refine g_iloadN (pc' := 1) dj52_15_0 rfl rfl ?_
  refine g_aloadN (pc' := 2) dj52_15_1 rfl rfl rfl ?_
  refine g_arraylength (pc' := 3) dj52_15_2 rfl (B) ?_
  refine g_isub (pc' := 4) dj52_15_3 rfl ?_
  refine g_bipush (pc' := 6) (w := 31) dj52_15_4 rfl (by decide) ?_
  refine g_iushr (pc' := 7) dj52_15_6 rfl ?_
  refine g_i2b (pc' := 8) dj52_15_7 rfl ?_
  rw [cod1 h0 hn]
  refine g_ireturn (t := .byte) dj52_15_8 rfl (by simp) rfl rfl rfl (⟨rfl, rfl⟩)
abbrev yI4' : MethodName := ⟨"java/lang/String", "<init>", "([CIILjava/lang/Void;)V"⟩
abbrev yI1' : MethodName := ⟨"java/lang/String", "<init>", "([C)V"⟩
theorem met_I4w {z : Int32} (hw : ∀ d ∈ tables_1, d.before a0 Z = true) (U : SU Z) (S : Sta Z Z.heap "java/lang/String" "COMPACT_STRINGS" "Z" (.int z)) (hz : ¬ z = 0) {x b : Addr} {kC : ClassId} {cs : List Int32} {d v0 c0 : Value} {M : Nat} (hn : cs.length ≤ M) (hM : M ≤ 4000) (hwide : ∃ c ∈ cs, (255 : Int32) < c) (hb : ∀ c ∈ cs, ¬ c < 0 ∧ ¬ (65535 : Int32) < c) (hx : Z.heap.size ≤ x) (E : Exa Z h x "java/lang/String") (V : Fld Z h x "java/lang/String" "value" "[B" v0) (C : Fld Z h x "java/lang/String" "coder" "B" c0) (A : Arv Z h b kC .char (Int32.ofNat cs.length) (cs.map Value.int) d) :
    MetW [] l yI4' jdk_42_method_149_code 6 none (Rm 4 2 (3 * M) 70) #[.ref x, .ref b, .int 0, .int (Int32.ofNat cs.length), .null] Z a0 EL nw [x] h (fun v h' => v = none ∧ Keep h h' [x] ∧ Str Z h' x cs) := by
  have hpos : 0 < cs.length := by obtain ⟨c, hc, -⟩ := hwide; exact List.length_pos_of_mem hc
  refine MetW.of (plainFor_of_name (by first | (simp [plainName, overriddenIn]; done) | decide +kernel)) fun X hX => Go.old fun EZ => ?_
  show Go X _ _ _ _ _ _ _ _ _ _ _ _ _ _ _ _ (mkF X.m 0 #[.val (.ref x), .val (.ref b), .val (.int 0), .val (.int (Int32.ofNat cs.length)), .val (.null), .unset] [])
  have ne : RoadKit.slotOf Z "java/lang/String" "coder" "B" ≠ RoadKit.slotOf Z "java/lang/String" "value" "[B" := slot_ne (Or.inr (wy_String_String_coder hw)) (Or.inr (wy_String_String_value hw)) (by decide) (t := .byte) (t' := .array .byte) (by decide) (by decide)
  refine g_aloadN (pc' := 1) dj42_149_0 rfl rfl rfl ?_
  refine g_objinit (pc' := 4) dj42_149_1 rfl (wl_String_1 hw) (wm_Object_init_lrV hw) (wb_Object_init_lrV hw) rfl rfl rfl ?_
  refine g_iloadN (pc' := 5) dj42_149_4 rfl rfl ?_
  refine g_ifne (pc' := 8) (pc2 := 27) dj42_149_5 rfl (by decide) rfl (fun c5 => False.elim (absurd ((ofNat_inj (b := 0) (by omega) (by decide)).mp c5) (by omega))) (fun c5 => ?_)
  refine g_getstatic (pc' := 30) dj42_149_27 rfl (wf_String_38 hw) (S) ?_
  refine g_ifeq (pc' := 33) (pc2 := 58) dj42_149_30 rfl (by decide) rfl (fun c30 => ?_) (fun c30 => False.elim (hz c30))
  refine g_aloadN (pc' := 34) dj42_149_33 rfl rfl rfl ?_
  refine g_iloadN (pc' := 35) dj42_149_34 rfl rfl ?_
  refine g_iloadN (pc' := 36) dj42_149_35 rfl rfl ?_
  refine g_invokestaticB (fun v => match v with | some (.ref b) => [b] | _ => []) (pc' := 39) [] [_, _, _] dj42_149_36 rfl (wl_String_177 hw) (ws_StringUTF16_compress_lACIIrAB hw) (wi_StringUTF16 hw) (wb_StringUTF16_compress_lACIIrAB hw) (by decide) (Pay.of_met (met_C3w hw U hn hM hwide hb A) (wb_StringUTF16_compress_lACIIrAB hw) (wi_StringUTF16 hw) rfl rfl) (fun v h' q => q.elim fun _ q => q.elim fun _ q => q.2.2.1) (fun v h' q x hx => by { obtain ⟨b, kb, rfl, eb, E1, B1⟩ := q; cases List.mem_singleton.mp hx; exact ⟨eb, B1.lt⟩ }) pd_lACIIrAB rfl rfl rfl rfl (bl (by show 0 + 3 * M ≤ 3 * M; omega)) (fun _ q => nomatch q) fun v36 h36 q36 l36 => ?_
  obtain ⟨t, kb, rfl, lt, E36, B36⟩ := q36
  show Go X _ _ _ _ _ _ _ _ _ _ _ _ ([t] ++ [x]) _ _ _ _
  have hxt : x ≠ t := Nat.ne_of_lt (Nat.lt_of_lt_of_le E.lt lt)
  refine g_astore (pc' := 41) (Ls' := #[_, _, _, _, _, _]) dj42_149_39 rfl rfl rfl ?_
  refine g_aloadN (pc' := 42) dj42_149_41 rfl rfl rfl ?_
  refine g_aload (pc' := 44) dj42_149_42 rfl rfl rfl ?_
  refine g_iloadN (pc' := 45) dj42_149_44 rfl rfl ?_
  refine g_invokestatic (pc' := 48) [] [_, _] dj42_149_45 rfl (wl_String_47 hw) (ws_StringUTF16_coderFromArrayLen_lABIrB hw) (wi_StringUTF16 hw) (wb_StringUTF16_coderFromArrayLen_lABIrB hw) (by decide) (Pay.of_met (met_CFL hw hpos (by omega) B36) (wb_StringUTF16_coderFromArrayLen_lABIrB hw) (wi_StringUTF16 hw) rfl rfl) pd_lABIrB rfl rfl rfl rfl (bl (by show 0 + 3 * M + 0 ≤ 3 * M; omega)) (fun _ q => nomatch q) fun v45 h45 q45 l45 => ?_
  obtain ⟨rfl, rfl⟩ := q45
  refine g_putfield (pc' := 51) dj42_149_48 rfl (wf_String_15 hw) (C.ext E36) (E.ext E36) (Or.inr ⟨wy_String_String_coder hw, rfl, rfl⟩) (wn_String hw) (ty := .byte) (by decide) rfl rfl (hx) (by simp) fun h48 W48 => ?_
  refine g_aloadN (pc' := 52) dj42_149_51 rfl rfl rfl ?_
  refine g_aload (pc' := 54) dj42_149_52 rfl rfl rfl ?_
  refine g_putfield (pc' := 57) dj42_149_54 rfl (wf_String_9 hw) ((V.ext E36).other W48 (Or.inr ne.symm)) ((E.ext E36).wr W48) (Or.inr ⟨wy_String_String_value hw, rfl, rfl⟩) (wn_String hw) (ty := (.array .byte)) (by decide) rfl rfl (hx) (by simp) fun h54 W54 => ?_
  refine g_return dj42_149_57 rfl rfl (bl (by show 0 + 3 * M + 0 ≤ 3 * M; omega)) ⟨rfl, (((Keep.refl h [x]).ext E36).wr W48 (Or.inl (List.mem_cons_self ..))).wr W54 (Or.inl (List.mem_cons_self ..)), ((E.ext E36).wr W48).wr W54, t, kb, 1, Int32.ofNat (2 * cs.length), wideB cs, ((V.ext E36).other W48 (Or.inr ne.symm)).same W54, ((C.ext E36).same W48).other W54 (Or.inr ne), (B36.other W48 hxt.symm).other W54 hxt.symm, Or.inr ⟨rfl, rfl, rfl, hwide⟩, hb, by omega⟩
theorem pay_new16 {z : Int32} (hw : ∀ d ∈ tables_1, d.before a0 Z = true) (U : SU Z) (S : Sta Z Z.heap "java/lang/String" "COMPACT_STRINGS" "Z" (.int z)) (hz : ¬ z = 0) {x b : Addr} {kC : ClassId} {cs : List Int32} {d v0 c0 : Value} {M : Nat} {N : Int32} (hN : N = Int32.ofNat cs.length) (hn : cs.length ≤ M) (hM : M ≤ 4000) (hwide : ∃ c ∈ cs, (255 : Int32) < c) (hb : ∀ c ∈ cs, ¬ c < 0 ∧ ¬ (65535 : Int32) < c) (hx : Z.heap.size ≤ x) (E : Exa Z h x "java/lang/String") (V : Fld Z h x "java/lang/String" "value" "[B" v0) (C : Fld Z h x "java/lang/String" "coder" "B" c0) (A : Arv Z h b kC .char N (cs.map Value.int) d) (hf : Nat.ble 6 R.frames = true) (hl : Nat.ble (W + 100) R.locals = true) :
    Pay l R yI1' W #[.ref x, .ref b] Z a0 EL nw [x] h 2 (3 * M) (fun v h' => v = none ∧ Keep h h' [x] ∧ Str Z h' x cs) := by
  have hM1 : MetW [] l yI1' jdk_42_method_3_code 2 none (Rm 5 2 (3 * M) 87) #[.ref x, .ref b] Z a0 EL nw [x] h (fun v h' => v = none ∧ Keep h h' [x] ∧ Str Z h' x cs) := by
    subst hN
    refine MetW.of (plainFor_of_name (by first | (simp [plainName, overriddenIn]; done) | decide +kernel)) fun X hX => Go.old fun EZ => ?_
    show Go X _ _ _ _ _ _ _ _ _ _ _ _ _ _ _ _ (mkF X.m 0 #[.val (.ref x), .val (.ref b)] [])
    refine g_aloadN (pc' := 1) dj42_3_0 rfl rfl rfl ?_
    refine g_aloadN (pc' := 2) dj42_3_1 rfl rfl rfl ?_
    refine g_iconst (pc' := 3) (w := 0) dj42_3_2 rfl (by decide) ?_
    refine g_aloadN (pc' := 4) dj42_3_3 rfl rfl rfl ?_
    refine g_arraylength (pc' := 5) dj42_3_4 rfl (A) ?_
    refine g_aconst_null (pc' := 6) dj42_3_5 rfl ?_
    refine g_invokespecial (pc' := 9) [x] [_, _, _, _] dj42_3_6 rfl rfl (wl_String_27 hw) (wm_String_init_lACIILjavalangVoidrV hw) (wb_String_init_lACIILjavalangVoidrV hw) (by decide) (Pay.of_met (met_I4w hw U S hz hn hM hwide hb hx E V C A) (wb_String_init_lACIILjavalangVoidrV hw) (wi_String hw) rfl rfl) pd_lACIILjavalangVoidrV rfl rfl rfl rfl (bl (by show 0 + 3 * M ≤ 3 * M; omega)) (fun _ q => q) fun v6 h6 q6 l6 => ?_
    obtain ⟨rfl, K6, T6⟩ := q6
    refine g_return dj42_3_9 rfl rfl (bl (by show 0 + 3 * M ≤ 3 * M; omega)) ⟨rfl, K6, T6⟩
  exact Pay.of_met hM1 (wb_String_init_lACrV hw) (wi_String hw) hf (by exact hl)
theorem pay_newAny {z : Int32} (hw : ∀ d ∈ tables_1, d.before a0 Z = true) (U : SU Z) (S : Sta Z Z.heap "java/lang/String" "COMPACT_STRINGS" "Z" (.int z)) (hz : ¬ z = 0) (EZ : Ext Z.heap h) {x b : Addr} {kC : ClassId} {cs : List Int32} {d v0 c0 : Value} {M : Nat} {N : Int32} (hN : N = Int32.ofNat cs.length) (h0 : 0 < cs.length) (hn : cs.length ≤ M) (hM : M ≤ 4000) (hb : ∀ c ∈ cs, ¬ c < 0 ∧ ¬ (65535 : Int32) < c) (hx : Z.heap.size ≤ x) (E : Exa Z h x "java/lang/String") (V : Fld Z h x "java/lang/String" "value" "[B" v0) (C : Fld Z h x "java/lang/String" "coder" "B" c0) (A : Arv Z h b kC .char N (cs.map Value.int) d) (hf : Nat.ble 6 R.frames = true) (hl : Nat.ble (W + 100) R.locals = true) :
    Pay l R yI1' W #[.ref x, .ref b] Z a0 EL nw [x] h 2 (3 * M) (fun v h' => v = none ∧ Keep h h' [x] ∧ Str Z h' x cs) := by
  by_cases q : ∃ c ∈ cs, (255 : Int32) < c
  · exact pay_new16 hw U S hz hN hn hM q hb hx E V C A hf hl
  · have h5 := ble hf
    have h6 := ble hl
    exact Pay.up (pay_new (n := cs.length) (own_new hw) (wn_String hw) S hz EZ hx E V C A rfl hN (bl (by omega)) (bl (by omega)) (fun c hc => ⟨(hb c hc).1, fun u => q ⟨c, hc, u⟩⟩) (bl (by omega)) (bl (by omega))) (by omega) (by omega)
end U16
/-! charAt of a String, Latin-1 or not -/
section Ch16
variable {l : Launch} {R : Room} {Z : State} {a0 : Array Value} {EL : List (String × Nat)} {nw : Bool} {h : Heap} {W : Nat}
abbrev yIsL : MethodName := ⟨"java/lang/String", "isLatin1", "()Z"⟩
abbrev yULen : MethodName := ⟨"java/lang/StringUTF16", "length", "([B)I"⟩
abbrev yPCk : MethodName := ⟨"jdk/internal/util/Preconditions", "checkIndex", "(IILjava/util/function/BiFunction;)I"⟩
abbrev ySCk : MethodName := ⟨"java/lang/String", "checkIndex", "(II)V"⟩
abbrev yUCk : MethodName := ⟨"java/lang/StringUTF16", "checkIndex", "(I[B)V"⟩
abbrev yUChA : MethodName := ⟨"java/lang/StringUTF16", "charAt", "([BI)C"⟩
abbrev yChA : MethodName := ⟨"java/lang/String", "charAt", "(I)C"⟩
theorem met_isW {z : Int32} (hw : ∀ d ∈ tables_1, d.before a0 Z = true) (S : Sta Z Z.heap "java/lang/String" "COMPACT_STRINGS" "Z" (.int z)) (hz : ¬ z = 0) {x : Addr} (C : Fld Z h x "java/lang/String" "coder" "B" (.int 1)) : MetW [] l yIsL jdk_42_method_154_code 1 (some .boolean) (Rm 0 0 0 0) #[.ref x] Z a0 EL nw [] h (fun v h' => v = some (.int 0) ∧ h' = h) := by
  refine MetW.of (plainFor_of_name (by first | (simp [plainName, overriddenIn]; done) | decide +kernel)) fun X hX => Go.old fun EZ => ?_
  show Go X _ _ _ _ _ _ _ _ _ _ _ _ _ _ _ _ (mkF X.m 0 #[.val (.ref x)] [])
  refine g_getstatic (pc' := 3) dj42_154_0 rfl (wf_String_38 hw) (S) ?_
  refine g_ifeq (pc' := 6) (pc2 := 17) dj42_154_3 rfl (by decide) rfl (fun c3 => ?_) (fun c3 => False.elim (hz c3))
  refine g_aloadN (pc' := 7) dj42_154_6 rfl rfl rfl ?_
  refine g_getfield (pc' := 10) dj42_154_7 rfl (wf_String_15 hw) (C) ?_
  refine g_ifne (pc' := 13) (pc2 := 17) dj42_154_10 rfl (by decide) rfl (fun c10 => False.elim (absurd c10 (by decide))) (fun c10 => ?_)
  refine g_iconst (pc' := 18) (w := 0) dj42_154_17 rfl (by decide) ?_
  refine g_ireturn (t := .boolean) dj42_154_18 rfl (by simp) rfl rfl rfl (⟨rfl, rfl⟩)
theorem met_ULen (hw : ∀ d ∈ tables_1, d.before a0 Z = true) {b : Addr} {kb : ClassId} {n : Nat} {vs : List Value} {d : Value} (hn : n ≤ 4000) (B : Arv Z h b kb .byte (Int32.ofNat (2 * n)) vs d) : MetW [] l yULen jdk_52_method_6_code 1 (some .int) (Rm 0 0 0 0) #[.ref b] Z a0 EL nw [] h (fun v h' => v = some (.int (Int32.ofNat n)) ∧ h' = h) := by
  refine MetW.of (plainFor_of_name (by first | (simp [plainName, overriddenIn]; done) | decide +kernel)) fun X hX => Go.old fun EZ => ?_
  show Go X _ _ _ _ _ _ _ _ _ _ _ _ _ _ _ _ (mkF X.m 0 #[.val (.ref b)] [])
  refine g_aloadN (pc' := 1) dj52_6_0 rfl rfl rfl ?_
  refine g_arraylength (pc' := 2) dj52_6_1 rfl (B) ?_
  refine g_iconst (pc' := 3) (w := 1) dj52_6_2 rfl (by decide) ?_
  refine g_ishr (pc' := 4) dj52_6_3 rfl ?_
  rw [StrChars.shr1 (by omega)]
  refine g_ireturn (t := .int) dj52_6_4 rfl (by simp) rfl rfl rfl (⟨rfl, rfl⟩)
theorem met_PCk (hw : ∀ d ∈ tables_1, d.before a0 Z = true) {i n : Nat} {fm : Value} (rf : fm.isRef = true) (hi : i < n) (hn : n ≤ 4000) : MetW [] l yPCk jdk_41_method_11_code 3 (some .int) (Rm 0 0 0 0) #[.int (Int32.ofNat i), .int (Int32.ofNat n), fm] Z a0 EL nw [] h (fun v h' => v = some (.int (Int32.ofNat i)) ∧ h' = h) := by
  rcases ref_cases rf with rfl | ⟨a, rfl⟩
  all_goals
    refine MetW.of (plainFor_of_name (by first | (simp [plainName, overriddenIn]; done) | decide +kernel)) fun X hX => Go.old fun EZ => ?_
    show Go X _ _ _ _ _ _ _ _ _ _ _ _ _ _ _ _ (mkF X.m 0 #[.val (.int (Int32.ofNat i)), .val (.int (Int32.ofNat n)), .val _] [])
    refine g_iloadN (pc' := 1) dj41_11_0 rfl rfl ?_
    refine g_iflt (pc' := 4) (pc2 := 9) dj41_11_1 rfl (by decide) rfl (fun c1 => ?_) (fun c1 => False.elim (ofNat_nn (by omega) c1))
    refine g_iloadN (pc' := 5) dj41_11_4 rfl rfl ?_
    refine g_iloadN (pc' := 6) dj41_11_5 rfl rfl ?_
    refine g_icmplt (pc' := 9) (pc2 := 16) dj41_11_6 rfl (by decide) rfl (fun c6 => False.elim (c6 ((ofNat_lt (by omega) (by omega)).mpr hi))) (fun c6 => ?_)
    refine g_iloadN (pc' := 17) dj41_11_16 rfl rfl ?_
    refine g_ireturn (t := .int) dj41_11_17 rfl (by simp) rfl rfl rfl (⟨rfl, rfl⟩)
theorem met_SCk (hw : ∀ d ∈ tables_1, d.before a0 Z = true) {fm : Value} (F : Sta Z Z.heap "jdk/internal/util/Preconditions" "SIOOBE_FORMATTER" "Ljava/util/function/BiFunction;" fm) (rf : fm.isRef = true) {i n : Nat} (hi : i < n) (hn : n ≤ 4000) : MetW [] l ySCk jdk_42_method_155_code 2 none (Rm 1 0 0 14) #[.int (Int32.ofNat i), .int (Int32.ofNat n)] Z a0 EL nw [] h (fun v h' => v = none ∧ h' = h) := by
  refine MetW.of (plainFor_of_name (by first | (simp [plainName, overriddenIn]; done) | decide +kernel)) fun X hX => Go.old fun EZ => ?_
  show Go X _ _ _ _ _ _ _ _ _ _ _ _ _ _ _ _ (mkF X.m 0 #[.val (.int (Int32.ofNat i)), .val (.int (Int32.ofNat n))] [])
  refine g_iloadN (pc' := 1) dj42_155_0 rfl rfl ?_
  refine g_iloadN (pc' := 2) dj42_155_1 rfl rfl ?_
  refine g_getstatic (pc' := 5) dj42_155_2 rfl (wf_String_1053 hw) (F) ?_
  refine g_invokestatic (pc' := 8) [] [_, _, _] dj42_155_5 rfl (wl_String_1059 hw) (ws_Preconditions_checkIndex_lIILjavautilfunctionBiFunctionrI hw) (wi_Preconditions hw) (wb_Preconditions_checkIndex_lIILjavautilfunctionBiFunctionrI hw) (by decide) (Pay.of_met (met_PCk hw rf hi hn) (wb_Preconditions_checkIndex_lIILjavautilfunctionBiFunctionrI hw) (wi_Preconditions hw) rfl rfl) pd_lIILjavautilfunctionBiFunctionrI rfl rfl rfl rfl rfl (fun _ q => nomatch q) fun v5 h5 q5 l5 => ?_
  obtain ⟨rfl, rfl⟩ := q5
  refine g_pop (pc' := 9) dj42_155_8 rfl rfl ?_
  refine g_return dj42_155_9 rfl rfl rfl (⟨rfl, rfl⟩)
theorem met_UCk (hw : ∀ d ∈ tables_1, d.before a0 Z = true) {fm : Value} (F : Sta Z Z.heap "jdk/internal/util/Preconditions" "SIOOBE_FORMATTER" "Ljava/util/function/BiFunction;" fm) (rf : fm.isRef = true) {b : Addr} {kb : ClassId} {i n : Nat} {vs : List Value} {d : Value} (hi : i < n) (hn : n ≤ 4000) (B : Arv Z h b kb .byte (Int32.ofNat (2 * n)) vs d) : MetW [] l yUCk jdk_52_method_91_code 2 none (Rm 2 0 0 30) #[.int (Int32.ofNat i), .ref b] Z a0 EL nw [] h (fun v h' => v = none ∧ h' = h) := by
  refine MetW.of (plainFor_of_name (by first | (simp [plainName, overriddenIn]; done) | decide +kernel)) fun X hX => Go.old fun EZ => ?_
  show Go X _ _ _ _ _ _ _ _ _ _ _ _ _ _ _ _ (mkF X.m 0 #[.val (.int (Int32.ofNat i)), .val (.ref b)] [])
  refine g_iloadN (pc' := 1) dj52_91_0 rfl rfl ?_
  refine g_aloadN (pc' := 2) dj52_91_1 rfl rfl rfl ?_
  refine g_invokestatic (pc' := 5) [] [_] dj52_91_2 rfl (wl_StringUTF16_48 hw) (ws_StringUTF16_length_lABrI hw) (wi_StringUTF16 hw) (wb_StringUTF16_length_lABrI hw) (by decide) (Pay.of_met (met_ULen hw hn B) (wb_StringUTF16_length_lABrI hw) (wi_StringUTF16 hw) rfl rfl) pd_lABrI rfl rfl rfl rfl rfl (fun _ q => nomatch q) fun v2 h2 q2 l2 => ?_
  obtain ⟨rfl, rfl⟩ := q2
  refine g_invokestatic (pc' := 8) [] [_, _] dj52_91_5 rfl (wl_StringUTF16_414 hw) (ws_String_checkIndex_lIIrV hw) (wi_String hw) (wb_String_checkIndex_lIIrV hw) (by decide) (Pay.of_met (met_SCk hw F rf hi hn) (wb_String_checkIndex_lIIrV hw) (wi_String hw) rfl rfl) pd_lIIrV rfl rfl rfl rfl rfl (fun _ q => nomatch q) fun v5 h5 q5 l5 => ?_
  obtain ⟨rfl, rfl⟩ := q5
  refine g_return dj52_91_8 rfl rfl rfl (⟨rfl, rfl⟩)
theorem met_UChA (hw : ∀ d ∈ tables_1, d.before a0 Z = true) (U : SU Z) {fm : Value} (F : Sta Z Z.heap "jdk/internal/util/Preconditions" "SIOOBE_FORMATTER" "Ljava/util/function/BiFunction;" fm) (rf : fm.isRef = true) {b : Addr} {kb : ClassId} {i : Nat} {cs : List Int32} (hi : i < cs.length) (hn : cs.length ≤ 4000) (hc : ∀ c ∈ cs, ¬ c < 0 ∧ ¬ (65535 : Int32) < c) (B : Arv Z h b kb .byte (Int32.ofNat (2 * cs.length)) (wideB cs) (.int 0)) : MetW [] l yUChA jdk_52_method_83_code 2 (some .char) (Rm 3 0 0 45) #[.ref b, .int (Int32.ofNat i)] Z a0 EL nw [] h (fun v h' => v = some (.int (cs.getD i 0)) ∧ h' = h) := by
  have hci := hc (cs.getD i 0) (by simp [List.getD_eq_getElem?_getD, hi])
  refine MetW.of (plainFor_of_name (by first | (simp [plainName, overriddenIn]; done) | decide +kernel)) fun X hX => Go.old fun EZ => ?_
  show Go X _ _ _ _ _ _ _ _ _ _ _ _ _ _ _ _ (mkF X.m 0 #[.val (.ref b), .val (.int (Int32.ofNat i))] [])
  refine g_iloadN (pc' := 1) dj52_83_0 rfl rfl ?_
  refine g_aloadN (pc' := 2) dj52_83_1 rfl rfl rfl ?_
  refine g_invokestatic (pc' := 5) [] [_, _] dj52_83_2 rfl (wl_StringUTF16_67 hw) (ws_StringUTF16_checkIndex_lIABrV hw) (wi_StringUTF16 hw) (wb_StringUTF16_checkIndex_lIABrV hw) (by decide) (Pay.of_met (met_UCk hw F rf hi hn B) (wb_StringUTF16_checkIndex_lIABrV hw) (wi_StringUTF16 hw) rfl rfl) pd_lIABrV rfl rfl rfl rfl rfl (fun _ q => nomatch q) fun v2 h2 q2 l2 => ?_
  obtain ⟨rfl, rfl⟩ := q2
  refine g_aloadN (pc' := 6) dj52_83_5 rfl rfl rfl ?_
  refine g_iloadN (pc' := 7) dj52_83_6 rfl rfl ?_
  refine g_invokestatic (pc' := 10) [] [_, _] dj52_83_7 rfl (wl_StringUTF16_71 hw) (ws_StringUTF16_getChar_lABIrC hw) (wi_StringUTF16 hw) (wb_StringUTF16_getChar_lABIrC hw) (by decide) (Pay.of_met (met_getC hw U (i := i) (by rw [wide_len]) (by rw [wide_len]; omega) (by rw [wide_len]; omega) B (StrChars.Road.wide_lo _ cs i hi) (StrChars.Road.wide_hi _ cs i hi)) (wb_StringUTF16_getChar_lABIrC hw) (wi_StringUTF16 hw) rfl rfl) pd_lABIrC rfl rfl rfl rfl rfl (fun _ q => nomatch q) fun v7 h7 q7 l7 => ?_
  obtain ⟨rfl, rfl⟩ := q7
  rw [StrChars.pair_says hci.1 hci.2]
  refine g_ireturn (t := .char) dj52_83_10 rfl (by simp) (congrArg Value.int (nar16 hci)) rfl rfl (⟨rfl, rfl⟩)
theorem met_chW {z : Int32} (hw : ∀ d ∈ tables_1, d.before a0 Z = true) (U : SU Z) (S : Sta Z Z.heap "java/lang/String" "COMPACT_STRINGS" "Z" (.int z)) (hz : ¬ z = 0) {fm : Value} (F : Sta Z Z.heap "jdk/internal/util/Preconditions" "SIOOBE_FORMATTER" "Ljava/util/function/BiFunction;" fm) (rf : fm.isRef = true) {x : Addr} {i : Nat} {cs : List Int32} (hi : i < cs.length) (T : Str Z h x cs) (hwide : ∃ c ∈ cs, (255 : Int32) < c) : MetW [] l yChA jdk_42_method_56_code 2 (some .char) (Rm 4 0 0 60) #[.ref x, .int (Int32.ofNat i)] Z a0 EL nw [] h (fun v h' => v = some (.int (cs.getD i 0)) ∧ h' = h) := by
  obtain ⟨E, t, kb, cd, N2, vs, V, C, B, hcod, hc, hn⟩ := T
  obtain ⟨rfl, rfl, rfl, -⟩ : cd = 1 ∧ N2 = Int32.ofNat (2 * cs.length) ∧ vs = wideB cs ∧ True := by
    rcases hcod with ⟨-, -, -, q⟩ | ⟨q1, q2, q3, -⟩
    · obtain ⟨c, m, q'⟩ := hwide
      exact absurd q' (q c m)
    · exact ⟨q1, q2, q3, trivial⟩
  have hci := hc (cs.getD i 0) (by simp [List.getD_eq_getElem?_getD, hi])
  refine MetW.of (plainFor_of_name (by first | (simp [plainName, overriddenIn]; done) | decide +kernel)) fun X hX => Go.old fun EZ => ?_
  show Go X _ _ _ _ _ _ _ _ _ _ _ _ _ _ _ _ (mkF X.m 0 #[.val (.ref x), .val (.int (Int32.ofNat i))] [])
  refine g_aloadN (pc' := 1) dj42_56_0 rfl rfl rfl ?_
  refine g_invokevirtual (pc' := 4) [] [] dj42_56_1 rfl (wl_String_492 hw) (wd_String_isLatin1_lrZ hw) (wv_String_String_isLatin1_lrZ hw) (wm_String_isLatin1_lrZ hw) (by decide) (E) (Pay.of_met (met_isW hw S hz C) (wb_String_isLatin1_lrZ hw) (wi_String hw) rfl rfl) pd_lrZ rfl rfl rfl rfl rfl (fun _ q => nomatch q) fun v1 h1 q1 l1 => ?_
  obtain ⟨rfl, rfl⟩ := q1
  refine g_ifeq (pc' := 7) (pc2 := 16) dj42_56_4 rfl (by decide) rfl (fun c4 => False.elim (c4 rfl)) (fun c4 => ?_)
  refine g_aloadN (pc' := 17) dj42_56_16 rfl rfl rfl ?_
  refine g_getfield (pc' := 20) dj42_56_17 rfl (wf_String_9 hw) (V) ?_
  refine g_iloadN (pc' := 21) dj42_56_20 rfl rfl ?_
  refine g_invokestatic (pc' := 24) [] [_, _] dj42_56_21 rfl (wl_String_498 hw) (ws_StringUTF16_charAt_lABIrC hw) (wi_StringUTF16 hw) (wb_StringUTF16_charAt_lABIrC hw) (by decide) (Pay.of_met (met_UChA hw U F rf hi hn hc B) (wb_StringUTF16_charAt_lABIrC hw) (wi_StringUTF16 hw) rfl rfl) pd_lABIrC rfl rfl rfl rfl rfl (fun _ q => nomatch q) fun v21 h21 q21 l21 => ?_
  obtain ⟨rfl, rfl⟩ := q21
  refine g_ireturn (t := .char) dj42_56_24 rfl (by simp) (congrArg Value.int (nar16 hci)) rfl rfl (⟨rfl, rfl⟩)
theorem pay_chAny {z : Int32} (hw : ∀ d ∈ tables_1, d.before a0 Z = true) (U : SU Z) (S : Sta Z Z.heap "java/lang/String" "COMPACT_STRINGS" "Z" (.int z)) (hz : ¬ z = 0) {fm : Value} (F : Sta Z Z.heap "jdk/internal/util/Preconditions" "SIOOBE_FORMATTER" "Ljava/util/function/BiFunction;" fm) (rf : fm.isRef = true) (EZ : Ext Z.heap h) {x : Addr} {i : Nat} {cs : List Int32} (hi : i < cs.length) (T : Str Z h x cs) (hf : Nat.ble 5 R.frames = true) (hl : Nat.ble (W + 73) R.locals = true) :
    Pay l R yChA W #[.ref x, .int (Int32.ofNat i)] Z a0 EL nw [] h 0 0 (fun v h' => v = some (.int (cs.getD i 0)) ∧ h' = h) := by
  by_cases q : ∃ c ∈ cs, (255 : Int32) < c
  · exact Pay.of_met (met_chW hw U S hz F rf hi T q) (wb_String_charAt_lIrC hw) (wi_String hw) hf (by exact hl)
  · have h5 := ble hf
    have h6 := ble hl
    exact pay_ch (own_ch hw) (wn_String hw) S hz F rf EZ T (fun c hc u => q ⟨c, hc, u⟩) hi rfl (bl (by omega)) (bl (by omega))
end Ch16
abbrev yDraw : MethodName := ⟨"com/example/streetd/streetd/web/Utf16IsWellFormedPinLaw", "draw", "(I)C"⟩
abbrev yHigh : MethodName := ⟨"com/example/streetd/streetd/web/Utf16IsWellFormedPinLaw", "high", "(C)Z"⟩
abbrev yLow : MethodName := ⟨"com/example/streetd/streetd/web/Utf16IsWellFormedPinLaw", "low", "(C)Z"⟩
abbrev yLone : MethodName := ⟨"com/example/streetd/streetd/web/Utf16IsWellFormedPinLaw", "lone", "([CII)Z"⟩
abbrev yIsSur : MethodName := ⟨"java/lang/Character", "isSurrogate", "(C)Z"⟩
abbrev yIsHi : MethodName := ⟨"java/lang/Character", "isHighSurrogate", "(C)Z"⟩
abbrev yIsLo : MethodName := ⟨"java/lang/Character", "isLowSurrogate", "(C)Z"⟩
abbrev yLS : MethodName := ⟨"com/example/streetd/streetd/web/Utf16", "loneSurrogate", "(Ljava/lang/CharSequence;I)I"⟩
abbrev yWF : MethodName := ⟨"com/example/streetd/streetd/web/Utf16", "isWellFormed", "(Ljava/lang/CharSequence;)Z"⟩
abbrev ok16 (c : Int32) : Prop := ¬ c < 0 ∧ ¬ (65535 : Int32) < c
/-- 1: a high surrogate; 2: a low one; 0: any other -/
def cls (c : Int32) : Fin 3 := if c < 55296 then 0 else if c < 56320 then 1 else if c < 57344 then 2 else 0
theorem cls1 (c : Int32) : cls c = 1 ↔ ¬ c < 55296 ∧ c < 56320 := by
  unfold cls
  by_cases h1 : c < 55296
  · simp [h1]
  · by_cases h2 : c < 56320
    · simp [h1, h2]
    · by_cases h3 : c < 57344 <;> simp [h1, h2, h3]
theorem cls2 (c : Int32) : cls c = 2 ↔ ¬ c < 56320 ∧ c < 57344 := by
  unfold cls
  by_cases h1 : c < 55296
  · have : c < 56320 := by
      rw [Int32.lt_iff_toInt_lt] at h1 ⊢
      have e1 : (55296 : Int32).toInt = 55296 := rfl
      have e2 : (56320 : Int32).toInt = 56320 := rfl
      omega
    simp [h1, this]
  · by_cases h2 : c < 56320
    · simp [h1, h2]
    · by_cases h3 : c < 57344 <;> simp [h1, h2, h3]
theorem cls0 (c : Int32) : cls c ≠ 0 ↔ ¬ c < 55296 ∧ c < 57344 := by
  unfold cls
  by_cases h1 : c < 55296
  · simp [h1]
  · by_cases h2 : c < 56320
    · have : c < 57344 := by
        rw [Int32.lt_iff_toInt_lt] at h2 ⊢
        have e1 : (57344 : Int32).toInt = 57344 := rfl
        have e2 : (56320 : Int32).toInt = 56320 := rfl
        omega
      simp [h1, h2, this]
    · by_cases h3 : c < 57344 <;> simp [h1, h2, h3]
theorem le_lt (c : Int32) (a : Int32) (h : a.toInt + 1 < 2147483648) : ¬ a < c ↔ c < a + 1 := by
  rw [Int32.lt_iff_toInt_lt, Int32.lt_iff_toInt_lt]
  have hb := a.le_toInt
  have e : (a + 1).toInt = a.toInt + 1 := by
    rw [Int32.toInt_add]
    have e1 : (1 : Int32).toInt = 1 := rfl
    rw [e1]
    exact Int.bmod_eq_of_le (by omega) (by omega)
  rw [e]; omega
section Law
variable {l : Launch} {Z : State} {a0 : Array Value} {h : Heap} {z : Int32} {fm : Value}
theorem met_draw (hw : ∀ d ∈ tables_1, d.before a0 Z = true) (x : Int32) : MetW [] l yDraw method_3_code 1 (some .char) (Rm 0 0 0 0) #[.int x] Z a0 consts_1 false [] h (fun v h' => ∃ c, v = some (.int c) ∧ ok16 c ∧ h' = h) := by
  refine MetW.of (plainFor_of_name (by first | (simp [plainName, overriddenIn]; done) | decide +kernel)) fun X hX => Go.old fun EZ => ?_
  show Go X _ _ _ _ _ _ _ _ _ _ _ _ _ _ _ _ (mkF X.m 0 #[.val (.int x)] [])
  refine g_iloadN (pc' := 1) dm3_0 rfl rfl ?_
  refine g_ldcI (pc' := 3) dm3_1 rfl (wk_Utf16IsWellFormedPinLaw_29 hw) ?_
  refine g_iand (pc' := 4) dm3_3 rfl ?_
  refine g_ifeq (pc' := 7) (pc2 := 17) dm3_4 rfl (by decide) rfl (fun c4 => ?_) (fun c4 => ?_)
  · refine g_ldcI (pc' := 9) dm3_7 rfl (wk_Utf16IsWellFormedPinLaw_30 hw) ?_
    refine g_iloadN (pc' := 10) dm3_9 rfl rfl ?_
    refine g_sipush (pc' := 13) (w := 2047) dm3_10 rfl (by decide) ?_
    refine g_iand (pc' := 14) dm3_13 rfl ?_
    refine g_iadd (pc' := 15) dm3_14 rfl ?_
    refine g_i2c (pc' := 16) dm3_15 rfl ?_
    refine g_ireturn (t := .char) dm3_16 rfl (by simp) (congrArg Value.int (nar_idem _)) rfl rfl (⟨_, rfl, c16_range _, rfl⟩)
  · refine g_iloadN (pc' := 18) dm3_17 rfl rfl ?_
    refine g_ldcI (pc' := 20) dm3_18 rfl (wk_Utf16IsWellFormedPinLaw_31 hw) ?_
    refine g_iand (pc' := 21) dm3_20 rfl ?_
    refine g_i2c (pc' := 22) dm3_21 rfl ?_
    refine g_ireturn (t := .char) dm3_22 rfl (by simp) (congrArg Value.int (nar_idem _)) rfl rfl (⟨_, rfl, c16_range _, rfl⟩)
theorem met_high (hw : ∀ d ∈ tables_1, d.before a0 Z = true) (c : Int32) : MetW [] l yHigh method_4_code 1 (some .boolean) (Rm 0 0 0 0) #[.int c] Z a0 consts_1 false [] h (fun v h' => v = some (.int (b01 (decide (cls c = 1)))) ∧ h' = h) := by
  refine MetW.of (plainFor_of_name (by first | (simp [plainName, overriddenIn]; done) | decide +kernel)) fun X hX => Go.old fun EZ => ?_
  show Go X _ _ _ _ _ _ _ _ _ _ _ _ _ _ _ _ (mkF X.m 0 #[.val (.int c)] [])
  refine g_iloadN (pc' := 1) dm4_0 rfl rfl ?_
  refine g_ldcI (pc' := 3) dm4_1 rfl (wk_Utf16IsWellFormedPinLaw_30 hw) ?_
  refine g_icmplt (pc' := 6) (pc2 := 16) dm4_3 rfl (by decide) rfl (fun c3 => ?_) (fun c3 => ?_)
  · refine g_iloadN (pc' := 7) dm4_6 rfl rfl ?_
    refine g_ldcI (pc' := 9) dm4_7 rfl (wk_Utf16IsWellFormedPinLaw_32 hw) ?_
    refine g_icmpgt (pc' := 12) (pc2 := 16) dm4_9 rfl (by decide) rfl (fun c9 => ?_) (fun c9 => ?_)
    · refine g_iconst (pc' := 13) (w := 1) dm4_12 rfl (by decide) ?_
      refine g_goto (pc' := 17) dm4_13 (by decide) rfl ?_
      refine g_ireturn (t := .boolean) dm4_17 rfl (by simp) rfl rfl rfl (⟨by rw [decide_eq_true ((cls1 c).mpr ⟨c3, (le_lt c 56319 (by decide)).mp c9⟩)]; rfl, rfl⟩)
    · refine g_iconst (pc' := 17) (w := 0) dm4_16 rfl (by decide) ?_
      refine g_ireturn (t := .boolean) dm4_17 rfl (by simp) rfl rfl rfl (⟨by rw [decide_eq_false (fun q => (le_lt c 56319 (by decide)).mpr ((cls1 c).mp q).2 c9)]; rfl, rfl⟩)
  · refine g_iconst (pc' := 17) (w := 0) dm4_16 rfl (by decide) ?_
    refine g_ireturn (t := .boolean) dm4_17 rfl (by simp) rfl rfl rfl (⟨by rw [decide_eq_false (fun q => ((cls1 c).mp q).1 c3)]; rfl, rfl⟩)
theorem met_low (hw : ∀ d ∈ tables_1, d.before a0 Z = true) (c : Int32) : MetW [] l yLow method_5_code 1 (some .boolean) (Rm 0 0 0 0) #[.int c] Z a0 consts_1 false [] h (fun v h' => v = some (.int (b01 (decide (cls c = 2)))) ∧ h' = h) := by
  refine MetW.of (plainFor_of_name (by first | (simp [plainName, overriddenIn]; done) | decide +kernel)) fun X hX => Go.old fun EZ => ?_
  show Go X _ _ _ _ _ _ _ _ _ _ _ _ _ _ _ _ (mkF X.m 0 #[.val (.int c)] [])
  refine g_iloadN (pc' := 1) dm5_0 rfl rfl ?_
  refine g_ldcI (pc' := 3) dm5_1 rfl (wk_Utf16IsWellFormedPinLaw_33 hw) ?_
  refine g_icmplt (pc' := 6) (pc2 := 16) dm5_3 rfl (by decide) rfl (fun c3 => ?_) (fun c3 => ?_)
  · refine g_iloadN (pc' := 7) dm5_6 rfl rfl ?_
    refine g_ldcI (pc' := 9) dm5_7 rfl (wk_Utf16IsWellFormedPinLaw_34 hw) ?_
    refine g_icmpgt (pc' := 12) (pc2 := 16) dm5_9 rfl (by decide) rfl (fun c9 => ?_) (fun c9 => ?_)
    · refine g_iconst (pc' := 13) (w := 1) dm5_12 rfl (by decide) ?_
      refine g_goto (pc' := 17) dm5_13 (by decide) rfl ?_
      refine g_ireturn (t := .boolean) dm5_17 rfl (by simp) rfl rfl rfl (⟨by rw [decide_eq_true ((cls2 c).mpr ⟨c3, (le_lt c 57343 (by decide)).mp c9⟩)]; rfl, rfl⟩)
    · refine g_iconst (pc' := 17) (w := 0) dm5_16 rfl (by decide) ?_
      refine g_ireturn (t := .boolean) dm5_17 rfl (by simp) rfl rfl rfl (⟨by rw [decide_eq_false (fun q => (le_lt c 57343 (by decide)).mpr ((cls2 c).mp q).2 c9)]; rfl, rfl⟩)
  · refine g_iconst (pc' := 17) (w := 0) dm5_16 rfl (by decide) ?_
    refine g_ireturn (t := .boolean) dm5_17 rfl (by simp) rfl rfl rfl (⟨by rw [decide_eq_false (fun q => ((cls2 c).mp q).1 c3)]; rfl, rfl⟩)
theorem met_isSur (hw : ∀ d ∈ tables_1, d.before a0 Z = true) (c : Int32) : MetW [] l yIsSur jdk_89_method_16_code 1 (some .boolean) (Rm 0 0 0 0) #[.int c] Z a0 consts_1 false [] h (fun v h' => v = some (.int (b01 (decide (cls c ≠ 0)))) ∧ h' = h) := by
  refine MetW.of (plainFor_of_name (by first | (simp [plainName, overriddenIn]; done) | decide +kernel)) fun X hX => Go.old fun EZ => ?_
  show Go X _ _ _ _ _ _ _ _ _ _ _ _ _ _ _ _ (mkF X.m 0 #[.val (.int c)] [])
  refine g_iloadN (pc' := 1) dj89_16_0 rfl rfl ?_
  refine g_ldcI (pc' := 3) dj89_16_1 rfl (wk_Character_75 hw) ?_
  refine g_icmplt (pc' := 6) (pc2 := 16) dj89_16_3 rfl (by decide) rfl (fun c3 => ?_) (fun c3 => ?_)
  · refine g_iloadN (pc' := 7) dj89_16_6 rfl rfl ?_
    refine g_ldcI (pc' := 9) dj89_16_7 rfl (wk_Character_77 hw) ?_
    refine g_icmpge (pc' := 12) (pc2 := 16) dj89_16_9 rfl (by decide) rfl (fun c9 => ?_) (fun c9 => ?_)
    · refine g_iconst (pc' := 13) (w := 1) dj89_16_12 rfl (by decide) ?_
      refine g_goto (pc' := 17) dj89_16_13 (by decide) rfl ?_
      refine g_ireturn (t := .boolean) dj89_16_17 rfl (by simp) rfl rfl rfl (⟨by rw [decide_eq_true ((cls0 c).mpr ⟨c3, c9⟩)]; rfl, rfl⟩)
    · refine g_iconst (pc' := 17) (w := 0) dj89_16_16 rfl (by decide) ?_
      refine g_ireturn (t := .boolean) dj89_16_17 rfl (by simp) rfl rfl rfl (⟨by rw [decide_eq_false (fun q => c9 ((cls0 c).mp q).2)]; rfl, rfl⟩)
  · refine g_iconst (pc' := 17) (w := 0) dj89_16_16 rfl (by decide) ?_
    refine g_ireturn (t := .boolean) dj89_16_17 rfl (by simp) rfl rfl rfl (⟨by rw [decide_eq_false (fun q => ((cls0 c).mp q).1 c3)]; rfl, rfl⟩)
theorem met_isHi (hw : ∀ d ∈ tables_1, d.before a0 Z = true) (c : Int32) : MetW [] l yIsHi jdk_89_method_14_code 1 (some .boolean) (Rm 0 0 0 0) #[.int c] Z a0 consts_1 false [] h (fun v h' => v = some (.int (b01 (decide (cls c = 1)))) ∧ h' = h) := by
  refine MetW.of (plainFor_of_name (by first | (simp [plainName, overriddenIn]; done) | decide +kernel)) fun X hX => Go.old fun EZ => ?_
  show Go X _ _ _ _ _ _ _ _ _ _ _ _ _ _ _ _ (mkF X.m 0 #[.val (.int c)] [])
  refine g_iloadN (pc' := 1) dj89_14_0 rfl rfl ?_
  refine g_ldcI (pc' := 3) dj89_14_1 rfl (wk_Character_75 hw) ?_
  refine g_icmplt (pc' := 6) (pc2 := 16) dj89_14_3 rfl (by decide) rfl (fun c3 => ?_) (fun c3 => ?_)
  · refine g_iloadN (pc' := 7) dj89_14_6 rfl rfl ?_
    refine g_ldcI (pc' := 9) dj89_14_7 rfl (wk_Character_76 hw) ?_
    refine g_icmpge (pc' := 12) (pc2 := 16) dj89_14_9 rfl (by decide) rfl (fun c9 => ?_) (fun c9 => ?_)
    · refine g_iconst (pc' := 13) (w := 1) dj89_14_12 rfl (by decide) ?_
      refine g_goto (pc' := 17) dj89_14_13 (by decide) rfl ?_
      refine g_ireturn (t := .boolean) dj89_14_17 rfl (by simp) rfl rfl rfl (⟨by rw [decide_eq_true ((cls1 c).mpr ⟨c3, c9⟩)]; rfl, rfl⟩)
    · refine g_iconst (pc' := 17) (w := 0) dj89_14_16 rfl (by decide) ?_
      refine g_ireturn (t := .boolean) dj89_14_17 rfl (by simp) rfl rfl rfl (⟨by rw [decide_eq_false (fun q => c9 ((cls1 c).mp q).2)]; rfl, rfl⟩)
  · refine g_iconst (pc' := 17) (w := 0) dj89_14_16 rfl (by decide) ?_
    refine g_ireturn (t := .boolean) dj89_14_17 rfl (by simp) rfl rfl rfl (⟨by rw [decide_eq_false (fun q => ((cls1 c).mp q).1 c3)]; rfl, rfl⟩)
theorem met_isLo (hw : ∀ d ∈ tables_1, d.before a0 Z = true) (c : Int32) : MetW [] l yIsLo jdk_89_method_15_code 1 (some .boolean) (Rm 0 0 0 0) #[.int c] Z a0 consts_1 false [] h (fun v h' => v = some (.int (b01 (decide (cls c = 2)))) ∧ h' = h) := by
  refine MetW.of (plainFor_of_name (by first | (simp [plainName, overriddenIn]; done) | decide +kernel)) fun X hX => Go.old fun EZ => ?_
  show Go X _ _ _ _ _ _ _ _ _ _ _ _ _ _ _ _ (mkF X.m 0 #[.val (.int c)] [])
  refine g_iloadN (pc' := 1) dj89_15_0 rfl rfl ?_
  refine g_ldcI (pc' := 3) dj89_15_1 rfl (wk_Character_76 hw) ?_
  refine g_icmplt (pc' := 6) (pc2 := 16) dj89_15_3 rfl (by decide) rfl (fun c3 => ?_) (fun c3 => ?_)
  · refine g_iloadN (pc' := 7) dj89_15_6 rfl rfl ?_
    refine g_ldcI (pc' := 9) dj89_15_7 rfl (wk_Character_77 hw) ?_
    refine g_icmpge (pc' := 12) (pc2 := 16) dj89_15_9 rfl (by decide) rfl (fun c9 => ?_) (fun c9 => ?_)
    · refine g_iconst (pc' := 13) (w := 1) dj89_15_12 rfl (by decide) ?_
      refine g_goto (pc' := 17) dj89_15_13 (by decide) rfl ?_
      refine g_ireturn (t := .boolean) dj89_15_17 rfl (by simp) rfl rfl rfl (⟨by rw [decide_eq_true ((cls2 c).mpr ⟨c3, c9⟩)]; rfl, rfl⟩)
    · refine g_iconst (pc' := 17) (w := 0) dj89_15_16 rfl (by decide) ?_
      refine g_ireturn (t := .boolean) dj89_15_17 rfl (by simp) rfl rfl rfl (⟨by rw [decide_eq_false (fun q => c9 ((cls2 c).mp q).2)]; rfl, rfl⟩)
  · refine g_iconst (pc' := 17) (w := 0) dj89_15_16 rfl (by decide) ?_
    refine g_ireturn (t := .boolean) dj89_15_17 rfl (by simp) rfl rfl rfl (⟨by rw [decide_eq_false (fun q => ((cls2 c).mp q).1 c3)]; rfl, rfl⟩)
/-- the law's own lone, over the classes -/
def loneK (ks : List (Fin 3)) (i : Nat) : Bool :=
  decide (i < ks.length) && (if ks.getD i 0 = 1 then !(decide (i + 1 < ks.length) && decide (ks.getD (i + 1) 0 = 2)) else if ks.getD i 0 = 2 then !(decide (0 < i) && decide (ks.getD (i - 1) 0 = 1)) else false)
theorem cls_getD (cs : List Int32) (i : Nat) : (cs.map cls).getD i 0 = cls (cs.getD i 0) := by
  by_cases h : i < cs.length
  · simp [List.getD_eq_getElem?_getD, h]
  · simp [List.getD_eq_getElem?_getD, h]
    rfl
theorem take_getD {ts : List Int32} {i j : Nat} (h : i < j) : (ts.take j).getD i 0 = ts.getD i 0 := by
  simp [List.getD_eq_getElem?_getD, List.getElem?_take, h]
theorem add1 (a : Nat) : Int32.ofNat a + 1 = Int32.ofNat (a + 1) := ofNat_succ a
theorem sub1 {a : Nat} (h : 0 < a) (h2 : a < 2147483648) : Int32.ofNat a - 1 = Int32.ofNat (a - 1) := by
  obtain ⟨b, rfl⟩ : ∃ b, a = b + 1 := ⟨a - 1, by omega⟩
  rw [← add1]
  simp
theorem met_lone (hw : ∀ d ∈ tables_1, d.before a0 Z = true) {arr : Addr} {kA : ClassId} {d : Value} {ts : List Int32} {i j : Nat} (hts : ts.length = 4) (hj : j ≤ 4) (hi : i < 4) (A : Arv Z h arr kA .char 4 (ts.map Value.int) d) :
    MetW [] l yLone method_6_code 4 (some .boolean) (Rm 1 0 0 12) #[.ref arr, .int (Int32.ofNat j), .int (Int32.ofNat i)] Z a0 consts_1 false [] h (fun v h' => v = some (.int (b01 (loneK ((ts.take j).map cls) i))) ∧ h' = h) := by
  have hlen : ((ts.take j).map cls).length = j := by rw [List.length_map, List.length_take]; omega
  refine MetW.of (plainFor_of_name (by first | (simp [plainName, overriddenIn]; done) | decide +kernel)) fun X hX => Go.old fun EZ => ?_
  show Go X _ _ _ _ _ _ _ _ _ _ _ _ _ _ _ _ (mkF X.m 0 #[.val (.ref arr), .val (.int (Int32.ofNat j)), .val (.int (Int32.ofNat i)), .unset] [])
  refine g_iloadN (pc' := 1) dm6_0 rfl rfl ?_
  refine g_iloadN (pc' := 2) dm6_1 rfl rfl ?_
  refine g_icmplt (pc' := 5) (pc2 := 7) dm6_2 rfl (by decide) rfl (fun c2 => ?_) (fun c2 => ?_)
  · have hij : ¬ i < j := fun q => c2 ((ofNat_lt (by omega) (by omega)).mpr q)
    refine g_iconst (pc' := 6) (w := 0) dm6_5 rfl (by decide) ?_
    refine g_ireturn (t := .boolean) dm6_6 rfl (by simp) rfl rfl rfl (⟨by rw [loneK, hlen, decide_eq_false hij]; rfl, rfl⟩)
  · have hij : i < j := (ofNat_lt (by omega) (by omega)).mp c2
    have ei : ((ts.take j).map cls).getD i 0 = cls (ts.getD i 0) := by rw [cls_getD, take_getD hij]
    refine g_aloadN (pc' := 8) dm6_7 rfl rfl rfl ?_
    refine g_iloadN (pc' := 9) dm6_8 rfl rfl ?_
    refine g_caload (pc' := 10) (w := ts.getD i 0) dm6_9 rfl (A) (⟨ofNat_nn (by omega), (ofNat_lt (b := 4) (by omega) (by decide)).mpr hi⟩) (by rw [ofNat_clamp (by omega)]; exact own_ch_at (by omega)) ?_
    refine g_istoreN (pc' := 11) (Ls' := #[_, _, _, _]) dm6_10 rfl rfl ?_
    refine g_iloadN (pc' := 12) dm6_11 rfl rfl ?_
    refine g_invokestatic (pc' := 15) [] [_] dm6_12 rfl (wl_Utf16IsWellFormedPinLaw_35 hw) (ws_Utf16IsWellFormedPinLaw_high_lCrZ hw) (wi_Utf16IsWellFormedPinLaw hw) (wb_Utf16IsWellFormedPinLaw_high_lCrZ hw) (by decide) (Pay.of_met (met_high hw _) (wb_Utf16IsWellFormedPinLaw_high_lCrZ hw) (wi_Utf16IsWellFormedPinLaw hw) rfl rfl) pd_lCrZ rfl rfl rfl rfl rfl (fun _ q => nomatch q) fun v12 h12 q12 l12 => ?_
    obtain ⟨rfl, rfl⟩ := q12
    by_cases q1 : cls (ts.getD i 0) = 1
    · rw [decide_eq_true q1]
      refine g_ifeq (pc' := 18) (pc2 := 42) dm6_15 rfl (by decide) rfl (fun c15 => ?_) (fun c15 => False.elim (absurd c15 (by decide)))
      refine g_iloadN (pc' := 19) dm6_18 rfl rfl ?_
      refine g_iconst (pc' := 20) (w := 1) dm6_19 rfl (by decide) ?_
      refine g_iadd (pc' := 21) dm6_20 rfl ?_
      rw [add1]
      refine g_iloadN (pc' := 22) dm6_21 rfl rfl ?_
      refine g_icmpge (pc' := 25) (pc2 := 36) dm6_22 rfl (by decide) rfl (fun c22 => ?_) (fun c22 => ?_)
      · have h1 : i + 1 < j := (ofNat_lt (by omega) (by omega)).mp c22
        refine g_aloadN (pc' := 26) dm6_25 rfl rfl rfl ?_
        refine g_iloadN (pc' := 27) dm6_26 rfl rfl ?_
        refine g_iconst (pc' := 28) (w := 1) dm6_27 rfl (by decide) ?_
        refine g_iadd (pc' := 29) dm6_28 rfl ?_
        rw [add1]
        refine g_caload (pc' := 30) (w := ts.getD (i + 1) 0) dm6_29 rfl (A) (⟨ofNat_nn (by omega), (ofNat_lt (b := 4) (by omega) (by decide)).mpr (by omega)⟩) (by rw [ofNat_clamp (by omega)]; exact own_ch_at (by omega)) ?_
        refine g_invokestatic (pc' := 33) [] [_] dm6_30 rfl (wl_Utf16IsWellFormedPinLaw_39 hw) (ws_Utf16IsWellFormedPinLaw_low_lCrZ hw) (wi_Utf16IsWellFormedPinLaw hw) (wb_Utf16IsWellFormedPinLaw_low_lCrZ hw) (by decide) (Pay.of_met (met_low hw _) (wb_Utf16IsWellFormedPinLaw_low_lCrZ hw) (wi_Utf16IsWellFormedPinLaw hw) rfl rfl) pd_lCrZ rfl rfl rfl rfl rfl (fun _ q => nomatch q) fun v30 h30 q30 l30 => ?_
        obtain ⟨rfl, rfl⟩ := q30
        have e1 : ((ts.take j).map cls).getD (i + 1) 0 = cls (ts.getD (i + 1) 0) := by rw [cls_getD, take_getD h1]
        by_cases q2 : cls (ts.getD (i + 1) 0) = 2
        · rw [decide_eq_true q2]
          refine g_ifne (pc' := 36) (pc2 := 40) dm6_33 rfl (by decide) rfl (fun c33 => False.elim (absurd c33 (by decide))) (fun c33 => ?_)
          refine g_iconst (pc' := 41) (w := 0) dm6_40 rfl (by decide) ?_
          refine g_ireturn (t := .boolean) dm6_41 rfl (by simp) rfl rfl rfl (⟨by rw [loneK, hlen, ei, e1, if_pos q1, decide_eq_true hij, decide_eq_true h1, decide_eq_true q2]; rfl, rfl⟩)
        · rw [decide_eq_false q2]
          refine g_ifne (pc' := 36) (pc2 := 40) dm6_33 rfl (by decide) rfl (fun c33 => ?_) (fun c33 => False.elim (c33 rfl))
          refine g_iconst (pc' := 37) (w := 1) dm6_36 rfl (by decide) ?_
          refine g_goto (pc' := 41) dm6_37 (by decide) rfl ?_
          refine g_ireturn (t := .boolean) dm6_41 rfl (by simp) rfl rfl rfl (⟨by rw [loneK, hlen, ei, e1, if_pos q1, decide_eq_true hij, decide_eq_true h1, decide_eq_false q2]; rfl, rfl⟩)
      · have h1 : ¬ i + 1 < j := fun q => c22 ((ofNat_lt (by omega) (by omega)).mpr q)
        refine g_iconst (pc' := 37) (w := 1) dm6_36 rfl (by decide) ?_
        refine g_goto (pc' := 41) dm6_37 (by decide) rfl ?_
        refine g_ireturn (t := .boolean) dm6_41 rfl (by simp) rfl rfl rfl (⟨by rw [loneK, hlen, ei, if_pos q1, decide_eq_true hij, decide_eq_false h1]; rfl, rfl⟩)
    · rw [decide_eq_false q1]
      refine g_ifeq (pc' := 18) (pc2 := 42) dm6_15 rfl (by decide) rfl (fun c15 => False.elim (c15 rfl)) (fun c15 => ?_)
      refine g_iloadN (pc' := 43) dm6_42 rfl rfl ?_
      refine g_invokestatic (pc' := 46) [] [_] dm6_43 rfl (wl_Utf16IsWellFormedPinLaw_39 hw) (ws_Utf16IsWellFormedPinLaw_low_lCrZ hw) (wi_Utf16IsWellFormedPinLaw hw) (wb_Utf16IsWellFormedPinLaw_low_lCrZ hw) (by decide) (Pay.of_met (met_low hw _) (wb_Utf16IsWellFormedPinLaw_low_lCrZ hw) (wi_Utf16IsWellFormedPinLaw hw) rfl rfl) pd_lCrZ rfl rfl rfl rfl rfl (fun _ q => nomatch q) fun v43 h43 q43 l43 => ?_
      obtain ⟨rfl, rfl⟩ := q43
      by_cases q2 : cls (ts.getD i 0) = 2
      · rw [decide_eq_true q2]
        refine g_ifeq (pc' := 49) (pc2 := 70) dm6_46 rfl (by decide) rfl (fun c46 => ?_) (fun c46 => False.elim (absurd c46 (by decide)))
        refine g_iloadN (pc' := 50) dm6_49 rfl rfl ?_
        refine g_ifle (pc' := 53) (pc2 := 64) dm6_50 rfl (by decide) rfl (fun c50 => ?_) (fun c50 => ?_)
        · have h1 : 0 < i := (ofNat_lt (a := 0) (by decide) (by omega)).mp c50
          refine g_aloadN (pc' := 54) dm6_53 rfl rfl rfl ?_
          refine g_iloadN (pc' := 55) dm6_54 rfl rfl ?_
          refine g_iconst (pc' := 56) (w := 1) dm6_55 rfl (by decide) ?_
          refine g_isub (pc' := 57) dm6_56 rfl ?_
          rw [sub1 h1 (by omega)]
          refine g_caload (pc' := 58) (w := ts.getD (i - 1) 0) dm6_57 rfl (A) (⟨ofNat_nn (by omega), (ofNat_lt (b := 4) (by omega) (by decide)).mpr (by omega)⟩) (by rw [ofNat_clamp (by omega)]; exact own_ch_at (by omega)) ?_
          refine g_invokestatic (pc' := 61) [] [_] dm6_58 rfl (wl_Utf16IsWellFormedPinLaw_35 hw) (ws_Utf16IsWellFormedPinLaw_high_lCrZ hw) (wi_Utf16IsWellFormedPinLaw hw) (wb_Utf16IsWellFormedPinLaw_high_lCrZ hw) (by decide) (Pay.of_met (met_high hw _) (wb_Utf16IsWellFormedPinLaw_high_lCrZ hw) (wi_Utf16IsWellFormedPinLaw hw) rfl rfl) pd_lCrZ rfl rfl rfl rfl rfl (fun _ q => nomatch q) fun v58 h58 q58 l58 => ?_
          obtain ⟨rfl, rfl⟩ := q58
          have e1 : ((ts.take j).map cls).getD (i - 1) 0 = cls (ts.getD (i - 1) 0) := by rw [cls_getD, take_getD (by omega)]
          by_cases q3 : cls (ts.getD (i - 1) 0) = 1
          · rw [decide_eq_true q3]
            refine g_ifne (pc' := 64) (pc2 := 68) dm6_61 rfl (by decide) rfl (fun c61 => False.elim (absurd c61 (by decide))) (fun c61 => ?_)
            refine g_iconst (pc' := 69) (w := 0) dm6_68 rfl (by decide) ?_
            refine g_ireturn (t := .boolean) dm6_69 rfl (by simp) rfl rfl rfl (⟨by rw [loneK, hlen, ei, e1, if_neg q1, if_pos q2, decide_eq_true hij, decide_eq_true h1, decide_eq_true q3]; rfl, rfl⟩)
          · rw [decide_eq_false q3]
            refine g_ifne (pc' := 64) (pc2 := 68) dm6_61 rfl (by decide) rfl (fun c61 => ?_) (fun c61 => False.elim (c61 rfl))
            refine g_iconst (pc' := 65) (w := 1) dm6_64 rfl (by decide) ?_
            refine g_goto (pc' := 69) dm6_65 (by decide) rfl ?_
            refine g_ireturn (t := .boolean) dm6_69 rfl (by simp) rfl rfl rfl (⟨by rw [loneK, hlen, ei, e1, if_neg q1, if_pos q2, decide_eq_true hij, decide_eq_true h1, decide_eq_false q3]; rfl, rfl⟩)
        · have h1 : ¬ 0 < i := fun q => c50 ((ofNat_lt (a := 0) (by decide) (by omega)).mpr q)
          refine g_iconst (pc' := 65) (w := 1) dm6_64 rfl (by decide) ?_
          refine g_goto (pc' := 69) dm6_65 (by decide) rfl ?_
          refine g_ireturn (t := .boolean) dm6_69 rfl (by simp) rfl rfl rfl (⟨by rw [loneK, hlen, ei, if_neg q1, if_pos q2, decide_eq_true hij, decide_eq_false h1]; rfl, rfl⟩)
      · rw [decide_eq_false q2]
        refine g_ifeq (pc' := 49) (pc2 := 70) dm6_46 rfl (by decide) rfl (fun c46 => False.elim (c46 rfl)) (fun c46 => ?_)
        refine g_iconst (pc' := 71) (w := 0) dm6_70 rfl (by decide) ?_
        refine g_ireturn (t := .boolean) dm6_71 rfl (by simp) rfl rfl rfl (⟨by rw [loneK, hlen, ei, if_neg q1, if_neg q2, decide_eq_true hij]; rfl, rfl⟩)
end Law
/-- what loneSurrogate's loop finds from i on (f: turns left) -/
def scanK (ks : List (Fin 3)) : Nat → Nat → Bool
  | 0, _ => false
  | f + 1, i => if i < ks.length then (if ks.getD i 0 ≠ 0 then (if ks.getD i 0 = 1 ∧ i + 1 < ks.length ∧ ks.getD (i + 1) 0 = 2 then scanK ks f (i + 2) else if ks.getD i 0 = 2 ∧ 0 < i ∧ ks.getD (i - 1) 0 = 1 then scanK ks f (i + 1) else true) else scanK ks f (i + 1)) else false
theorem own_scan (ks : List (Fin 3)) (hl : ks.length ≤ 4) : scanK ks 5 0 = (loneK ks 0 || loneK ks 1 || loneK ks 2 || loneK ks 3) := by
  rcases ks with _ | ⟨e0, _ | ⟨e1, _ | ⟨e2, _ | ⟨e3, _ | ⟨e4, r⟩⟩⟩⟩⟩
  · decide
  · revert e0; decide
  · revert e0 e1; decide
  · revert e0 e1 e2; decide
  · revert e0 e1 e2 e3; decide +kernel
  · simp at hl
/-- an int's slot, or an unset one -/
def In (o : Slot) : Prop := o = .unset ∨ ∃ q, o = .val (.int q)
theorem In.u : In .unset := Or.inl rfl
theorem In.i (q : Int32) : In (.val (.int q)) := Or.inr ⟨q, rfl⟩
theorem st3 {s : Addr} {b i : Int32} {o3 o4 o5 : Slot} (h3 : In o3) (h4 : In o4) (h5 : In o5) (q : Int32) :
    storeLocals #[.val (.ref s), .val (.int b), .val (.int i), o3, o4, o5] 3 (.int q) = some #[.val (.ref s), .val (.int b), .val (.int i), .val (.int q), o4, o5] ∧ storeLocals #[.val (.ref s), .val (.int b), .val (.int i), o3, o4, o5] 4 (.int q) = some #[.val (.ref s), .val (.int b), .val (.int i), o3, .val (.int q), o5] ∧ storeLocals #[.val (.ref s), .val (.int b), .val (.int i), o3, o4, o5] 5 (.int q) = some #[.val (.ref s), .val (.int b), .val (.int i), o3, o4, .val (.int q)] ∧ storeLocals #[.val (.ref s), .val (.int b), .val (.int i), o3, o4, o5] 2 (.int q) = some #[.val (.ref s), .val (.int b), .val (.int q), o3, o4, o5] := by
  rcases h3 with rfl | ⟨q3, rfl⟩ <;> rcases h4 with rfl | ⟨q4, rfl⟩ <;> rcases h5 with rfl | ⟨q5, rfl⟩ <;> exact ⟨rfl, rfl, rfl, rfl⟩
section Law2
variable {l : Launch} {Z : State} {a0 : Array Value} {h : Heap} {z : Int32} {fm : Value}
theorem met_LS (hw : ∀ d ∈ tables_1, d.before a0 Z = true) (U : SU Z) (S : Sta Z Z.heap "java/lang/String" "COMPACT_STRINGS" "Z" (.int z)) (hz : ¬ z = 0) (F : Sta Z Z.heap "jdk/internal/util/Preconditions" "SIOOBE_FORMATTER" "Ljava/util/function/BiFunction;" fm) (rf : fm.isRef = true) {s : Addr} {cs : List Int32} (hn : cs.length ≤ 4) (T : Str Z h s cs) :
    MetW [] l yLS prog_28_method_4_code 6 (some .int) (Rm 5 0 0 73) #[.ref s, .int 0] Z a0 consts_1 false [] h (fun v h' => ∃ w, v = some (.int w) ∧ (w < 0 ↔ scanK (cs.map cls) 5 0 = false) ∧ h' = h) := by
  have hlen : (cs.map cls).length = cs.length := List.length_map ..
  refine MetW.of (plainFor_of_name (by first | (simp [plainName, overriddenIn]; done) | decide +kernel)) fun X hX => Go.old fun EZ => ?_
  show Go X _ _ _ _ _ _ _ _ _ _ _ _ _ _ _ _ (mkF X.m 0 #[.val (.ref s), .val (.int 0), .unset, .unset, .unset, .unset] [])
  refine g_iloadN (pc' := 1) dp28_4_0 rfl rfl ?_
  refine g_istoreN (pc' := 2) (Ls' := #[_, _, _, _, _, _]) dp28_4_1 rfl rfl ?_
  have loop : ∀ f i o3 o4 o5, cs.length < i + f → i ≤ cs.length + 1 → In o3 → In o4 → In o5 → scanK (cs.map cls) 5 0 = scanK (cs.map cls) f i →
      Go X (Rm 5 0 0 73) Z a0 consts_1 false yLS prog_28_method_4_code 6 (some .int) (fun v h' => ∃ w, v = some (.int w) ∧ (w < 0 ↔ scanK (cs.map cls) 5 0 = false) ∧ h' = h) (Rm 5 0 0 73).cells (Rm 5 0 0 73).slots [] h 0 0 (mkF X.m 2 #[.val (.ref s), .val (.int 0), .val (.int (Int32.ofNat i)), o3, o4, o5] []) := by
    intro f
    induction f with
    | zero =>
      intro i o3 o4 o5 hf hi h3 h4 h5 inv
      refine g_iloadN (pc' := 3) dp28_4_2 rfl rfl ?_
      refine g_aloadN (pc' := 4) dp28_4_3 rfl rfl rfl ?_
      refine g_invokeinterface (pc' := 9) [] [] dp28_4_4 rfl (wl_Utf16_23 hw) (wd_CharSequence_length_lrI hw) (wv_String_CharSequence_length_lrI hw) (wm_String_length_lrI hw) (wg_CharSequence_length_lrI hw) rfl (wp_String_length_lrI hw) (wu_String_length_lrI hw) (wx_String_CharSequence hw) (by decide) (T.exa) (pay_len (own_len hw) (wn_String hw) S hz EZ T rfl rfl) pd_lrI rfl rfl rfl rfl rfl (fun _ q => nomatch q) fun v4 h4 q4 l4 => ?_
      obtain ⟨rfl, e⟩ := q4; have e := e.symm; subst e
      refine g_icmpge (pc' := 12) (pc2 := 128) dp28_4_9 rfl (by decide) rfl (fun c9 => False.elim (absurd ((ofNat_lt (by omega) (by omega)).mp c9) (by omega))) (fun c9 => ?_)
      refine g_iconst (pc' := 129) (w := (-1)) dp28_4_128 rfl (by decide) ?_
      refine g_ireturn (t := .int) dp28_4_129 rfl (by simp) rfl rfl rfl (⟨_, rfl, by rw [inv]; exact ⟨fun _ => rfl, fun _ => by decide⟩, rfl⟩)
    | succ f ih =>
      intro i o3 o4 o5 hf hi h3 h4 h5 inv
      have J122 : ∀ i' o3 o4 o5, i' ≤ cs.length → cs.length < i' + 1 + f → In o3 → In o4 → In o5 → scanK (cs.map cls) 5 0 = scanK (cs.map cls) f (i' + 1) →
          Go X (Rm 5 0 0 73) Z a0 consts_1 false yLS prog_28_method_4_code 6 (some .int) (fun v h' => ∃ w, v = some (.int w) ∧ (w < 0 ↔ scanK (cs.map cls) 5 0 = false) ∧ h' = h) (Rm 5 0 0 73).cells (Rm 5 0 0 73).slots [] h 0 0 (mkF X.m 122 #[.val (.ref s), .val (.int 0), .val (.int (Int32.ofNat i')), o3, o4, o5] []) := by
        intro i' o3 o4 o5 hi' hf' h3 h4 h5 inv
        refine g_iinc (pc' := 125) (Ls' := #[.val (.ref s), .val (.int 0), .val (.int (Int32.ofNat (i' + 1))), o3, o4, o5]) dp28_4_122 rfl rfl (by rw [ofNat_succ]; exact (st3 h3 h4 h5 _).2.2.2) ?_
        refine g_goto (pc' := 2) dp28_4_125 (by decide) rfl ?_
        exact ih (i' + 1) o3 o4 o5 (by omega) (by omega) h3 h4 h5 inv
      refine g_iloadN (pc' := 3) dp28_4_2 rfl rfl ?_
      refine g_aloadN (pc' := 4) dp28_4_3 rfl rfl rfl ?_
      refine g_invokeinterface (pc' := 9) [] [] dp28_4_4 rfl (wl_Utf16_23 hw) (wd_CharSequence_length_lrI hw) (wv_String_CharSequence_length_lrI hw) (wm_String_length_lrI hw) (wg_CharSequence_length_lrI hw) rfl (wp_String_length_lrI hw) (wu_String_length_lrI hw) (wx_String_CharSequence hw) (by decide) (T.exa) (pay_len (own_len hw) (wn_String hw) S hz EZ T rfl rfl) pd_lrI rfl rfl rfl rfl rfl (fun _ q => nomatch q) fun v4 h4 q4 l4 => ?_
      obtain ⟨rfl, e⟩ := q4; have e := e.symm; subst e
      refine g_icmpge (pc' := 12) (pc2 := 128) dp28_4_9 rfl (by decide) rfl (fun c9 => ?_) (fun c9 => ?_)
      · have hi1 : i < cs.length := (ofNat_lt (by omega) (by omega)).mp c9
        have ei : (cs.map cls).getD i 0 = cls (cs.getD i 0) := cls_getD cs i
        refine g_aloadN (pc' := 13) dp28_4_12 rfl rfl rfl ?_
        refine g_iloadN (pc' := 14) dp28_4_13 rfl rfl ?_
        refine g_invokeinterface (pc' := 19) [] [_] dp28_4_14 rfl (wl_Utf16_29 hw) (wd_CharSequence_charAt_lIrC hw) (wv_String_CharSequence_charAt_lIrC hw) (wm_String_charAt_lIrC hw) (wg_CharSequence_charAt_lIrC hw) rfl (wp_String_charAt_lIrC hw) (wu_String_charAt_lIrC hw) (wx_String_CharSequence hw) (by decide) (T.exa) (pay_chAny hw U S hz F rf EZ hi1 T rfl rfl) pd_lIrC rfl rfl rfl rfl rfl (fun _ q => nomatch q) fun v14 h14 q14 l14 => ?_
        obtain ⟨rfl, e⟩ := q14; have e := e.symm; subst e
        refine g_istoreN (pc' := 20) dp28_4_19 rfl (st3 h3 h4 h5 _).1 ?_
        refine g_iloadN (pc' := 21) dp28_4_20 rfl rfl ?_
        refine g_invokestatic (pc' := 24) [] [_] dp28_4_21 rfl (wl_Utf16_33 hw) (ws_Character_isSurrogate_lCrZ hw) (wi_Character hw) (wb_Character_isSurrogate_lCrZ hw) (by decide) (Pay.of_met (met_isSur hw _) (wb_Character_isSurrogate_lCrZ hw) (wi_Character hw) rfl rfl) pd_lCrZ rfl rfl rfl rfl rfl (fun _ q => nomatch q) fun v21 h21 q21 l21 => ?_
        obtain ⟨rfl, e⟩ := q21; have e := e.symm; subst e
        by_cases q0 : cls (cs.getD i 0) ≠ 0
        · rw [decide_eq_true q0]
          refine g_ifne (pc' := 27) (pc2 := 30) dp28_4_24 rfl (by decide) rfl (fun c24 => False.elim (absurd c24 (by decide))) (fun c24 => ?_)
          refine g_iloadN (pc' := 31) dp28_4_30 rfl rfl ?_
          have J102 : ∀ b4 b5 : Bool, (b4 = true ↔ (cls (cs.getD i 0) = 1 ∧ i + 1 < cs.length ∧ cls (cs.getD (i + 1) 0) = 2)) → (b5 = true ↔ (cls (cs.getD i 0) = 2 ∧ 0 < i ∧ cls (cs.getD (i - 1) 0) = 1)) →
              Go X (Rm 5 0 0 73) Z a0 consts_1 false yLS prog_28_method_4_code 6 (some .int) (fun v h' => ∃ w, v = some (.int w) ∧ (w < 0 ↔ scanK (cs.map cls) 5 0 = false) ∧ h' = h) (Rm 5 0 0 73).cells (Rm 5 0 0 73).slots [] h 0 0 (mkF X.m 102 #[.val (.ref s), .val (.int 0), .val (.int (Int32.ofNat i)), .val (.int (cs.getD i 0)), .val (.int (b01 b4)), o5] [.int (b01 b5)]) := by
            intro b4 b5 p4 p5
            refine g_istore (pc' := 104) dp28_4_102 rfl (st3 (In.i _) (In.i _) h5 _).2.2.1 ?_
            refine g_iload (pc' := 106) dp28_4_104 rfl rfl ?_
            have inv' : scanK (cs.map cls) 5 0 = (if cls (cs.getD i 0) = 1 ∧ i + 1 < cs.length ∧ cls (cs.getD (i + 1) 0) = 2 then scanK (cs.map cls) f (i + 2) else if cls (cs.getD i 0) = 2 ∧ 0 < i ∧ cls (cs.getD (i - 1) 0) = 1 then scanK (cs.map cls) f (i + 1) else true) := by
              rw [inv, scanK, hlen, if_pos hi1, ei, cls_getD, cls_getD, if_pos q0]
            cases b4 with
            | true =>
              refine g_ifeq (pc' := 109) (pc2 := 115) dp28_4_106 rfl (by decide) rfl (fun c106 => ?_) (fun c106 => False.elim (absurd c106 (by decide)))
              have p4' := p4.mp rfl
              refine g_iinc (pc' := 112) (Ls' := #[.val (.ref s), .val (.int 0), .val (.int (Int32.ofNat (i + 1))), .val (.int (cs.getD i 0)), .val (.int (b01 true)), .val (.int (b01 b5))]) dp28_4_109 rfl rfl (by rw [ofNat_succ]; rfl) ?_
              refine g_goto (pc' := 122) dp28_4_112 (by decide) rfl ?_
              exact J122 (i + 1) _ _ _ (by omega) (by omega) (In.i _) (In.i _) (In.i _) (by rw [inv', if_pos p4'])
            | false =>
              refine g_ifeq (pc' := 109) (pc2 := 115) dp28_4_106 rfl (by decide) rfl (fun c106 => False.elim (c106 rfl)) (fun c106 => ?_)
              have p4' : ¬ (cls (cs.getD i 0) = 1 ∧ i + 1 < cs.length ∧ cls (cs.getD (i + 1) 0) = 2) := fun q => Bool.noConfusion (p4.mpr q)
              refine g_iload (pc' := 117) dp28_4_115 rfl rfl ?_
              cases b5 with
              | true =>
                refine g_ifne (pc' := 120) (pc2 := 122) dp28_4_117 rfl (by decide) rfl (fun c117 => False.elim (absurd c117 (by decide))) (fun c117 => ?_)
                exact J122 i _ _ _ (by omega) (by omega) (In.i _) (In.i _) (In.i _) (by rw [inv', if_neg p4', if_pos (p5.mp rfl)])
              | false =>
                refine g_ifne (pc' := 120) (pc2 := 122) dp28_4_117 rfl (by decide) rfl (fun c117 => ?_) (fun c117 => False.elim (c117 rfl))
                have p5' : ¬ (cls (cs.getD i 0) = 2 ∧ 0 < i ∧ cls (cs.getD (i - 1) 0) = 1) := fun q => Bool.noConfusion (p5.mpr q)
                refine g_iloadN (pc' := 121) dp28_4_120 rfl rfl ?_
                refine g_ireturn (t := .int) dp28_4_121 rfl (by simp) rfl rfl rfl (⟨_, rfl, by rw [inv', if_neg p4', if_neg p5']; exact ⟨fun q => absurd q (ofNat_nn (by omega)), fun q => Bool.noConfusion q⟩, rfl⟩)
          have J69 : ∀ b4 : Bool, (b4 = true ↔ (cls (cs.getD i 0) = 1 ∧ i + 1 < cs.length ∧ cls (cs.getD (i + 1) 0) = 2)) →
              Go X (Rm 5 0 0 73) Z a0 consts_1 false yLS prog_28_method_4_code 6 (some .int) (fun v h' => ∃ w, v = some (.int w) ∧ (w < 0 ↔ scanK (cs.map cls) 5 0 = false) ∧ h' = h) (Rm 5 0 0 73).cells (Rm 5 0 0 73).slots [] h 0 0 (mkF X.m 69 #[.val (.ref s), .val (.int 0), .val (.int (Int32.ofNat i)), .val (.int (cs.getD i 0)), o4, o5] [.int (b01 b4)]) := by
            intro b4 p4
            refine g_istore (pc' := 71) dp28_4_69 rfl (st3 (In.i _) h4 h5 _).2.1 ?_
            refine g_iloadN (pc' := 72) dp28_4_71 rfl rfl ?_
            have no : ¬ (cls (cs.getD i 0) = 2 ∧ 0 < i ∧ cls (cs.getD (i - 1) 0) = 1) → Go X (Rm 5 0 0 73) Z a0 consts_1 false yLS prog_28_method_4_code 6 (some .int) (fun v h' => ∃ w, v = some (.int w) ∧ (w < 0 ↔ scanK (cs.map cls) 5 0 = false) ∧ h' = h) (Rm 5 0 0 73).cells (Rm 5 0 0 73).slots [] h 0 0 (mkF X.m 101 #[.val (.ref s), .val (.int 0), .val (.int (Int32.ofNat i)), .val (.int (cs.getD i 0)), .val (.int (b01 b4)), o5] []) := by
              intro q
              refine g_iconst (pc' := 102) (w := 0) dp28_4_101 rfl (by decide) ?_
              exact J102 b4 false p4 (by simp only [Bool.false_eq_true, false_iff]; exact q)
            refine g_invokestatic (pc' := 75) [] [_] dp28_4_72 rfl (wl_Utf16_42 hw) (ws_Character_isLowSurrogate_lCrZ hw) (wi_Character hw) (wb_Character_isLowSurrogate_lCrZ hw) (by decide) (Pay.of_met (met_isLo hw _) (wb_Character_isLowSurrogate_lCrZ hw) (wi_Character hw) rfl rfl) pd_lCrZ rfl rfl rfl rfl rfl (fun _ q => nomatch q) fun v72 h72 q72 l72 => ?_
            obtain ⟨rfl, e⟩ := q72; have e := e.symm; subst e
            by_cases q2 : cls (cs.getD i 0) = 2
            · rw [decide_eq_true q2]
              refine g_ifeq (pc' := 78) (pc2 := 101) dp28_4_75 rfl (by decide) rfl (fun c75 => ?_) (fun c75 => False.elim (absurd c75 (by decide)))
              refine g_iloadN (pc' := 79) dp28_4_78 rfl rfl ?_
              refine g_ifle (pc' := 82) (pc2 := 101) dp28_4_79 rfl (by decide) rfl (fun c79 => ?_) (fun c79 => ?_)
              · have h1 : 0 < i := (ofNat_lt (a := 0) (by decide) (by omega)).mp c79
                refine g_aloadN (pc' := 83) dp28_4_82 rfl rfl rfl ?_
                refine g_iloadN (pc' := 84) dp28_4_83 rfl rfl ?_
                refine g_iconst (pc' := 85) (w := 1) dp28_4_84 rfl (by decide) ?_
                refine g_isub (pc' := 86) dp28_4_85 rfl ?_
                rw [sub1 h1 (by omega)]
                refine g_invokeinterface (pc' := 91) [] [_] dp28_4_86 rfl (wl_Utf16_29 hw) (wd_CharSequence_charAt_lIrC hw) (wv_String_CharSequence_charAt_lIrC hw) (wm_String_charAt_lIrC hw) (wg_CharSequence_charAt_lIrC hw) rfl (wp_String_charAt_lIrC hw) (wu_String_charAt_lIrC hw) (wx_String_CharSequence hw) (by decide) (T.exa) (pay_chAny hw U S hz F rf EZ (i := i - 1) (by omega) T rfl rfl) pd_lIrC rfl rfl rfl rfl rfl (fun _ q => nomatch q) fun v86 h86 q86 l86 => ?_
                obtain ⟨rfl, e⟩ := q86; have e := e.symm; subst e
                refine g_invokestatic (pc' := 94) [] [_] dp28_4_91 rfl (wl_Utf16_39 hw) (ws_Character_isHighSurrogate_lCrZ hw) (wi_Character hw) (wb_Character_isHighSurrogate_lCrZ hw) (by decide) (Pay.of_met (met_isHi hw _) (wb_Character_isHighSurrogate_lCrZ hw) (wi_Character hw) rfl rfl) pd_lCrZ rfl rfl rfl rfl rfl (fun _ q => nomatch q) fun v91 h91 q91 l91 => ?_
                obtain ⟨rfl, e⟩ := q91; have e := e.symm; subst e
                by_cases q3 : cls (cs.getD (i - 1) 0) = 1
                · rw [decide_eq_true q3]
                  refine g_ifeq (pc' := 97) (pc2 := 101) dp28_4_94 rfl (by decide) rfl (fun c94 => ?_) (fun c94 => False.elim (absurd c94 (by decide)))
                  refine g_iconst (pc' := 98) (w := 1) dp28_4_97 rfl (by decide) ?_
                  refine g_goto (pc' := 102) dp28_4_98 (by decide) rfl ?_
                  exact J102 b4 true p4 (by simp only [true_iff]; exact ⟨q2, h1, q3⟩)
                · rw [decide_eq_false q3]
                  refine g_ifeq (pc' := 97) (pc2 := 101) dp28_4_94 rfl (by decide) rfl (fun c94 => False.elim (c94 rfl)) (fun c94 => ?_)
                  exact no fun q => q3 q.2.2
              · exact no fun q => c79 ((ofNat_lt (a := 0) (by decide) (by omega)).mpr q.2.1)
            · rw [decide_eq_false q2]
              refine g_ifeq (pc' := 78) (pc2 := 101) dp28_4_75 rfl (by decide) rfl (fun c75 => False.elim (c75 rfl)) (fun c75 => ?_)
              exact no fun q => q2 q.1
          have no : ¬ (cls (cs.getD i 0) = 1 ∧ i + 1 < cs.length ∧ cls (cs.getD (i + 1) 0) = 2) → Go X (Rm 5 0 0 73) Z a0 consts_1 false yLS prog_28_method_4_code 6 (some .int) (fun v h' => ∃ w, v = some (.int w) ∧ (w < 0 ↔ scanK (cs.map cls) 5 0 = false) ∧ h' = h) (Rm 5 0 0 73).cells (Rm 5 0 0 73).slots [] h 0 0 (mkF X.m 68 #[.val (.ref s), .val (.int 0), .val (.int (Int32.ofNat i)), .val (.int (cs.getD i 0)), o4, o5] []) := by
            intro q
            refine g_iconst (pc' := 69) (w := 0) dp28_4_68 rfl (by decide) ?_
            exact J69 false (by simp only [Bool.false_eq_true, false_iff]; exact q)
          refine g_invokestatic (pc' := 34) [] [_] dp28_4_31 rfl (wl_Utf16_39 hw) (ws_Character_isHighSurrogate_lCrZ hw) (wi_Character hw) (wb_Character_isHighSurrogate_lCrZ hw) (by decide) (Pay.of_met (met_isHi hw _) (wb_Character_isHighSurrogate_lCrZ hw) (wi_Character hw) rfl rfl) pd_lCrZ rfl rfl rfl rfl rfl (fun _ q => nomatch q) fun v31 h31 q31 l31 => ?_
          obtain ⟨rfl, e⟩ := q31; have e := e.symm; subst e
          by_cases q1 : cls (cs.getD i 0) = 1
          · rw [decide_eq_true q1]
            refine g_ifeq (pc' := 37) (pc2 := 68) dp28_4_34 rfl (by decide) rfl (fun c34 => ?_) (fun c34 => False.elim (absurd c34 (by decide)))
            refine g_iloadN (pc' := 38) dp28_4_37 rfl rfl ?_
            refine g_iconst (pc' := 39) (w := 1) dp28_4_38 rfl (by decide) ?_
            refine g_iadd (pc' := 40) dp28_4_39 rfl ?_
            rw [add1]
            refine g_aloadN (pc' := 41) dp28_4_40 rfl rfl rfl ?_
            refine g_invokeinterface (pc' := 46) [] [] dp28_4_41 rfl (wl_Utf16_23 hw) (wd_CharSequence_length_lrI hw) (wv_String_CharSequence_length_lrI hw) (wm_String_length_lrI hw) (wg_CharSequence_length_lrI hw) rfl (wp_String_length_lrI hw) (wu_String_length_lrI hw) (wx_String_CharSequence hw) (by decide) (T.exa) (pay_len (own_len hw) (wn_String hw) S hz EZ T rfl rfl) pd_lrI rfl rfl rfl rfl rfl (fun _ q => nomatch q) fun v41 h41 q41 l41 => ?_
            obtain ⟨rfl, e⟩ := q41; have e := e.symm; subst e
            refine g_icmpge (pc' := 49) (pc2 := 68) dp28_4_46 rfl (by decide) rfl (fun c46 => ?_) (fun c46 => ?_)
            · have h1 : i + 1 < cs.length := (ofNat_lt (by omega) (by omega)).mp c46
              refine g_aloadN (pc' := 50) dp28_4_49 rfl rfl rfl ?_
              refine g_iloadN (pc' := 51) dp28_4_50 rfl rfl ?_
              refine g_iconst (pc' := 52) (w := 1) dp28_4_51 rfl (by decide) ?_
              refine g_iadd (pc' := 53) dp28_4_52 rfl ?_
              rw [add1]
              refine g_invokeinterface (pc' := 58) [] [_] dp28_4_53 rfl (wl_Utf16_29 hw) (wd_CharSequence_charAt_lIrC hw) (wv_String_CharSequence_charAt_lIrC hw) (wm_String_charAt_lIrC hw) (wg_CharSequence_charAt_lIrC hw) rfl (wp_String_charAt_lIrC hw) (wu_String_charAt_lIrC hw) (wx_String_CharSequence hw) (by decide) (T.exa) (pay_chAny hw U S hz F rf EZ h1 T rfl rfl) pd_lIrC rfl rfl rfl rfl rfl (fun _ q => nomatch q) fun v53 h53 q53 l53 => ?_
              obtain ⟨rfl, e⟩ := q53; have e := e.symm; subst e
              refine g_invokestatic (pc' := 61) [] [_] dp28_4_58 rfl (wl_Utf16_42 hw) (ws_Character_isLowSurrogate_lCrZ hw) (wi_Character hw) (wb_Character_isLowSurrogate_lCrZ hw) (by decide) (Pay.of_met (met_isLo hw _) (wb_Character_isLowSurrogate_lCrZ hw) (wi_Character hw) rfl rfl) pd_lCrZ rfl rfl rfl rfl rfl (fun _ q => nomatch q) fun v58 h58 q58 l58 => ?_
              obtain ⟨rfl, e⟩ := q58; have e := e.symm; subst e
              by_cases q2 : cls (cs.getD (i + 1) 0) = 2
              · rw [decide_eq_true q2]
                refine g_ifeq (pc' := 64) (pc2 := 68) dp28_4_61 rfl (by decide) rfl (fun c61 => ?_) (fun c61 => False.elim (absurd c61 (by decide)))
                refine g_iconst (pc' := 65) (w := 1) dp28_4_64 rfl (by decide) ?_
                refine g_goto (pc' := 69) dp28_4_65 (by decide) rfl ?_
                exact J69 true (by simp only [true_iff]; exact ⟨q1, h1, q2⟩)
              · rw [decide_eq_false q2]
                refine g_ifeq (pc' := 64) (pc2 := 68) dp28_4_61 rfl (by decide) rfl (fun c61 => False.elim (c61 rfl)) (fun c61 => ?_)
                exact no fun q => q2 q.2.2
            · exact no fun q => c46 ((ofNat_lt (by omega) (by omega)).mpr q.2.1)
          · rw [decide_eq_false q1]
            refine g_ifeq (pc' := 37) (pc2 := 68) dp28_4_34 rfl (by decide) rfl (fun c34 => False.elim (c34 rfl)) (fun c34 => ?_)
            exact no fun q => q1 q.1
        · rw [decide_eq_false q0]
          refine g_ifne (pc' := 27) (pc2 := 30) dp28_4_24 rfl (by decide) rfl (fun c24 => ?_) (fun c24 => False.elim (c24 rfl))
          refine g_goto (pc' := 122) dp28_4_27 (by decide) rfl ?_
          exact J122 i _ o4 o5 (by omega) (by omega) (In.i _) h4 h5 (by rw [inv, scanK, hlen, if_pos hi1, ei, if_neg q0])
      · have hi1 : ¬ i < cs.length := fun q => c9 ((ofNat_lt (by omega) (by omega)).mpr q)
        refine g_iconst (pc' := 129) (w := (-1)) dp28_4_128 rfl (by decide) ?_
        refine g_ireturn (t := .int) dp28_4_129 rfl (by simp) rfl rfl rfl (⟨_, rfl, by rw [inv, scanK, hlen, if_neg hi1]; exact ⟨fun _ => rfl, fun _ => by decide⟩, rfl⟩)
  exact loop 5 0 .unset .unset .unset (by omega) (by omega) In.u In.u In.u rfl
theorem met_WF (hw : ∀ d ∈ tables_1, d.before a0 Z = true) (U : SU Z) (S : Sta Z Z.heap "java/lang/String" "COMPACT_STRINGS" "Z" (.int z)) (hz : ¬ z = 0) (F : Sta Z Z.heap "jdk/internal/util/Preconditions" "SIOOBE_FORMATTER" "Ljava/util/function/BiFunction;" fm) (rf : fm.isRef = true) {s : Addr} {cs : List Int32} (hn : cs.length ≤ 4) (T : Str Z h s cs) :
    MetW [] l yWF prog_28_method_2_code 1 (some .boolean) (Rm 6 0 0 90) #[.ref s] Z a0 consts_1 false [] h (fun v h' => v = some (.int (b01 (!scanK (cs.map cls) 5 0))) ∧ h' = h) := by
  refine MetW.of (plainFor_of_name (by first | (simp [plainName, overriddenIn]; done) | decide +kernel)) fun X hX => Go.old fun EZ => ?_
  show Go X _ _ _ _ _ _ _ _ _ _ _ _ _ _ _ _ (mkF X.m 0 #[.val (.ref s)] [])
  refine g_aloadN (pc' := 1) dp28_2_0 rfl rfl rfl ?_
  refine g_iconst (pc' := 2) (w := 0) dp28_2_1 rfl (by decide) ?_
  refine g_invokestatic (pc' := 5) [] [_, _] dp28_2_2 rfl (wl_Utf16_7 hw) (ws_Utf16_loneSurrogate_lLjavalangCharSequenceIrI hw) (wi_Utf16 hw) (wb_Utf16_loneSurrogate_lLjavalangCharSequenceIrI hw) (by decide) (Pay.of_met (met_LS hw U S hz F rf hn T) (wb_Utf16_loneSurrogate_lLjavalangCharSequenceIrI hw) (wi_Utf16 hw) rfl rfl) pd_lLjavalangCharSequenceIrI rfl rfl rfl rfl rfl (fun _ q => nomatch q) fun v2 h2 q2 l2 => ?_
  obtain ⟨w, rfl, hwn, rfl⟩ := q2
  refine g_ifge (pc' := 8) (pc2 := 12) dp28_2_5 rfl (by decide) rfl (fun c5 => ?_) (fun c5 => ?_)
  · refine g_iconst (pc' := 9) (w := 1) dp28_2_8 rfl (by decide) ?_
    refine g_goto (pc' := 13) dp28_2_9 (by decide) rfl ?_
    refine g_ireturn (t := .boolean) dp28_2_13 rfl (by simp) rfl rfl rfl (⟨by rw [hwn.mp c5]; rfl, rfl⟩)
  · refine g_iconst (pc' := 13) (w := 0) dp28_2_12 rfl (by decide) ?_
    refine g_ireturn (t := .boolean) dp28_2_13 rfl (by simp) rfl rfl rfl (⟨?_, rfl⟩)
    cases q : scanK (cs.map cls) 5 0 with
    | true => rfl
    | false => exact absurd (hwn.mpr q) c5
end Law2
abbrev GoL (X : Cx) (Z : State) (a0 : Array Value) (h : Heap) (k n : Nat) (g : JFrame) : Prop := Go X room_1 Z a0 consts_1 false x code maxLocals ret (fun v h' => v = some (.int 1)) room_1.cells room_1.slots [] h k n g
section Law3
variable {l : Launch} {Z : State} {a0 : Array Value} {h : Heap} {z : Int32} {fm : Value}
theorem own_back (hw : ∀ d ∈ tables_1, d.before a0 Z = true) (U : SU Z) (S : Sta Z Z.heap "java/lang/String" "COMPACT_STRINGS" "Z" (.int z)) (hz : ¬ z = 0) (F : Sta Z Z.heap "jdk/internal/util/Preconditions" "SIOOBE_FORMATTER" "Ljava/util/function/BiFunction;" fm) (rf : fm.isRef = true) {X : Cx} {t0 t1 t2 t3 p0 p1 p2 p3 p4 : Int32} {j : Nat} (hj : j ≤ 4) {arr s : Addr} {kA : ClassId} {d : Value} (EZ : Ext Z.heap h) (AT : Arv Z h arr kA .char 4 [.int t0, .int t1, .int t2, .int t3] d) (T : Str Z h s (List.take j [t0, t1, t2, t3])) :
    GoL X Z a0 h 7 28 (mkF X.m 211 #[.val (.int p0), .val (.int p1), .val (.int p2), .val (.int p3), .val (.int p4), .val (.int (Int32.ofNat j)), .val (.ref arr), .val (.ref s), .unset] []) := by
  have hks : ((List.take j [t0, t1, t2, t3]).map cls).length ≤ 4 := by rw [List.length_map, List.length_take]; show min j 4 ≤ 4; omega
  have hcs : (List.take j [t0, t1, t2, t3]).length ≤ 4 := by rw [List.length_take]; show min j 4 ≤ 4; omega
  have sc := own_scan ((List.take j [t0, t1, t2, t3]).map cls) hks
  have J260 : ∀ b : Bool, b = (!scanK ((List.take j [t0, t1, t2, t3]).map cls) 5 0) → GoL X Z a0 h 7 28 (mkF X.m 260 #[.val (.int p0), .val (.int p1), .val (.int p2), .val (.int p3), .val (.int p4), .val (.int (Int32.ofNat j)), .val (.ref arr), .val (.ref s), .unset] [.int (b01 b)]) := by
    intro b hb
    refine g_istore (pc' := 262) (Ls' := #[_, _, _, _, _, _, _, _, _]) at_260 rfl rfl ?_
    refine g_aload (pc' := 264) at_262 rfl rfl rfl ?_
    refine g_invokestatic (pc' := 267) [] [_] at_264 rfl (wl_Utf16IsWellFormedPinLaw_23 hw) (ws_Utf16_isWellFormed_lLjavalangCharSequencerZ hw) (wi_Utf16 hw) (wb_Utf16_isWellFormed_lLjavalangCharSequencerZ hw) (by decide) (Pay.of_met (met_WF hw U S hz F rf hcs T) (wb_Utf16_isWellFormed_lLjavalangCharSequencerZ hw) (wi_Utf16 hw) rfl rfl) pd_lLjavalangCharSequencerZ rfl rfl rfl rfl rfl (fun _ q => nomatch q) fun v264 h264 q264 l264 => ?_
    obtain ⟨rfl, rfl⟩ := q264
    refine g_iload (pc' := 269) at_267 rfl rfl ?_
    refine g_icmpne (pc' := 272) (pc2 := 276) at_269 rfl (by decide) rfl (fun c269 => ?_) (fun c269 => False.elim (c269 (by rw [hb])))
    refine g_iconst (pc' := 273) (w := 1) at_272 rfl (by decide) ?_
    refine g_goto (pc' := 277) at_273 (by decide) rfl ?_
    refine g_ireturn (t := .boolean) at_277 rfl (by simp) rfl rfl rfl (rfl)
  have yes : scanK ((List.take j [t0, t1, t2, t3]).map cls) 5 0 = true → GoL X Z a0 h 7 28 (mkF X.m 259 #[.val (.int p0), .val (.int p1), .val (.int p2), .val (.int p3), .val (.int p4), .val (.int (Int32.ofNat j)), .val (.ref arr), .val (.ref s), .unset] []) := by
    intro q
    refine g_iconst (pc' := 260) (w := 0) at_259 rfl (by decide) ?_
    exact J260 false (by rw [q]; rfl)
  refine g_aload (pc' := 213) at_211 rfl rfl rfl ?_
  refine g_iload (pc' := 215) at_213 rfl rfl ?_
  refine g_iconst (pc' := 216) (w := 0) at_215 rfl (by decide) ?_
  refine g_invokestatic (pc' := 219) [] [_, _, _] at_216 rfl (wl_Utf16IsWellFormedPinLaw_19 hw) (ws_Utf16IsWellFormedPinLaw_lone_lACIIrZ hw) (wi_Utf16IsWellFormedPinLaw hw) (wb_Utf16IsWellFormedPinLaw_lone_lACIIrZ hw) (by decide) (Pay.of_met (met_lone hw (ts := [t0, t1, t2, t3]) (i := 0) rfl hj (by decide) AT) (wb_Utf16IsWellFormedPinLaw_lone_lACIIrZ hw) (wi_Utf16IsWellFormedPinLaw hw) rfl rfl) pd_lACIIrZ rfl rfl rfl rfl rfl (fun _ q => nomatch q) fun v216 h216 q216 l216 => ?_
  obtain ⟨rfl, e⟩ := q216; have e := e.symm; subst e
  cases b0 : loneK ((List.take j [t0, t1, t2, t3]).map cls) 0 with
  | true =>
    refine g_ifne (pc' := 222) (pc2 := 259) at_219 rfl (by decide) rfl (fun c219 => False.elim (absurd c219 (by decide))) (fun c219 => ?_)
    exact yes (by rw [sc, b0]; rfl)
  | false =>
    refine g_ifne (pc' := 222) (pc2 := 259) at_219 rfl (by decide) rfl (fun c219 => ?_) (fun c219 => False.elim (c219 rfl))
    refine g_aload (pc' := 224) at_222 rfl rfl rfl ?_
    refine g_iload (pc' := 226) at_224 rfl rfl ?_
    refine g_iconst (pc' := 227) (w := 1) at_226 rfl (by decide) ?_
    refine g_invokestatic (pc' := 230) [] [_, _, _] at_227 rfl (wl_Utf16IsWellFormedPinLaw_19 hw) (ws_Utf16IsWellFormedPinLaw_lone_lACIIrZ hw) (wi_Utf16IsWellFormedPinLaw hw) (wb_Utf16IsWellFormedPinLaw_lone_lACIIrZ hw) (by decide) (Pay.of_met (met_lone hw (ts := [t0, t1, t2, t3]) (i := 1) rfl hj (by decide) AT) (wb_Utf16IsWellFormedPinLaw_lone_lACIIrZ hw) (wi_Utf16IsWellFormedPinLaw hw) rfl rfl) pd_lACIIrZ rfl rfl rfl rfl rfl (fun _ q => nomatch q) fun v227 h227 q227 l227 => ?_
    obtain ⟨rfl, e⟩ := q227; have e := e.symm; subst e
    cases b1 : loneK ((List.take j [t0, t1, t2, t3]).map cls) 1 with
    | true =>
      refine g_ifne (pc' := 233) (pc2 := 259) at_230 rfl (by decide) rfl (fun c230 => False.elim (absurd c230 (by decide))) (fun c230 => ?_)
      exact yes (by rw [sc, b0, b1]; rfl)
    | false =>
      refine g_ifne (pc' := 233) (pc2 := 259) at_230 rfl (by decide) rfl (fun c230 => ?_) (fun c230 => False.elim (c230 rfl))
      refine g_aload (pc' := 235) at_233 rfl rfl rfl ?_
      refine g_iload (pc' := 237) at_235 rfl rfl ?_
      refine g_iconst (pc' := 238) (w := 2) at_237 rfl (by decide) ?_
      refine g_invokestatic (pc' := 241) [] [_, _, _] at_238 rfl (wl_Utf16IsWellFormedPinLaw_19 hw) (ws_Utf16IsWellFormedPinLaw_lone_lACIIrZ hw) (wi_Utf16IsWellFormedPinLaw hw) (wb_Utf16IsWellFormedPinLaw_lone_lACIIrZ hw) (by decide) (Pay.of_met (met_lone hw (ts := [t0, t1, t2, t3]) (i := 2) rfl hj (by decide) AT) (wb_Utf16IsWellFormedPinLaw_lone_lACIIrZ hw) (wi_Utf16IsWellFormedPinLaw hw) rfl rfl) pd_lACIIrZ rfl rfl rfl rfl rfl (fun _ q => nomatch q) fun v238 h238 q238 l238 => ?_
      obtain ⟨rfl, e⟩ := q238; have e := e.symm; subst e
      cases b2 : loneK ((List.take j [t0, t1, t2, t3]).map cls) 2 with
      | true =>
        refine g_ifne (pc' := 244) (pc2 := 259) at_241 rfl (by decide) rfl (fun c241 => False.elim (absurd c241 (by decide))) (fun c241 => ?_)
        exact yes (by rw [sc, b0, b1, b2]; rfl)
      | false =>
        refine g_ifne (pc' := 244) (pc2 := 259) at_241 rfl (by decide) rfl (fun c241 => ?_) (fun c241 => False.elim (c241 rfl))
        refine g_aload (pc' := 246) at_244 rfl rfl rfl ?_
        refine g_iload (pc' := 248) at_246 rfl rfl ?_
        refine g_iconst (pc' := 249) (w := 3) at_248 rfl (by decide) ?_
        refine g_invokestatic (pc' := 252) [] [_, _, _] at_249 rfl (wl_Utf16IsWellFormedPinLaw_19 hw) (ws_Utf16IsWellFormedPinLaw_lone_lACIIrZ hw) (wi_Utf16IsWellFormedPinLaw hw) (wb_Utf16IsWellFormedPinLaw_lone_lACIIrZ hw) (by decide) (Pay.of_met (met_lone hw (ts := [t0, t1, t2, t3]) (i := 3) rfl hj (by decide) AT) (wb_Utf16IsWellFormedPinLaw_lone_lACIIrZ hw) (wi_Utf16IsWellFormedPinLaw hw) rfl rfl) pd_lACIIrZ rfl rfl rfl rfl rfl (fun _ q => nomatch q) fun v249 h249 q249 l249 => ?_
        obtain ⟨rfl, e⟩ := q249; have e := e.symm; subst e
        cases b3 : loneK ((List.take j [t0, t1, t2, t3]).map cls) 3 with
        | true =>
          refine g_ifne (pc' := 255) (pc2 := 259) at_252 rfl (by decide) rfl (fun c252 => False.elim (absurd c252 (by decide))) (fun c252 => ?_)
          exact yes (by rw [sc, b0, b1, b2, b3]; rfl)
        | false =>
          refine g_ifne (pc' := 255) (pc2 := 259) at_252 rfl (by decide) rfl (fun c252 => ?_) (fun c252 => False.elim (c252 rfl))
          refine g_iconst (pc' := 256) (w := 1) at_255 rfl (by decide) ?_
          refine g_goto (pc' := 260) at_256 (by decide) rfl ?_
          exact J260 true (by rw [sc, b0, b1, b2, b3]; rfl)
theorem own_n (x : Int32) : ∃ j : Nat, j < 5 ∧ (x &&& 2147483647) % 5 = Int32.ofNat j := by
  obtain ⟨m, hm, e⟩ := nn_ofNat (and_lt (x := x) 2147483647 (by decide)).1
  refine ⟨m % 5, Nat.mod_lt _ (by decide), ?_⟩
  have e : (x &&& 2147483647) = Int32.ofNat m := e
  rw [e]
  exact mod_ofNat hm (by decide) (by decide)
theorem met_law (hw : ∀ d ∈ tables_1, d.before a0 Z = true) (U : SU Z) (S : Sta Z Z.heap "java/lang/String" "COMPACT_STRINGS" "Z" (.int z)) (hz : ¬ z = 0) (F : Sta Z Z.heap "jdk/internal/util/Preconditions" "SIOOBE_FORMATTER" "Ljava/util/function/BiFunction;" fm) (rf : fm.isRef = true) (ws : List Jvm.Cond) (p0 p1 p2 p3 p4 : Int32) :
    MetW ws l x code maxLocals ret room_1 #[.int p0, .int p1, .int p2, .int p3, .int p4] Z a0 consts_1 false [] h (fun v h' => v = some (.int 1)) := by
  refine MetW.of (plainFor_of_name (by first | (simp [plainName, overriddenIn]; done) | decide +kernel)) fun X hX => Go.old fun EZ => ?_
  show Go X _ _ _ _ _ _ _ _ _ _ _ _ _ _ _ _ (mkF X.m 0 #[.val (.int p0), .val (.int p1), .val (.int p2), .val (.int p3), .val (.int p4), .unset, .unset, .unset, .unset] [])
  obtain ⟨j, hj, ej⟩ := own_n p0
  refine g_iloadN (pc' := 1) at_0 rfl rfl ?_
  refine g_ldcI (pc' := 3) at_1 rfl (wk_Utf16IsWellFormedPinLaw_7 hw) ?_
  refine g_iand (pc' := 4) at_3 rfl ?_
  refine g_iconst (pc' := 5) (w := 5) at_4 rfl (by decide) ?_
  refine g_irem (pc' := 6) at_5 rfl (by decide) ?_
  rw [ej]
  refine g_istore (pc' := 8) (Ls' := #[_, _, _, _, _, _, _, _, _]) at_6 rfl rfl ?_
  refine g_iconst (pc' := 9) (w := 4) at_8 rfl (by decide) ?_
  refine g_newarray (pc' := 11) (cap := 4) at_9 rfl (wa_char hw) (by decide) (by decide) rfl rfl rfl fun h9 a9 k9 e9 E9 A9 => ?_
  refine g_astore (pc' := 13) (Ls' := #[_, _, _, _, _, _, _, _, _]) at_11 rfl rfl rfl ?_
  have z0 : Z.heap.size ≤ h.size := EZ.1
  refine g_aload (pc' := 15) at_13 rfl rfl rfl ?_
  refine g_iconst (pc' := 16) (w := 0) at_15 rfl (by decide) ?_
  refine g_iloadN (pc' := 17) at_16 rfl rfl ?_
  refine g_invokestatic (pc' := 20) [] [_] at_17 rfl (wl_Utf16IsWellFormedPinLaw_8 hw) (ws_Utf16IsWellFormedPinLaw_draw_lIrC hw) (wi_Utf16IsWellFormedPinLaw hw) (wb_Utf16IsWellFormedPinLaw_draw_lIrC hw) (by decide) (Pay.of_met (met_draw hw _) (wb_Utf16IsWellFormedPinLaw_draw_lIrC hw) (wi_Utf16IsWellFormedPinLaw hw) rfl rfl) pd_lIrC rfl rfl rfl rfl rfl (fun _ q => nomatch q) fun v17 h17 q17 l17 => ?_
  obtain ⟨t0, rfl, o0, rfl⟩ := q17
  refine g_castoreX (pc' := 21) (i := 0) at_20 rfl (nar16 o0) (A9) (by omega) (by decide) (by decide) (ble rfl) fun h20 K20 A20 => ?_
  have X20 : Ext h h20 := ext_keep E9 K20 (allS (by omega) all0)
  refine g_aload (pc' := 23) at_21 rfl rfl rfl ?_
  refine g_iconst (pc' := 24) (w := 1) at_23 rfl (by decide) ?_
  refine g_iloadN (pc' := 25) at_24 rfl rfl ?_
  refine g_invokestatic (pc' := 28) [] [_] at_25 rfl (wl_Utf16IsWellFormedPinLaw_8 hw) (ws_Utf16IsWellFormedPinLaw_draw_lIrC hw) (wi_Utf16IsWellFormedPinLaw hw) (wb_Utf16IsWellFormedPinLaw_draw_lIrC hw) (by decide) (Pay.of_met (met_draw hw _) (wb_Utf16IsWellFormedPinLaw_draw_lIrC hw) (wi_Utf16IsWellFormedPinLaw hw) rfl rfl) pd_lIrC rfl rfl rfl rfl rfl (fun _ q => nomatch q) fun v25 h25 q25 l25 => ?_
  obtain ⟨t1, rfl, o1, rfl⟩ := q25
  refine g_castoreX (pc' := 29) (i := 1) at_28 rfl (nar16 o1) (A20) (by omega) (by decide) (by decide) (ble rfl) fun h28 K28 A28 => ?_
  have X28 : Ext h h28 := ext_keep X20 K28 (allS (by omega) all0)
  refine g_aload (pc' := 31) at_29 rfl rfl rfl ?_
  refine g_iconst (pc' := 32) (w := 2) at_31 rfl (by decide) ?_
  refine g_iloadN (pc' := 33) at_32 rfl rfl ?_
  refine g_invokestatic (pc' := 36) [] [_] at_33 rfl (wl_Utf16IsWellFormedPinLaw_8 hw) (ws_Utf16IsWellFormedPinLaw_draw_lIrC hw) (wi_Utf16IsWellFormedPinLaw hw) (wb_Utf16IsWellFormedPinLaw_draw_lIrC hw) (by decide) (Pay.of_met (met_draw hw _) (wb_Utf16IsWellFormedPinLaw_draw_lIrC hw) (wi_Utf16IsWellFormedPinLaw hw) rfl rfl) pd_lIrC rfl rfl rfl rfl rfl (fun _ q => nomatch q) fun v33 h33 q33 l33 => ?_
  obtain ⟨t2, rfl, o2, rfl⟩ := q33
  refine g_castoreX (pc' := 37) (i := 2) at_36 rfl (nar16 o2) (A28) (by omega) (by decide) (by decide) (ble rfl) fun h36 K36 A36 => ?_
  have X36 : Ext h h36 := ext_keep X28 K36 (allS (by omega) all0)
  refine g_aload (pc' := 39) at_37 rfl rfl rfl ?_
  refine g_iconst (pc' := 40) (w := 3) at_39 rfl (by decide) ?_
  refine g_iload (pc' := 42) at_40 rfl rfl ?_
  refine g_invokestatic (pc' := 45) [] [_] at_42 rfl (wl_Utf16IsWellFormedPinLaw_8 hw) (ws_Utf16IsWellFormedPinLaw_draw_lIrC hw) (wi_Utf16IsWellFormedPinLaw hw) (wb_Utf16IsWellFormedPinLaw_draw_lIrC hw) (by decide) (Pay.of_met (met_draw hw _) (wb_Utf16IsWellFormedPinLaw_draw_lIrC hw) (wi_Utf16IsWellFormedPinLaw hw) rfl rfl) pd_lIrC rfl rfl rfl rfl rfl (fun _ q => nomatch q) fun v42 h42 q42 l42 => ?_
  obtain ⟨t3, rfl, o3, rfl⟩ := q42
  refine g_castoreX (pc' := 46) (i := 3) at_45 rfl (nar16 o3) (A36) (by omega) (by decide) (by decide) (ble rfl) fun h45 K45 A45 => ?_
  have X45 : Ext h h45 := ext_keep X36 K45 (allS (by omega) all0)
  have AT : Arv Z h45 a9 k9 .char 4 [.int t0, .int t1, .int t2, .int t3] (.int 0) := A45
  have EZ45 : Ext Z.heap h45 := ext_trans EZ X45
  refine g_iload (pc' := 48) at_46 rfl rfl ?_
  refine g_ifne (pc' := 51) (pc2 := 66) at_48 rfl (by decide) rfl (fun c48 => ?_) (fun c48 => ?_)
  · have e : j = 0 := (ofNat_inj (by omega) (by omega)).mp c48
    subst e
    refine g_new (pc' := 54) at_51 rfl (wc_Utf16IsWellFormedPinLaw_14 hw) (wn_String hw) (wi_String hw) rfl rfl fun h51 a51 e51 E51 A51 D51 => ?_
    refine g_dup (pc' := 55) at_54 rfl rfl ?_
    refine g_iconst (pc' := 56) (w := 0) at_55 rfl (by decide) ?_
    refine g_newarray (pc' := 58) (cap := 0) at_56 rfl (wa_char hw) (by decide) (by decide) rfl rfl rfl fun h56 a56 k56 e56 E56 A56 => ?_
    have t51 : a51 < h51.size := A51.lt
    have u51 : h45.size ≤ h51.size := E51.1
    have z51 : Z.heap.size ≤ h45.size := (EZ45).1
    have y51 : a51 ≠ a56 := Nat.ne_of_lt (by omega)
    have F51_56 : Ext h45 h56 := (ext_trans E51 E56)
    refine g_invokespecial (pc' := 61) [a51] [_] at_58 rfl rfl (wl_Utf16IsWellFormedPinLaw_16 hw) (wm_String_init_lACrV hw) (wb_String_init_lACrV hw) (by decide) (pay_new0 hw (by decide) (by omega) ((A51).ext E56) ((D51 (Or.inr (wy_String_String_value hw)) (ty := .array .byte) (by decide)).ext E56) ((D51 (Or.inr (wy_String_String_coder hw)) (ty := .byte) (by decide)).ext E56) A56 rfl rfl) pd_lACrV rfl rfl rfl rfl rfl (fun _ q => by cases List.mem_singleton.mp q; simp) fun v58 h58 q58 l58 => ?_
    obtain ⟨rfl, K58, T51⟩ := q58
    have F51 : Ext h45 h58 := ext_keep F51_56 K58 (allS (by omega) all0)
    refine g_astore (pc' := 63) (Ls' := #[_, _, _, _, _, _, _, _, _]) at_61 rfl rfl rfl ?_
    refine g_goto (pc' := 211) at_63 (by decide) rfl ?_
    exact Go.drop (Go.mono 7 28 rfl rfl (own_back hw U S hz F rf (j := 0) (by decide) (ext_trans EZ45 F51) (AT.ext F51) T51))
  · refine g_iload (pc' := 68) at_66 rfl rfl ?_
    refine g_iconst (pc' := 69) (w := 1) at_68 rfl (by decide) ?_
    refine g_icmpne (pc' := 72) (pc2 := 94) at_69 rfl (by decide) rfl (fun c69 => ?_) (fun c69 => ?_)
    · have e : j = 1 := (ofNat_inj (by omega) (by omega)).mp c69
      subst e
      refine g_new (pc' := 75) at_72 rfl (wc_Utf16IsWellFormedPinLaw_14 hw) (wn_String hw) (wi_String hw) rfl rfl fun h72 a72 e72 E72 A72 D72 => ?_
      refine g_dup (pc' := 76) at_75 rfl rfl ?_
      refine g_iconst (pc' := 77) (w := 1) at_76 rfl (by decide) ?_
      refine g_newarray (pc' := 79) (cap := 1) at_77 rfl (wa_char hw) (by decide) (by decide) rfl rfl rfl fun h77 a77 k77 e77 E77 A77 => ?_
      have t72 : a72 < h72.size := A72.lt
      have u72 : h45.size ≤ h72.size := E72.1
      have z72 : Z.heap.size ≤ h45.size := (EZ45).1
      have y72 : a72 ≠ a77 := Nat.ne_of_lt (by omega)
      have F72_77 : Ext h45 h77 := (ext_trans E72 E77)
      refine g_dup (pc' := 80) at_79 rfl rfl ?_
      refine g_iconst (pc' := 81) (w := 0) at_80 rfl (by decide) ?_
      refine g_aload (pc' := 83) at_81 rfl rfl rfl ?_
      refine g_iconst (pc' := 84) (w := 0) at_83 rfl (by decide) ?_
      refine g_caload (pc' := 85) at_84 rfl (AT.ext F72_77) (by decide) rfl ?_
      refine g_castoreX (pc' := 86) (i := 0) at_85 rfl (nar16 o0) A77 (by omega) (by decide) (by decide) (ble rfl) fun h85 K85 A85 => ?_
      have F72_85 : Ext h45 h85 := ext_keep F72_77 K85 (allS (by omega) all0)
      refine g_invokespecial (pc' := 89) [a72] [_] at_86 rfl rfl (wl_Utf16IsWellFormedPinLaw_16 hw) (wm_String_init_lACrV hw) (wb_String_init_lACrV hw) (by decide) (pay_newAny (cs := [t0]) (M := 4) hw U S hz (ext_trans (EZ45) F72_85) rfl (ble rfl) (ble rfl) (ble rfl) (inS o0 (in0)) (by omega) (((A72).ext E77).keep K85) (((D72 (Or.inr (wy_String_String_value hw)) (ty := .array .byte) (by decide)).ext E77).keep K85 (ninS y72 nin0)) (((D72 (Or.inr (wy_String_String_coder hw)) (ty := .byte) (by decide)).ext E77).keep K85 (ninS y72 nin0)) A85 rfl rfl) pd_lACrV rfl rfl rfl rfl rfl (fun _ q => by cases List.mem_singleton.mp q; simp) fun v86 h86 q86 l86 => ?_
      obtain ⟨rfl, K86, T72⟩ := q86
      have F72 : Ext h45 h86 := ext_keep F72_85 K86 (allS (by omega) all0)
      refine g_astore (pc' := 91) (Ls' := #[_, _, _, _, _, _, _, _, _]) at_89 rfl rfl rfl ?_
      refine g_goto (pc' := 211) at_91 (by decide) rfl ?_
      exact Go.drop (Go.mono 7 28 rfl rfl (own_back hw U S hz F rf (j := 1) (by decide) (ext_trans EZ45 F72) (AT.ext F72) T72))
    · refine g_iload (pc' := 96) at_94 rfl rfl ?_
      refine g_iconst (pc' := 97) (w := 2) at_96 rfl (by decide) ?_
      refine g_icmpne (pc' := 100) (pc2 := 129) at_97 rfl (by decide) rfl (fun c97 => ?_) (fun c97 => ?_)
      · have e : j = 2 := (ofNat_inj (by omega) (by omega)).mp c97
        subst e
        refine g_new (pc' := 103) at_100 rfl (wc_Utf16IsWellFormedPinLaw_14 hw) (wn_String hw) (wi_String hw) rfl rfl fun h100 a100 e100 E100 A100 D100 => ?_
        refine g_dup (pc' := 104) at_103 rfl rfl ?_
        refine g_iconst (pc' := 105) (w := 2) at_104 rfl (by decide) ?_
        refine g_newarray (pc' := 107) (cap := 2) at_105 rfl (wa_char hw) (by decide) (by decide) rfl rfl rfl fun h105 a105 k105 e105 E105 A105 => ?_
        have t100 : a100 < h100.size := A100.lt
        have u100 : h45.size ≤ h100.size := E100.1
        have z100 : Z.heap.size ≤ h45.size := (EZ45).1
        have y100 : a100 ≠ a105 := Nat.ne_of_lt (by omega)
        have F100_105 : Ext h45 h105 := (ext_trans E100 E105)
        refine g_dup (pc' := 108) at_107 rfl rfl ?_
        refine g_iconst (pc' := 109) (w := 0) at_108 rfl (by decide) ?_
        refine g_aload (pc' := 111) at_109 rfl rfl rfl ?_
        refine g_iconst (pc' := 112) (w := 0) at_111 rfl (by decide) ?_
        refine g_caload (pc' := 113) at_112 rfl (AT.ext F100_105) (by decide) rfl ?_
        refine g_castoreX (pc' := 114) (i := 0) at_113 rfl (nar16 o0) A105 (by omega) (by decide) (by decide) (ble rfl) fun h113 K113 A113 => ?_
        have F100_113 : Ext h45 h113 := ext_keep F100_105 K113 (allS (by omega) all0)
        refine g_dup (pc' := 115) at_114 rfl rfl ?_
        refine g_iconst (pc' := 116) (w := 1) at_115 rfl (by decide) ?_
        refine g_aload (pc' := 118) at_116 rfl rfl rfl ?_
        refine g_iconst (pc' := 119) (w := 1) at_118 rfl (by decide) ?_
        refine g_caload (pc' := 120) at_119 rfl (AT.ext F100_113) (by decide) rfl ?_
        refine g_castoreX (pc' := 121) (i := 1) at_120 rfl (nar16 o1) A113 (by omega) (by decide) (by decide) (ble rfl) fun h120 K120 A120 => ?_
        have F100_120 : Ext h45 h120 := ext_keep F100_113 K120 (allS (by omega) all0)
        refine g_invokespecial (pc' := 124) [a100] [_] at_121 rfl rfl (wl_Utf16IsWellFormedPinLaw_16 hw) (wm_String_init_lACrV hw) (wb_String_init_lACrV hw) (by decide) (pay_newAny (cs := [t0, t1]) (M := 4) hw U S hz (ext_trans (EZ45) F100_120) rfl (ble rfl) (ble rfl) (ble rfl) (inS o0 (inS o1 (in0))) (by omega) ((((A100).ext E105).keep K113).keep K120) ((((D100 (Or.inr (wy_String_String_value hw)) (ty := .array .byte) (by decide)).ext E105).keep K113 (ninS y100 nin0)).keep K120 (ninS y100 nin0)) ((((D100 (Or.inr (wy_String_String_coder hw)) (ty := .byte) (by decide)).ext E105).keep K113 (ninS y100 nin0)).keep K120 (ninS y100 nin0)) A120 rfl rfl) pd_lACrV rfl rfl rfl rfl rfl (fun _ q => by cases List.mem_singleton.mp q; simp) fun v121 h121 q121 l121 => ?_
        obtain ⟨rfl, K121, T100⟩ := q121
        have F100 : Ext h45 h121 := ext_keep F100_120 K121 (allS (by omega) all0)
        refine g_astore (pc' := 126) (Ls' := #[_, _, _, _, _, _, _, _, _]) at_124 rfl rfl rfl ?_
        refine g_goto (pc' := 211) at_126 (by decide) rfl ?_
        exact Go.drop (Go.mono 7 28 rfl rfl (own_back hw U S hz F rf (j := 2) (by decide) (ext_trans EZ45 F100) (AT.ext F100) T100))
      · refine g_iload (pc' := 131) at_129 rfl rfl ?_
        refine g_iconst (pc' := 132) (w := 3) at_131 rfl (by decide) ?_
        refine g_icmpne (pc' := 135) (pc2 := 171) at_132 rfl (by decide) rfl (fun c132 => ?_) (fun c132 => ?_)
        · have e : j = 3 := (ofNat_inj (by omega) (by omega)).mp c132
          subst e
          refine g_new (pc' := 138) at_135 rfl (wc_Utf16IsWellFormedPinLaw_14 hw) (wn_String hw) (wi_String hw) rfl rfl fun h135 a135 e135 E135 A135 D135 => ?_
          refine g_dup (pc' := 139) at_138 rfl rfl ?_
          refine g_iconst (pc' := 140) (w := 3) at_139 rfl (by decide) ?_
          refine g_newarray (pc' := 142) (cap := 3) at_140 rfl (wa_char hw) (by decide) (by decide) rfl rfl rfl fun h140 a140 k140 e140 E140 A140 => ?_
          have t135 : a135 < h135.size := A135.lt
          have u135 : h45.size ≤ h135.size := E135.1
          have z135 : Z.heap.size ≤ h45.size := (EZ45).1
          have y135 : a135 ≠ a140 := Nat.ne_of_lt (by omega)
          have F135_140 : Ext h45 h140 := (ext_trans E135 E140)
          refine g_dup (pc' := 143) at_142 rfl rfl ?_
          refine g_iconst (pc' := 144) (w := 0) at_143 rfl (by decide) ?_
          refine g_aload (pc' := 146) at_144 rfl rfl rfl ?_
          refine g_iconst (pc' := 147) (w := 0) at_146 rfl (by decide) ?_
          refine g_caload (pc' := 148) at_147 rfl (AT.ext F135_140) (by decide) rfl ?_
          refine g_castoreX (pc' := 149) (i := 0) at_148 rfl (nar16 o0) A140 (by omega) (by decide) (by decide) (ble rfl) fun h148 K148 A148 => ?_
          have F135_148 : Ext h45 h148 := ext_keep F135_140 K148 (allS (by omega) all0)
          refine g_dup (pc' := 150) at_149 rfl rfl ?_
          refine g_iconst (pc' := 151) (w := 1) at_150 rfl (by decide) ?_
          refine g_aload (pc' := 153) at_151 rfl rfl rfl ?_
          refine g_iconst (pc' := 154) (w := 1) at_153 rfl (by decide) ?_
          refine g_caload (pc' := 155) at_154 rfl (AT.ext F135_148) (by decide) rfl ?_
          refine g_castoreX (pc' := 156) (i := 1) at_155 rfl (nar16 o1) A148 (by omega) (by decide) (by decide) (ble rfl) fun h155 K155 A155 => ?_
          have F135_155 : Ext h45 h155 := ext_keep F135_148 K155 (allS (by omega) all0)
          refine g_dup (pc' := 157) at_156 rfl rfl ?_
          refine g_iconst (pc' := 158) (w := 2) at_157 rfl (by decide) ?_
          refine g_aload (pc' := 160) at_158 rfl rfl rfl ?_
          refine g_iconst (pc' := 161) (w := 2) at_160 rfl (by decide) ?_
          refine g_caload (pc' := 162) at_161 rfl (AT.ext F135_155) (by decide) rfl ?_
          refine g_castoreX (pc' := 163) (i := 2) at_162 rfl (nar16 o2) A155 (by omega) (by decide) (by decide) (ble rfl) fun h162 K162 A162 => ?_
          have F135_162 : Ext h45 h162 := ext_keep F135_155 K162 (allS (by omega) all0)
          refine g_invokespecial (pc' := 166) [a135] [_] at_163 rfl rfl (wl_Utf16IsWellFormedPinLaw_16 hw) (wm_String_init_lACrV hw) (wb_String_init_lACrV hw) (by decide) (pay_newAny (cs := [t0, t1, t2]) (M := 4) hw U S hz (ext_trans (EZ45) F135_162) rfl (ble rfl) (ble rfl) (ble rfl) (inS o0 (inS o1 (inS o2 (in0)))) (by omega) (((((A135).ext E140).keep K148).keep K155).keep K162) (((((D135 (Or.inr (wy_String_String_value hw)) (ty := .array .byte) (by decide)).ext E140).keep K148 (ninS y135 nin0)).keep K155 (ninS y135 nin0)).keep K162 (ninS y135 nin0)) (((((D135 (Or.inr (wy_String_String_coder hw)) (ty := .byte) (by decide)).ext E140).keep K148 (ninS y135 nin0)).keep K155 (ninS y135 nin0)).keep K162 (ninS y135 nin0)) A162 rfl rfl) pd_lACrV rfl rfl rfl rfl rfl (fun _ q => by cases List.mem_singleton.mp q; simp) fun v163 h163 q163 l163 => ?_
          obtain ⟨rfl, K163, T135⟩ := q163
          have F135 : Ext h45 h163 := ext_keep F135_162 K163 (allS (by omega) all0)
          refine g_astore (pc' := 168) (Ls' := #[_, _, _, _, _, _, _, _, _]) at_166 rfl rfl rfl ?_
          refine g_goto (pc' := 211) at_168 (by decide) rfl ?_
          exact Go.drop (Go.mono 7 28 rfl rfl (own_back hw U S hz F rf (j := 3) (by decide) (ext_trans EZ45 F135) (AT.ext F135) T135))
        · have e : j = 4 := by
            rcases j with _ | _ | _ | _ | _ | j
            all_goals first | rfl | omega | (exfalso; first | exact c48 rfl | exact c69 rfl | exact c97 rfl | exact c132 rfl)
          subst e
          refine g_new (pc' := 174) at_171 rfl (wc_Utf16IsWellFormedPinLaw_14 hw) (wn_String hw) (wi_String hw) rfl rfl fun h171 a171 e171 E171 A171 D171 => ?_
          refine g_dup (pc' := 175) at_174 rfl rfl ?_
          refine g_iconst (pc' := 176) (w := 4) at_175 rfl (by decide) ?_
          refine g_newarray (pc' := 178) (cap := 4) at_176 rfl (wa_char hw) (by decide) (by decide) rfl rfl rfl fun h176 a176 k176 e176 E176 A176 => ?_
          have t171 : a171 < h171.size := A171.lt
          have u171 : h45.size ≤ h171.size := E171.1
          have z171 : Z.heap.size ≤ h45.size := (EZ45).1
          have y171 : a171 ≠ a176 := Nat.ne_of_lt (by omega)
          have F171_176 : Ext h45 h176 := (ext_trans E171 E176)
          refine g_dup (pc' := 179) at_178 rfl rfl ?_
          refine g_iconst (pc' := 180) (w := 0) at_179 rfl (by decide) ?_
          refine g_aload (pc' := 182) at_180 rfl rfl rfl ?_
          refine g_iconst (pc' := 183) (w := 0) at_182 rfl (by decide) ?_
          refine g_caload (pc' := 184) at_183 rfl (AT.ext F171_176) (by decide) rfl ?_
          refine g_castoreX (pc' := 185) (i := 0) at_184 rfl (nar16 o0) A176 (by omega) (by decide) (by decide) (ble rfl) fun h184 K184 A184 => ?_
          have F171_184 : Ext h45 h184 := ext_keep F171_176 K184 (allS (by omega) all0)
          refine g_dup (pc' := 186) at_185 rfl rfl ?_
          refine g_iconst (pc' := 187) (w := 1) at_186 rfl (by decide) ?_
          refine g_aload (pc' := 189) at_187 rfl rfl rfl ?_
          refine g_iconst (pc' := 190) (w := 1) at_189 rfl (by decide) ?_
          refine g_caload (pc' := 191) at_190 rfl (AT.ext F171_184) (by decide) rfl ?_
          refine g_castoreX (pc' := 192) (i := 1) at_191 rfl (nar16 o1) A184 (by omega) (by decide) (by decide) (ble rfl) fun h191 K191 A191 => ?_
          have F171_191 : Ext h45 h191 := ext_keep F171_184 K191 (allS (by omega) all0)
          refine g_dup (pc' := 193) at_192 rfl rfl ?_
          refine g_iconst (pc' := 194) (w := 2) at_193 rfl (by decide) ?_
          refine g_aload (pc' := 196) at_194 rfl rfl rfl ?_
          refine g_iconst (pc' := 197) (w := 2) at_196 rfl (by decide) ?_
          refine g_caload (pc' := 198) at_197 rfl (AT.ext F171_191) (by decide) rfl ?_
          refine g_castoreX (pc' := 199) (i := 2) at_198 rfl (nar16 o2) A191 (by omega) (by decide) (by decide) (ble rfl) fun h198 K198 A198 => ?_
          have F171_198 : Ext h45 h198 := ext_keep F171_191 K198 (allS (by omega) all0)
          refine g_dup (pc' := 200) at_199 rfl rfl ?_
          refine g_iconst (pc' := 201) (w := 3) at_200 rfl (by decide) ?_
          refine g_aload (pc' := 203) at_201 rfl rfl rfl ?_
          refine g_iconst (pc' := 204) (w := 3) at_203 rfl (by decide) ?_
          refine g_caload (pc' := 205) at_204 rfl (AT.ext F171_198) (by decide) rfl ?_
          refine g_castoreX (pc' := 206) (i := 3) at_205 rfl (nar16 o3) A198 (by omega) (by decide) (by decide) (ble rfl) fun h205 K205 A205 => ?_
          have F171_205 : Ext h45 h205 := ext_keep F171_198 K205 (allS (by omega) all0)
          refine g_invokespecial (pc' := 209) [a171] [_] at_206 rfl rfl (wl_Utf16IsWellFormedPinLaw_16 hw) (wm_String_init_lACrV hw) (wb_String_init_lACrV hw) (by decide) (pay_newAny (cs := [t0, t1, t2, t3]) (M := 4) hw U S hz (ext_trans (EZ45) F171_205) rfl (ble rfl) (ble rfl) (ble rfl) (inS o0 (inS o1 (inS o2 (inS o3 (in0))))) (by omega) ((((((A171).ext E176).keep K184).keep K191).keep K198).keep K205) ((((((D171 (Or.inr (wy_String_String_value hw)) (ty := .array .byte) (by decide)).ext E176).keep K184 (ninS y171 nin0)).keep K191 (ninS y171 nin0)).keep K198 (ninS y171 nin0)).keep K205 (ninS y171 nin0)) ((((((D171 (Or.inr (wy_String_String_coder hw)) (ty := .byte) (by decide)).ext E176).keep K184 (ninS y171 nin0)).keep K191 (ninS y171 nin0)).keep K198 (ninS y171 nin0)).keep K205 (ninS y171 nin0)) A205 rfl rfl) pd_lACrV rfl rfl rfl rfl rfl (fun _ q => by cases List.mem_singleton.mp q; simp) fun v206 h206 q206 l206 => ?_
          obtain ⟨rfl, K206, T171⟩ := q206
          have F171 : Ext h45 h206 := ext_keep F171_205 K206 (allS (by omega) all0)
          refine g_astore (pc' := 211) (Ls' := #[_, _, _, _, _, _, _, _, _]) at_209 rfl rfl rfl ?_
          exact Go.drop (Go.mono 7 28 rfl rfl (own_back hw U S hz F rf (j := 4) (by decide) (ext_trans EZ45 F171) (AT.ext F171) T171))
end Law3
set_option maxRecDepth 65536 in
set_option maxHeartbeats 40000000 in
theorem comes_1 {Post : Tables → Env → Array Value → State → Outcome → State → Prop} (hpost : ∀ tb e args s v u, (limb_1_1.after args s (.returned v) u = true ∧ limb_1_2.after args s (.returned v) u = true ∧ True) → ReturnedEndW s (.returned v) u (Jvm.fieldLocs frame_1_writes args s ++ Jvm.arrayLocs frame_1_arrays args s ++ Jvm.staticLocs frame_1_statics s) 24 1152 → Post tb e args s (.returned v) u) :
    ArmFor flags0 classFile x code maxLocals ret World_1 tables_1 room_1 Calls_1 rest_1 Pre_1 Post := by
  intro l hfl _ _ p e ha hc hk s m args below hf hA hF happ hP
  obtain ⟨hcalls, hrest, hpre⟩ := hP
  obtain ⟨-, -, -, hnamed, -, -, -, hat⟩ := (Spec.applies_iff hf).mp happ
  obtain ⟨hg, hn⟩ := and_e (Cond.before_iff.mp (show (Jvm.Cond.and given_1 narrow_1).before args s = true from hpre))
  obtain ⟨hcount, hg⟩ := and_e hg
  obtain ⟨g0, hg⟩ := and_e hg
  obtain ⟨g1, hg⟩ := and_e hg
  obtain ⟨g2, hg⟩ := and_e hg
  obtain ⟨g3, hg⟩ := and_e hg
  have g4 := hg
  obtain ⟨w0, w1, w2, w3, w4, rfl⟩ : ∃ w0 w1 w2 w3 w4 : Value, args = #[w0, w1, w2, w3, w4] := by
    have hs : args.size = 5 := by simpa [Cond.value, given_1] using hcount
    obtain ⟨L⟩ := args
    match L, hs with
    | [w0, w1, w2, w3, w4], _ => exact ⟨w0, w1, w2, w3, w4, rfl⟩
  have hw := fun d (hd : d ∈ tables_1) => atoms_spec (ws := Jvm.Cond.code x code maxLocals ret :: tables_1) hat d (List.mem_cons_of_mem _ hd)
  obtain ⟨hsets, hown0⟩ := atoms_of _ (rest_1_c_eq ▸ (show rest_1_c.before _ s = true from hrest))
  have hfit : Fit s := fun {y c} hc i hi => by
    obtain ⟨ha, rfl⟩ := Array.getElem?_eq_some_iff.mp hc
    have q := List.all_eq_true.mp ((Array.all_eq_true_iff_forall_mem.mp hF) _ (Array.getElem_mem ha)) i (List.mem_range.mpr hi)
    simpa [Array.getElem?_eq_getElem hi] using q
  obtain ⟨i0, e0⟩ := is_v g0
  obtain rfl : w0 = (.int i0) := Option.some.inj e0
  obtain ⟨i1, e1⟩ := is_v g1
  obtain rfl : w1 = (.int i1) := Option.some.inj e1
  obtain ⟨i2, e2⟩ := is_v g2
  obtain rfl : w2 = (.int i2) := Option.some.inj e2
  obtain ⟨i3, e3⟩ := is_v g3
  obtain rfl : w3 = (.int i3) := Option.some.inj e3
  obtain ⟨i4, e4⟩ := is_v g4
  obtain rfl : w4 = (.int i4) := Option.some.inj e4
  have n5 := not_v (Cond.before_iff.mp (hsets _ (List.mem_of_getElem? (i := 2) rfl)))
  obtain ⟨zc, ezc⟩ := is_v (Cond.before_iff.mp (hsets _ (List.mem_of_getElem? (i := 1) rfl)))
  have S12 : Sta s s.heap "java/lang/String" "COMPACT_STRINGS" "Z" (.int zc) := Sta.start ezc (Or.inl (hsets _ (List.mem_of_getElem? (i := 0) rfl)))
  have c17 : ¬ (zc = (0 : Int32)) := gotF (Cond.eq_ints ezc (Term.int_eval (0))) n5
  obtain ⟨vf, evf, rvf⟩ := isR_v (Cond.before_iff.mp (hsets _ (List.mem_of_getElem? (i := 8) rfl)))
  have S16 : Sta s s.heap "jdk/internal/util/Preconditions" "SIOOBE_FORMATTER" "Ljava/util/function/BiFunction;" vf := Sta.start evf (Or.inl (hsets _ (List.mem_of_getElem? (i := 7) rfl)))
  have sta : ∀ {a : Array Value} {n d : String} {v : Int32}, (Jvm.Cond.eq (Term.static "java/lang/StringUTF16" n d) (Term.int v)).before a s = true → (Jvm.Cond.initializedFor "java/lang/StringUTF16" n d).before a s = true → Sta s s.heap "java/lang/StringUTF16" n d (.int v) := by
    intro a n d v h1 h2
    have h1 := Cond.before_iff.mp h1
    obtain ⟨x, y, e1, e2, k1, k2⟩ := cmp_v (Or.inl h1)
    cases (Term.int_eval v).symm.trans e2
    obtain ⟨x', rfl⟩ : ∃ z, x = .int z := k2
    have := gotT (Cond.eq_ints e1 (Term.int_eval v)) h1
    subst this
    exact Sta.start e1 (Or.inl h2)
  have U : SU s := ⟨sta (hsets _ (List.mem_of_getElem? (i := 12) rfl)) (hsets _ (List.mem_of_getElem? (i := 11) rfl)), sta (hsets _ (List.mem_of_getElem? (i := 15) rfl)) (hsets _ (List.mem_of_getElem? (i := 14) rfl)), sta (hsets _ (List.mem_of_getElem? (i := 18) rfl)) (hsets _ (List.mem_of_getElem? (i := 17) rfl))⟩
  have hheld : ∀ p ∈ consts_1, Jvm.Lit.constHeld s p.1 p.2 := fun p hp => hcalls.1 p hp
  have hcw : Jvm.Lit.compactW.before _ s = true := hsets _ (List.mem_of_getElem? (i := 2) rfl)
  have hEL : EW s _ consts_1 := EW.cons (wt_String_7 hw) (by decide) (EW.nil)
  have hCH : CHv s consts_1 s.vm s.heap := CHv.start hEL hheld hcw (wa_byte hw) (wn_String hw)
  obtain ⟨n, o, h1, h2, h3, _, L, rfl, ⟨rfl, N, -⟩, -, -, hq⟩ := met_law (l := l) hw U S12 c17 S16 rvf tables_1 i0 i1 i2 i3 i4 p e ha hc hk s m _ below hf ((Spec.applies_iff_loose hf).mp happ).1 ⟨rfl, State.Warmed39.refl s, rfl, hCH, ext_refl _, hEL, fun _ q => nomatch q⟩ trivial
  refine ⟨n, _, h1, h2, h3, hpost _ _ _ _ _ _ ⟨Cond.after_iff.mpr rfl, Cond.after_iff.mpr (eq_i res_at (Term.int_eval (1)) rfl), trivial⟩ ⟨hq.1, hq.2.1, hq.2.2.1, (hq.2.2.2.sift fun y hy => Or.inr (N y hy)).mono (by decide) (by decide)⟩⟩
theorem main_1_1 : Claimed_1_1 := comes_1 fun _ _ _ _ _ _ h hF => ⟨h.1, hF⟩
theorem main_1_2 : Claimed_1_2 := comes_1 fun _ _ _ _ _ _ h hF => ⟨h.2.1, hF⟩
end Jvm.Pilot.@@N@@
namespace Jvm.Pilot.@@N@@
open Jvm Jvm.ClassFile Sem Op Lib Jvm.Free Jvm.Stand Jvm.Pilot.@@N@@.Jvm.D
/-! MADE BY PROGRAM (witnessworld.py) out of the Statement's table words and the real class files: 21 classes; the members and pool entries that the words name. The judged class is class 1, her method 1. -/
namespace start1
open Jvm.ClassFile
def u (s : String) : CpInfo := .utf8 (stringToUtf16 s)
/-- a pool by its gaps: so many unusable entries, then the entry; so many at the end -/
def gap : Nat → List CpInfo → List CpInfo
  | 0, r => r
  | n + 1, r => .unusable :: gap n r
def poolList (es : List (Nat × CpInfo)) (last : Nat) : List CpInfo := es.foldr (fun e r => gap e.1 (e.2 :: r)) (gap last [])
def pool (es : List (Nat × CpInfo)) (last : Nat) : Array CpInfo := ⟨poolList es last⟩
def fileOf (pool : Array CpInfo) (this : Nat) (attrs : Array Attribute := #[]) (ms : Array MethodInfo := #[]) (fl : Nat := 33) (sup : Nat := 0) (ifs : Array Nat := #[]) (fds : Array FieldInfo := #[]) : ClassFile where
  minorVersion := 0
  majorVersion := 65
  constantPool := pool
  accessFlags := fl
  thisClass := this
  superClass := sup
  interfaces := ifs
  fields := fds
  methods := ms
  attributes := attrs
def plain (name : String) (sup : Option ClassId) : Class where
  name := name
  kind := .ordinary
  loader := none
  accessFlags := 33
  super := sup
  interfaces := #[]
  cf := none
  fields := #[]
  methods := #[]
  instanceTypes := #[]
  staticTypes := #[]
  resolved := #[]
  callSites := []
  init := .initialized
  statics := none
  mirror := none

def pool0 : Array CpInfo := pool [(5, u "<init>"), (0, u "()V"), (1, .class_ 10), (1, u "java/lang/Object")] 113

def k0c0 : Code := { maxStack := 0, maxLocals := 1, code := object_method_1_code, exceptionTable := #[], attributes := #[] }
def k0m0 : Method := { name := "<init>", desc := "()V", sig := { parameters := [], returnType := none }, accessFlags := 1, code := some k0c0 }
/-- java/lang/Object -/
def k0 : Class := { plain "java/lang/Object" none with
  accessFlags := 33
  interfaces := #[]
  cf := some (fileOf pool0 8 #[] #[{ accessFlags := 1, nameIndex := 5, descriptorIndex := 6, attributes := #[] }] 33 0 #[] #[])
  fields := #[]
  methods := #[k0m0]
  instanceTypes := #[]
  staticTypes := #[]
  resolved := Array.replicate 124 none
  statics := none }

def pool1 : Array CpInfo := pool [(2, .class_ 4), (1, u "java/lang/Object"), (0, u "<init>"), (0, u "()V"), (0, .integer 2147483647), (0, .methodref 9 10), (0, .class_ 11), (0, .nameAndType 12 13), (0, u "com/example/streetd/streetd/web/Utf16IsWellFormedPinLaw"), (0, u "draw"), (0, u "(I)C"), (0, .class_ 15), (0, u "java/lang/String"), (0, .methodref 14 17), (0, .nameAndType 5 18), (0, u "([C)V"), (0, .methodref 9 20), (0, .nameAndType 21 22), (0, u "lone"), (0, u "([CII)Z"), (0, .methodref 24 25), (0, .class_ 26), (0, .nameAndType 27 28), (0, u "com/example/streetd/streetd/web/Utf16"), (0, u "isWellFormed"), (0, u "(Ljava/lang/CharSequence;)Z"), (0, .integer 65536), (0, .integer 55296), (0, .integer 65535), (0, .integer 56319), (0, .integer 56320), (0, .integer 57343), (0, .methodref 9 36), (0, .nameAndType 37 38), (0, u "high"), (0, u "(C)Z"), (0, .methodref 9 40), (0, .nameAndType 41 38), (0, u "low"), (2, u "law"), (0, u "(IIIII)Z")] 5

def k1m0 : Method := { name := "<init>", desc := "()V", sig := { parameters := [], returnType := none }, accessFlags := 1, code := none }
def k1c1 : Code := { maxStack := 7, maxLocals := 9, code := code, exceptionTable := #[], attributes := #[] }
def k1m1 : Method := { name := "law", desc := "(IIIII)Z", sig := { parameters := [.int, .int, .int, .int, .int], returnType := some .boolean }, accessFlags := 9, code := some k1c1 }
def k1c2 : Code := { maxStack := 3, maxLocals := 1, code := method_3_code, exceptionTable := #[], attributes := #[] }
def k1m2 : Method := { name := "draw", desc := "(I)C", sig := { parameters := [.int], returnType := some .char }, accessFlags := 10, code := some k1c2 }
def k1c3 : Code := { maxStack := 2, maxLocals := 1, code := method_4_code, exceptionTable := #[], attributes := #[] }
def k1m3 : Method := { name := "high", desc := "(C)Z", sig := { parameters := [.char], returnType := some .boolean }, accessFlags := 10, code := some k1c3 }
def k1c4 : Code := { maxStack := 2, maxLocals := 1, code := method_5_code, exceptionTable := #[], attributes := #[] }
def k1m4 : Method := { name := "low", desc := "(C)Z", sig := { parameters := [.char], returnType := some .boolean }, accessFlags := 10, code := some k1c4 }
def k1c5 : Code := { maxStack := 3, maxLocals := 4, code := method_6_code, exceptionTable := #[], attributes := #[] }
def k1m5 : Method := { name := "lone", desc := "([CII)Z", sig := { parameters := [(.array .char), .int, .int], returnType := some .boolean }, accessFlags := 10, code := some k1c5 }
/-- com/example/streetd/streetd/web/Utf16IsWellFormedPinLaw -/
def k1 : Class := { plain "com/example/streetd/streetd/web/Utf16IsWellFormedPinLaw" (some 0) with
  accessFlags := 49
  interfaces := #[]
  cf := some (fileOf pool1 9 #[] #[{ accessFlags := 1, nameIndex := 5, descriptorIndex := 6, attributes := #[] }, { accessFlags := 9, nameIndex := 44, descriptorIndex := 45, attributes := #[] }, { accessFlags := 10, nameIndex := 12, descriptorIndex := 13, attributes := #[] }, { accessFlags := 10, nameIndex := 37, descriptorIndex := 38, attributes := #[] }, { accessFlags := 10, nameIndex := 41, descriptorIndex := 38, attributes := #[] }, { accessFlags := 10, nameIndex := 21, descriptorIndex := 22, attributes := #[] }] 49 2 #[] #[])
  fields := #[]
  methods := #[k1m0, k1m1, k1m2, k1m3, k1m4, k1m5]
  instanceTypes := #[]
  staticTypes := #[]
  resolved := Array.replicate 51 none
  statics := none }

def pool2 : Array CpInfo := pool [(1, .class_ 2), (0, u "java/io/Serializable"), (0, .class_ 4), (0, u "java/lang/Object")] 2

/-- java/io/Serializable -/
def k2 : Class := { plain "java/io/Serializable" (some 0) with
  accessFlags := 1537
  interfaces := #[]
  cf := some (fileOf pool2 1 #[] #[] 1537 3 #[] #[])
  fields := #[]
  methods := #[]
  instanceTypes := #[]
  staticTypes := #[]
  resolved := Array.replicate 7 none
  statics := none }

def pool3 : Array CpInfo := pool [(1, .class_ 2), (0, u "java/lang/Comparable"), (0, .class_ 4), (0, u "java/lang/Object")] 7

/-- java/lang/Comparable -/
def k3 : Class := { plain "java/lang/Comparable" (some 0) with
  accessFlags := 1537
  interfaces := #[]
  cf := some (fileOf pool3 1 #[] #[] 1537 3 #[] #[])
  fields := #[]
  methods := #[]
  instanceTypes := #[]
  staticTypes := #[]
  resolved := Array.replicate 12 none
  statics := none }

def pool4 : Array CpInfo := pool [(2, .class_ 4), (1, u "java/lang/CharSequence"), (0, u "length"), (0, u "()I"), (38, u "charAt"), (0, u "(I)C"), (0, .class_ 48), (0, u "java/lang/CharSequence$1CodePointIterator"), (10, .class_ 60), (0, u "java/lang/CharSequence$1CharIterator"), (5, .class_ 67), (0, u "java/lang/Object")] 63

def k4m0 : Method := { name := "length", desc := "()I", sig := { parameters := [], returnType := some .int }, accessFlags := 1025, code := none }
def k4m1 : Method := { name := "charAt", desc := "(I)C", sig := { parameters := [.int], returnType := some .char }, accessFlags := 1025, code := none }
/-- java/lang/CharSequence -/
def k4 : Class := { plain "java/lang/CharSequence" (some 0) with
  accessFlags := 1537
  interfaces := #[]
  cf := some (fileOf pool4 2 #[.nestMembers #[47, 59]] #[{ accessFlags := 1025, nameIndex := 5, descriptorIndex := 6, attributes := #[] }, { accessFlags := 1025, nameIndex := 45, descriptorIndex := 46, attributes := #[] }] 1537 66 #[] #[])
  fields := #[]
  methods := #[k4m0, k4m1]
  instanceTypes := #[]
  staticTypes := #[]
  resolved := Array.replicate 131 none
  statics := none }

def pool5 : Array CpInfo := pool [(1, .class_ 2), (0, u "java/lang/constant/Constable"), (0, .class_ 4), (0, u "java/lang/Object")] 6

/-- java/lang/constant/Constable -/
def k5 : Class := { plain "java/lang/constant/Constable" (some 0) with
  accessFlags := 1537
  interfaces := #[]
  cf := some (fileOf pool5 1 #[] #[] 1537 3 #[] #[])
  fields := #[]
  methods := #[]
  instanceTypes := #[]
  staticTypes := #[]
  resolved := Array.replicate 11 none
  statics := none }

def pool6 : Array CpInfo := pool [(1, .class_ 2), (0, u "java/lang/constant/ConstantDesc"), (0, .class_ 4), (0, u "java/lang/Object")] 32

/-- java/lang/constant/ConstantDesc -/
def k6 : Class := { plain "java/lang/constant/ConstantDesc" (some 0) with
  accessFlags := 1537
  interfaces := #[]
  cf := some (fileOf pool6 1 #[] #[] 1537 3 #[] #[])
  fields := #[]
  methods := #[]
  instanceTypes := #[]
  staticTypes := #[]
  resolved := Array.replicate 37 none
  statics := none }

def pool7 : Array CpInfo := pool [(1, .methodref 2 3), (0, .class_ 4), (0, .nameAndType 5 6), (0, u "java/lang/Object"), (0, u "<init>"), (0, u "()V"), (0, .string 8), (0, u ""), (0, .fieldref 10 11), (0, .class_ 12), (0, .nameAndType 13 14), (0, u "java/lang/String"), (0, u "value"), (0, u "[B"), (0, .fieldref 10 16), (0, .nameAndType 17 18), (0, u "coder"), (0, u "B"), (2, u "hash"), (0, u "I"), (2, u "hashIsZero"), (0, u "Z"), (0, .methodref 10 28), (0, .nameAndType 5 29), (0, u "([CIILjava/lang/Void;)V"), (8, .fieldref 10 39), (0, .nameAndType 40 26), (0, u "COMPACT_STRINGS"), (1, .class_ 44), (1, u "java/lang/StringUTF16"), (0, u "compress"), (1, .methodref 42 48), (0, .nameAndType 49 50), (0, u "coderFromArrayLen"), (0, u "([BI)B"), (56, .class_ 109), (1, u "java/lang/StringLatin1"), (32, u "()Z"), (34, .methodref 42 178), (0, .nameAndType 45 179), (0, u "([CII)[B"), (154, u "()I"), (0, .methodref 10 336), (0, .nameAndType 17 337), (0, u "()B"), (25, u "([BI)C"), (27, u "(II)V"), (35, u "(I)C"), (64, .methodref 10 493), (0, .nameAndType 494 142), (0, u "isLatin1"), (0, .methodref 107 496), (0, .nameAndType 497 363), (0, u "charAt"), (0, .methodref 42 496), (2, u "checkIndex"), (5, u "length"), (67, .class_ 576), (0, u "java/lang/CharSequence"), (22, u "CASE_INSENSITIVE_ORDER"), (0, u "Ljava/util/Comparator;"), (409, u "([C)V"), (42, .fieldref 1054 1055), (0, .class_ 1056), (0, .nameAndType 1057 1058), (0, u "jdk/internal/util/Preconditions"), (0, u "SIOOBE_FORMATTER"), (0, u "Ljava/util/function/BiFunction;"), (0, .methodref 1054 1060), (0, .nameAndType 501 1061), (0, u "(IILjava/util/function/BiFunction;)I"), (39, u "serialPersistentFields"), (0, u "[Ljava/io/ObjectStreamField;"), (0, .class_ 1104), (0, u "java/lang/String$CaseInsensitiveComparator"), (1, .class_ 1107), (0, u "java/io/Serializable"), (0, .class_ 1109), (0, u "java/lang/Comparable"), (0, .class_ 1111), (0, u "java/lang/constant/Constable"), (0, .class_ 1113), (0, u "java/lang/constant/ConstantDesc"), (2, u "serialVersionUID"), (0, u "J"), (3, u "REPL"), (0, u "C"), (2, u "LATIN1"), (1, u "UTF16")] 323

def k7m0 : Method := { name := "<init>", desc := "()V", sig := { parameters := [], returnType := none }, accessFlags := 1, code := none }
def k7c1 : Code := { maxStack := 5, maxLocals := 2, code := jdk_42_method_3_code, exceptionTable := #[], attributes := #[] }
def k7m1 : Method := { name := "<init>", desc := "([C)V", sig := { parameters := [(.array .char)], returnType := none }, accessFlags := 1, code := some k7c1 }
def k7c2 : Code := { maxStack := 2, maxLocals := 1, code := jdk_42_method_54_code, exceptionTable := #[], attributes := #[] }
def k7m2 : Method := { name := "length", desc := "()I", sig := { parameters := [], returnType := some .int }, accessFlags := 1, code := some k7c2 }
def k7c3 : Code := { maxStack := 2, maxLocals := 2, code := jdk_42_method_56_code, exceptionTable := #[], attributes := #[] }
def k7m3 : Method := { name := "charAt", desc := "(I)C", sig := { parameters := [.int], returnType := some .char }, accessFlags := 1, code := some k7c3 }
def k7c4 : Code := { maxStack := 4, maxLocals := 6, code := jdk_42_method_149_code, exceptionTable := #[], attributes := #[] }
def k7m4 : Method := { name := "<init>", desc := "([CIILjava/lang/Void;)V", sig := { parameters := [(.array .char), .int, .int, (.object "java/lang/Void")], returnType := none }, accessFlags := 2, code := some k7c4 }
def k7c5 : Code := { maxStack := 1, maxLocals := 1, code := jdk_42_method_152_code, exceptionTable := #[], attributes := #[] }
def k7m5 : Method := { name := "coder", desc := "()B", sig := { parameters := [], returnType := some .byte }, accessFlags := 0, code := some k7c5 }
def k7c6 : Code := { maxStack := 1, maxLocals := 1, code := jdk_42_method_154_code, exceptionTable := #[], attributes := #[] }
def k7m6 : Method := { name := "isLatin1", desc := "()Z", sig := { parameters := [], returnType := some .boolean }, accessFlags := 0, code := some k7c6 }
def k7c7 : Code := { maxStack := 3, maxLocals := 2, code := jdk_42_method_155_code, exceptionTable := #[], attributes := #[] }
def k7m7 : Method := { name := "checkIndex", desc := "(II)V", sig := { parameters := [.int, .int], returnType := none }, accessFlags := 8, code := some k7c7 }
/-- java/lang/String -/
def k7 : Class := { plain "java/lang/String" (some 0) with
  accessFlags := 49
  interfaces := #[2, 3, 4, 5, 6]
  cf := some (fileOf pool7 10 #[.nestMembers #[1103]] #[{ accessFlags := 1, nameIndex := 5, descriptorIndex := 6, attributes := #[] }, { accessFlags := 1, nameIndex := 5, descriptorIndex := 1010, attributes := #[] }, { accessFlags := 1, nameIndex := 507, descriptorIndex := 334, attributes := #[] }, { accessFlags := 1, nameIndex := 497, descriptorIndex := 427, attributes := #[] }, { accessFlags := 2, nameIndex := 5, descriptorIndex := 29, attributes := #[] }, { accessFlags := 0, nameIndex := 17, descriptorIndex := 337, attributes := #[] }, { accessFlags := 0, nameIndex := 494, descriptorIndex := 142, attributes := #[] }, { accessFlags := 8, nameIndex := 501, descriptorIndex := 391, attributes := #[] }] 49 2 #[1106, 1108, 575, 1110, 1112] #[{ accessFlags := 18, nameIndex := 13, descriptorIndex := 14, attributes := #[] }, { accessFlags := 18, nameIndex := 17, descriptorIndex := 18, attributes := #[] }, { accessFlags := 2, nameIndex := 21, descriptorIndex := 22, attributes := #[] }, { accessFlags := 2, nameIndex := 25, descriptorIndex := 26, attributes := #[] }, { accessFlags := 26, nameIndex := 1116, descriptorIndex := 1117, attributes := #[] }, { accessFlags := 24, nameIndex := 40, descriptorIndex := 26, attributes := #[] }, { accessFlags := 26, nameIndex := 1101, descriptorIndex := 1102, attributes := #[] }, { accessFlags := 26, nameIndex := 1121, descriptorIndex := 1122, attributes := #[] }, { accessFlags := 25, nameIndex := 599, descriptorIndex := 600, attributes := #[] }, { accessFlags := 24, nameIndex := 1125, descriptorIndex := 18, attributes := #[] }, { accessFlags := 24, nameIndex := 1127, descriptorIndex := 18, attributes := #[] }])
  fields := #[{ name := "value", type := (.array .byte), accessFlags := 18, slot := 0, constantValue := 0 }, { name := "coder", type := .byte, accessFlags := 18, slot := 1, constantValue := 0 }, { name := "hash", type := .int, accessFlags := 2, slot := 2, constantValue := 0 }, { name := "hashIsZero", type := .boolean, accessFlags := 2, slot := 3, constantValue := 0 }, { name := "serialVersionUID", type := .long, accessFlags := 26, slot := 0, constantValue := 0 }, { name := "COMPACT_STRINGS", type := .boolean, accessFlags := 24, slot := 1, constantValue := 0 }, { name := "serialPersistentFields", type := (.array (.object "java/io/ObjectStreamField")), accessFlags := 26, slot := 2, constantValue := 0 }, { name := "REPL", type := .char, accessFlags := 26, slot := 3, constantValue := 0 }, { name := "CASE_INSENSITIVE_ORDER", type := (.object "java/util/Comparator"), accessFlags := 25, slot := 4, constantValue := 0 }, { name := "LATIN1", type := .byte, accessFlags := 24, slot := 5, constantValue := 0 }, { name := "UTF16", type := .byte, accessFlags := 24, slot := 6, constantValue := 0 }]
  methods := #[k7m0, k7m1, k7m2, k7m3, k7m4, k7m5, k7m6, k7m7]
  instanceTypes := #[(.array .byte), .byte, .int, .boolean]
  staticTypes := #[.long, .boolean, (.array (.object "java/io/ObjectStreamField")), .char, (.object "java/util/Comparator"), .byte, .byte]
  resolved := Array.replicate 1451 none
  statics := some 0 }

def pool8 : Array CpInfo := pool [(2, .class_ 4), (1, u "java/lang/Object"), (0, u "<init>"), (0, u "()V"), (0, .methodref 8 9), (0, .class_ 10), (0, .nameAndType 11 12), (0, u "com/example/streetd/streetd/web/Utf16"), (0, u "loneSurrogate"), (0, u "(Ljava/lang/CharSequence;I)I"), (10, .interfaceMethodref 24 25), (0, .class_ 26), (0, .nameAndType 27 28), (0, u "java/lang/CharSequence"), (0, u "length"), (0, u "()I"), (0, .interfaceMethodref 24 30), (0, .nameAndType 31 32), (0, u "charAt"), (0, u "(I)C"), (0, .methodref 34 35), (0, .class_ 36), (0, .nameAndType 37 38), (0, u "java/lang/Character"), (0, u "isSurrogate"), (0, u "(C)Z"), (0, .methodref 34 40), (0, .nameAndType 41 38), (0, u "isHighSurrogate"), (0, .methodref 34 43), (0, .nameAndType 44 38), (0, u "isLowSurrogate"), (0, u "REPLACEMENT"), (0, u "C"), (3, u "isWellFormed"), (0, u "(Ljava/lang/CharSequence;)Z")] 7

def k8m0 : Method := { name := "<init>", desc := "()V", sig := { parameters := [], returnType := none }, accessFlags := 2, code := none }
def k8c1 : Code := { maxStack := 2, maxLocals := 1, code := prog_28_method_2_code, exceptionTable := #[], attributes := #[] }
def k8m1 : Method := { name := "isWellFormed", desc := "(Ljava/lang/CharSequence;)Z", sig := { parameters := [(.object "java/lang/CharSequence")], returnType := some .boolean }, accessFlags := 8, code := some k8c1 }
def k8c2 : Code := { maxStack := 3, maxLocals := 6, code := prog_28_method_4_code, exceptionTable := #[], attributes := #[] }
def k8m2 : Method := { name := "loneSurrogate", desc := "(Ljava/lang/CharSequence;I)I", sig := { parameters := [(.object "java/lang/CharSequence"), .int], returnType := some .int }, accessFlags := 10, code := some k8c2 }
/-- com/example/streetd/streetd/web/Utf16 -/
def k8 : Class := { plain "com/example/streetd/streetd/web/Utf16" (some 0) with
  accessFlags := 48
  interfaces := #[]
  cf := some (fileOf pool8 8 #[] #[{ accessFlags := 2, nameIndex := 5, descriptorIndex := 6, attributes := #[] }, { accessFlags := 8, nameIndex := 50, descriptorIndex := 51, attributes := #[] }, { accessFlags := 10, nameIndex := 11, descriptorIndex := 12, attributes := #[] }] 48 2 #[] #[{ accessFlags := 24, nameIndex := 45, descriptorIndex := 46, attributes := #[] }])
  fields := #[{ name := "REPLACEMENT", type := .char, accessFlags := 24, slot := 0, constantValue := 0 }]
  methods := #[k8m0, k8m1, k8m2]
  instanceTypes := #[]
  staticTypes := #[.char]
  resolved := Array.replicate 59 none
  statics := none }

def pool9 : Array CpInfo := pool [(3, .class_ 4), (0, u "java/lang/String"), (1, .class_ 8), (1, u "java/lang/Object"), (0, u "<init>"), (0, u "()V"), (0, .methodref 12 13), (0, .class_ 14), (0, .nameAndType 15 16), (0, u "java/lang/StringUTF16"), (0, u "newBytesLength"), (0, u "(I)I"), (3, .integer 1073741823), (23, .fieldref 12 45), (0, .nameAndType 46 47), (0, u "$assertionsDisabled"), (0, u "Z"), (0, .methodref 12 49), (0, .nameAndType 50 51), (0, u "length"), (0, u "([B)I"), (7, .fieldref 12 60), (0, .nameAndType 61 62), (0, u "HI_BYTE_SHIFT"), (0, u "I"), (0, .fieldref 12 64), (0, .nameAndType 65 62), (0, u "LO_BYTE_SHIFT"), (1, .methodref 12 68), (0, .nameAndType 69 70), (0, u "checkIndex"), (0, u "(I[B)V"), (0, .methodref 12 72), (0, .nameAndType 73 74), (0, u "getChar"), (0, u "([BI)C"), (32, .methodref 12 108), (0, .nameAndType 109 110), (0, u "newBytesFor"), (0, u "(I)[B"), (0, .methodref 12 112), (0, .nameAndType 113 114), (0, u "putChar"), (0, u "([BII)V"), (0, .methodref 12 116), (0, .nameAndType 117 118), (0, u "compress"), (0, u "([CI[BII)I"), (0, .methodref 12 120), (0, .nameAndType 121 122), (0, u "toBytes"), (0, u "([CII)[B"), (138, u "coderFromArrayLen"), (0, u "([BI)B"), (106, .class_ 371), (1, u "java/lang/StringUTF16$LinesSpliterator"), (20, u "charAt"), (21, .methodref 3 415), (0, .nameAndType 69 416), (0, u "(II)V"), (13, u "MAX_LENGTH"), (196, .class_ 628), (0, u "java/lang/StringUTF16$CodePointsSpliterator"), (0, .class_ 630), (0, u "java/lang/StringUTF16$CharsSpliterator")] 4

def k9m0 : Method := { name := "<init>", desc := "()V", sig := { parameters := [], returnType := none }, accessFlags := 0, code := none }
def k9c1 : Code := { maxStack := 1, maxLocals := 1, code := jdk_52_method_2_code, exceptionTable := #[], attributes := #[] }
def k9m1 : Method := { name := "newBytesFor", desc := "(I)[B", sig := { parameters := [.int], returnType := some (.array .byte) }, accessFlags := 9, code := some k9c1 }
def k9c2 : Code := { maxStack := 4, maxLocals := 1, code := jdk_52_method_3_code, exceptionTable := #[], attributes := #[] }
def k9m2 : Method := { name := "newBytesLength", desc := "(I)I", sig := { parameters := [.int], returnType := some .int }, accessFlags := 9, code := some k9c2 }
def k9c3 : Code := { maxStack := 4, maxLocals := 3, code := jdk_52_method_4_code, exceptionTable := #[], attributes := #[] }
def k9m3 : Method := { name := "putChar", desc := "([BII)V", sig := { parameters := [(.array .byte), .int, .int], returnType := none }, accessFlags := 8, code := some k9c3 }
def k9c4 : Code := { maxStack := 3, maxLocals := 2, code := jdk_52_method_5_code, exceptionTable := #[], attributes := #[] }
def k9m4 : Method := { name := "getChar", desc := "([BI)C", sig := { parameters := [(.array .byte), .int], returnType := some .char }, accessFlags := 8, code := some k9c4 }
def k9c5 : Code := { maxStack := 2, maxLocals := 1, code := jdk_52_method_6_code, exceptionTable := #[], attributes := #[] }
def k9m5 : Method := { name := "length", desc := "([B)I", sig := { parameters := [(.array .byte)], returnType := some .int }, accessFlags := 9, code := some k9c5 }
def k9c6 : Code := { maxStack := 4, maxLocals := 5, code := jdk_52_method_14_code, exceptionTable := #[], attributes := #[] }
def k9m6 : Method := { name := "toBytes", desc := "([CII)[B", sig := { parameters := [(.array .char), .int, .int], returnType := some (.array .byte) }, accessFlags := 9, code := some k9c6 }
def k9c7 : Code := { maxStack := 2, maxLocals := 2, code := jdk_52_method_15_code, exceptionTable := #[], attributes := #[] }
def k9m7 : Method := { name := "coderFromArrayLen", desc := "([BI)B", sig := { parameters := [(.array .byte), .int], returnType := some .byte }, accessFlags := 8, code := some k9c7 }
def k9c8 : Code := { maxStack := 5, maxLocals := 6, code := jdk_52_method_16_code, exceptionTable := #[], attributes := #[] }
def k9m8 : Method := { name := "compress", desc := "([CII)[B", sig := { parameters := [(.array .char), .int, .int], returnType := some (.array .byte) }, accessFlags := 9, code := some k9c8 }
def k9c9 : Code := { maxStack := 3, maxLocals := 7, code := jdk_52_method_21_code, exceptionTable := #[], attributes := #[] }
def k9m9 : Method := { name := "compress", desc := "([CI[BII)I", sig := { parameters := [(.array .char), .int, (.array .byte), .int, .int], returnType := some .int }, accessFlags := 9, code := some k9c9 }
def k9c10 : Code := { maxStack := 2, maxLocals := 2, code := jdk_52_method_83_code, exceptionTable := #[], attributes := #[] }
def k9m10 : Method := { name := "charAt", desc := "([BI)C", sig := { parameters := [(.array .byte), .int], returnType := some .char }, accessFlags := 9, code := some k9c10 }
def k9c11 : Code := { maxStack := 2, maxLocals := 2, code := jdk_52_method_91_code, exceptionTable := #[], attributes := #[] }
def k9m11 : Method := { name := "checkIndex", desc := "(I[B)V", sig := { parameters := [.int, (.array .byte)], returnType := none }, accessFlags := 9, code := some k9c11 }
/-- java/lang/StringUTF16 -/
def k9 : Class := { plain "java/lang/StringUTF16" (some 0) with
  accessFlags := 48
  interfaces := #[]
  cf := some (fileOf pool9 12 #[.nestMembers #[627, 629, 369]] #[{ accessFlags := 0, nameIndex := 9, descriptorIndex := 10, attributes := #[] }, { accessFlags := 9, nameIndex := 109, descriptorIndex := 110, attributes := #[] }, { accessFlags := 9, nameIndex := 15, descriptorIndex := 16, attributes := #[] }, { accessFlags := 8, nameIndex := 113, descriptorIndex := 114, attributes := #[] }, { accessFlags := 8, nameIndex := 73, descriptorIndex := 74, attributes := #[] }, { accessFlags := 9, nameIndex := 50, descriptorIndex := 51, attributes := #[] }, { accessFlags := 9, nameIndex := 121, descriptorIndex := 122, attributes := #[] }, { accessFlags := 8, nameIndex := 261, descriptorIndex := 262, attributes := #[] }, { accessFlags := 9, nameIndex := 117, descriptorIndex := 122, attributes := #[] }, { accessFlags := 9, nameIndex := 117, descriptorIndex := 118, attributes := #[] }, { accessFlags := 9, nameIndex := 392, descriptorIndex := 74, attributes := #[] }, { accessFlags := 9, nameIndex := 69, descriptorIndex := 70, attributes := #[] }] 48 6 #[] #[{ accessFlags := 26, nameIndex := 61, descriptorIndex := 62, attributes := #[] }, { accessFlags := 26, nameIndex := 65, descriptorIndex := 62, attributes := #[] }, { accessFlags := 24, nameIndex := 430, descriptorIndex := 62, attributes := #[] }, { accessFlags := 4120, nameIndex := 46, descriptorIndex := 47, attributes := #[] }])
  fields := #[{ name := "HI_BYTE_SHIFT", type := .int, accessFlags := 26, slot := 0, constantValue := 0 }, { name := "LO_BYTE_SHIFT", type := .int, accessFlags := 26, slot := 1, constantValue := 0 }, { name := "MAX_LENGTH", type := .int, accessFlags := 24, slot := 2, constantValue := 0 }, { name := "$assertionsDisabled", type := .boolean, accessFlags := 4120, slot := 3, constantValue := 0 }]
  methods := #[k9m0, k9m1, k9m2, k9m3, k9m4, k9m5, k9m6, k9m7, k9m8, k9m9, k9m10, k9m11]
  instanceTypes := #[]
  staticTypes := #[.int, .int, .int, .boolean]
  resolved := Array.replicate 635 none
  statics := some 1 }

def pool10 : Array CpInfo := pool [(1, .class_ 2), (0, u "java/lang/String"), (1, .class_ 6), (1, u "java/lang/Object"), (0, u "<init>"), (0, u "()V"), (0, .methodref 1 10), (0, .nameAndType 11 12), (0, u "checkIndex"), (0, u "(II)V"), (1, .class_ 16), (1, u "java/lang/StringLatin1"), (36, u "([BI)C"), (67, u "$assertionsDisabled"), (0, u "Z"), (98, .class_ 223), (1, u "java/lang/StringLatin1$LinesSpliterator"), (28, u "charAt"), (137, .class_ 391), (0, u "java/lang/StringLatin1$CharsSpliterator")] 3

def k10m0 : Method := { name := "<init>", desc := "()V", sig := { parameters := [], returnType := none }, accessFlags := 0, code := none }
def k10c1 : Code := { maxStack := 2, maxLocals := 2, code := jdk_43_method_2_code, exceptionTable := #[], attributes := #[] }
def k10m1 : Method := { name := "charAt", desc := "([BI)C", sig := { parameters := [(.array .byte), .int], returnType := some .char }, accessFlags := 9, code := some k10c1 }
/-- java/lang/StringLatin1 -/
def k10 : Class := { plain "java/lang/StringLatin1" (some 0) with
  accessFlags := 48
  interfaces := #[]
  cf := some (fileOf pool10 14 #[.nestMembers #[390, 221]] #[{ accessFlags := 0, nameIndex := 7, descriptorIndex := 8, attributes := #[] }, { accessFlags := 9, nameIndex := 252, descriptorIndex := 53, attributes := #[] }] 48 4 #[] #[{ accessFlags := 4120, nameIndex := 121, descriptorIndex := 122, attributes := #[] }])
  fields := #[{ name := "$assertionsDisabled", type := .boolean, accessFlags := 4120, slot := 0, constantValue := 0 }]
  methods := #[k10m0, k10m1]
  instanceTypes := #[]
  staticTypes := #[.boolean]
  resolved := Array.replicate 395 none
  statics := none }

def pool11 : Array CpInfo := pool [(2, .class_ 4), (1, u "java/lang/Object"), (0, u "<init>"), (0, u "()V"), (17, .class_ 26), (1, u "jdk/internal/util/Preconditions"), (6, u "checkIndex"), (21, .class_ 56), (0, u "jdk/internal/util/Preconditions$4"), (57, .class_ 115), (0, u "jdk/internal/util/Preconditions$1"), (7, u "SIOOBE_FORMATTER"), (0, u "Ljava/util/function/BiFunction;"), (0, .class_ 126), (0, u "jdk/internal/util/Preconditions$2"), (3, u "AIOOBE_FORMATTER"), (0, .class_ 132), (0, u "jdk/internal/util/Preconditions$3"), (3, u "IOOBE_FORMATTER"), (41, u "(IILjava/util/function/BiFunction;)I")] 15

def k11m0 : Method := { name := "<init>", desc := "()V", sig := { parameters := [], returnType := none }, accessFlags := 1, code := none }
def k11c1 : Code := { maxStack := 3, maxLocals := 3, code := jdk_41_method_11_code, exceptionTable := #[], attributes := #[] }
def k11m1 : Method := { name := "checkIndex", desc := "(IILjava/util/function/BiFunction;)I", sig := { parameters := [.int, .int, (.object "java/util/function/BiFunction")], returnType := some .int }, accessFlags := 9, code := some k11c1 }
/-- jdk/internal/util/Preconditions -/
def k11 : Class := { plain "jdk/internal/util/Preconditions" (some 0) with
  accessFlags := 33
  interfaces := #[]
  cf := some (fileOf pool11 24 #[.nestMembers #[55, 131, 125, 114]] #[{ accessFlags := 1, nameIndex := 5, descriptorIndex := 6, attributes := #[] }, { accessFlags := 9, nameIndex := 33, descriptorIndex := 178, attributes := #[] }] 33 2 #[] #[{ accessFlags := 25, nameIndex := 123, descriptorIndex := 124, attributes := #[] }, { accessFlags := 25, nameIndex := 130, descriptorIndex := 124, attributes := #[] }, { accessFlags := 25, nameIndex := 136, descriptorIndex := 124, attributes := #[] }])
  fields := #[{ name := "SIOOBE_FORMATTER", type := (.object "java/util/function/BiFunction"), accessFlags := 25, slot := 0, constantValue := 0 }, { name := "AIOOBE_FORMATTER", type := (.object "java/util/function/BiFunction"), accessFlags := 25, slot := 1, constantValue := 0 }, { name := "IOOBE_FORMATTER", type := (.object "java/util/function/BiFunction"), accessFlags := 25, slot := 2, constantValue := 0 }]
  methods := #[k11m0, k11m1]
  instanceTypes := #[]
  staticTypes := #[(.object "java/util/function/BiFunction"), (.object "java/util/function/BiFunction"), (.object "java/util/function/BiFunction")]
  resolved := Array.replicate 194 none
  statics := some 2 }

def pool12 : Array CpInfo := pool [(1, .class_ 2), (0, u "java/lang/Character"), (18, u "value"), (0, u "C"), (19, .class_ 44), (1, u "java/lang/Object"), (3, .class_ 50), (1, u "java/lang/Character$CharacterCache"), (24, .integer 55296), (0, .integer 56320), (0, .integer 57344), (2, u "isHighSurrogate"), (0, u "(C)Z"), (2, u "isLowSurrogate"), (199, u "$assertionsDisabled"), (0, u "Z"), (21, .class_ 309), (1, u "java/lang/Character$UnicodeBlock"), (73, u "TYPE"), (0, u "Ljava/lang/Class;"), (0, .class_ 386), (0, u "java/io/Serializable"), (0, .class_ 388), (0, u "java/lang/Comparable"), (0, .class_ 390), (0, u "java/lang/constant/Constable"), (0, u "MIN_RADIX"), (0, u "I"), (2, u "MAX_RADIX"), (1, u "MIN_VALUE"), (1, u "MAX_VALUE"), (3, u "UNASSIGNED"), (0, u "B"), (0, u "UPPERCASE_LETTER"), (1, u "LOWERCASE_LETTER"), (0, u "TITLECASE_LETTER"), (1, u "MODIFIER_LETTER"), (1, u "OTHER_LETTER"), (1, u "NON_SPACING_MARK"), (1, u "ENCLOSING_MARK"), (1, u "COMBINING_SPACING_MARK"), (1, u "DECIMAL_DIGIT_NUMBER"), (1, u "LETTER_NUMBER"), (1, u "OTHER_NUMBER"), (1, u "SPACE_SEPARATOR"), (1, u "LINE_SEPARATOR"), (1, u "PARAGRAPH_SEPARATOR"), (1, u "CONTROL"), (1, u "FORMAT"), (1, u "PRIVATE_USE"), (1, u "SURROGATE"), (1, u "DASH_PUNCTUATION"), (1, u "START_PUNCTUATION"), (1, u "END_PUNCTUATION"), (1, u "CONNECTOR_PUNCTUATION"), (1, u "OTHER_PUNCTUATION"), (1, u "MATH_SYMBOL"), (1, u "CURRENCY_SYMBOL"), (1, u "MODIFIER_SYMBOL"), (1, u "OTHER_SYMBOL"), (1, u "INITIAL_QUOTE_PUNCTUATION"), (1, u "FINAL_QUOTE_PUNCTUATION"), (1, u "ERROR"), (1, u "DIRECTIONALITY_UNDEFINED"), (0, u "DIRECTIONALITY_LEFT_TO_RIGHT"), (0, u "DIRECTIONALITY_RIGHT_TO_LEFT"), (0, u "DIRECTIONALITY_RIGHT_TO_LEFT_ARABIC"), (0, u "DIRECTIONALITY_EUROPEAN_NUMBER"), (0, u "DIRECTIONALITY_EUROPEAN_NUMBER_SEPARATOR"), (0, u "DIRECTIONALITY_EUROPEAN_NUMBER_TERMINATOR"), (0, u "DIRECTIONALITY_ARABIC_NUMBER"), (0, u "DIRECTIONALITY_COMMON_NUMBER_SEPARATOR"), (0, u "DIRECTIONALITY_NONSPACING_MARK"), (0, u "DIRECTIONALITY_BOUNDARY_NEUTRAL"), (0, u "DIRECTIONALITY_PARAGRAPH_SEPARATOR"), (0, u "DIRECTIONALITY_SEGMENT_SEPARATOR"), (0, u "DIRECTIONALITY_WHITESPACE"), (0, u "DIRECTIONALITY_OTHER_NEUTRALS"), (0, u "DIRECTIONALITY_LEFT_TO_RIGHT_EMBEDDING"), (0, u "DIRECTIONALITY_LEFT_TO_RIGHT_OVERRIDE"), (0, u "DIRECTIONALITY_RIGHT_TO_LEFT_EMBEDDING"), (0, u "DIRECTIONALITY_RIGHT_TO_LEFT_OVERRIDE"), (1, u "DIRECTIONALITY_POP_DIRECTIONAL_FORMAT"), (0, u "DIRECTIONALITY_LEFT_TO_RIGHT_ISOLATE"), (0, u "DIRECTIONALITY_RIGHT_TO_LEFT_ISOLATE"), (0, u "DIRECTIONALITY_FIRST_STRONG_ISOLATE"), (0, u "DIRECTIONALITY_POP_DIRECTIONAL_ISOLATE"), (0, u "MIN_HIGH_SURROGATE"), (0, u "MAX_HIGH_SURROGATE"), (1, u "MIN_LOW_SURROGATE"), (0, u "MAX_LOW_SURROGATE"), (1, u "MIN_SURROGATE"), (0, u "MAX_SURROGATE"), (0, u "MIN_SUPPLEMENTARY_CODE_POINT"), (0, u "MIN_CODE_POINT"), (0, u "MAX_CODE_POINT"), (1, u "serialVersionUID"), (0, u "J"), (2, u "SIZE"), (0, u "BYTES"), (24, u "isSurrogate"), (63, .class_ 596), (0, u "java/lang/Character$UnicodeScript"), (0, .class_ 598), (0, u "java/lang/Character$Subset")] 5

def k12c0 : Code := { maxStack := 2, maxLocals := 1, code := jdk_89_method_14_code, exceptionTable := #[], attributes := #[] }
def k12m0 : Method := { name := "isHighSurrogate", desc := "(C)Z", sig := { parameters := [.char], returnType := some .boolean }, accessFlags := 9, code := some k12c0 }
def k12c1 : Code := { maxStack := 2, maxLocals := 1, code := jdk_89_method_15_code, exceptionTable := #[], attributes := #[] }
def k12m1 : Method := { name := "isLowSurrogate", desc := "(C)Z", sig := { parameters := [.char], returnType := some .boolean }, accessFlags := 9, code := some k12c1 }
def k12c2 : Code := { maxStack := 2, maxLocals := 1, code := jdk_89_method_16_code, exceptionTable := #[], attributes := #[] }
def k12m2 : Method := { name := "isSurrogate", desc := "(C)Z", sig := { parameters := [.char], returnType := some .boolean }, accessFlags := 9, code := some k12c2 }
/-- java/lang/Character -/
def k12 : Class := { plain "java/lang/Character" (some 0) with
  accessFlags := 49
  interfaces := #[2, 3, 5]
  cf := some (fileOf pool12 1 #[.nestMembers #[48, 595, 307, 597]] #[{ accessFlags := 9, nameIndex := 80, descriptorIndex := 81, attributes := #[] }, { accessFlags := 9, nameIndex := 84, descriptorIndex := 81, attributes := #[] }, { accessFlags := 9, nameIndex := 531, descriptorIndex := 81, attributes := #[] }] 49 42 #[385, 387, 389] #[{ accessFlags := 25, nameIndex := 391, descriptorIndex := 392, attributes := #[] }, { accessFlags := 25, nameIndex := 395, descriptorIndex := 392, attributes := #[] }, { accessFlags := 25, nameIndex := 397, descriptorIndex := 22, attributes := #[] }, { accessFlags := 25, nameIndex := 399, descriptorIndex := 22, attributes := #[] }, { accessFlags := 25, nameIndex := 383, descriptorIndex := 384, attributes := #[] }, { accessFlags := 25, nameIndex := 403, descriptorIndex := 404, attributes := #[] }, { accessFlags := 25, nameIndex := 405, descriptorIndex := 404, attributes := #[] }, { accessFlags := 25, nameIndex := 407, descriptorIndex := 404, attributes := #[] }, { accessFlags := 25, nameIndex := 408, descriptorIndex := 404, attributes := #[] }, { accessFlags := 25, nameIndex := 410, descriptorIndex := 404, attributes := #[] }, { accessFlags := 25, nameIndex := 412, descriptorIndex := 404, attributes := #[] }, { accessFlags := 25, nameIndex := 414, descriptorIndex := 404, attributes := #[] }, { accessFlags := 25, nameIndex := 416, descriptorIndex := 404, attributes := #[] }, { accessFlags := 25, nameIndex := 418, descriptorIndex := 404, attributes := #[] }, { accessFlags := 25, nameIndex := 420, descriptorIndex := 404, attributes := #[] }, { accessFlags := 25, nameIndex := 422, descriptorIndex := 404, attributes := #[] }, { accessFlags := 25, nameIndex := 424, descriptorIndex := 404, attributes := #[] }, { accessFlags := 25, nameIndex := 426, descriptorIndex := 404, attributes := #[] }, { accessFlags := 25, nameIndex := 428, descriptorIndex := 404, attributes := #[] }, { accessFlags := 25, nameIndex := 430, descriptorIndex := 404, attributes := #[] }, { accessFlags := 25, nameIndex := 432, descriptorIndex := 404, attributes := #[] }, { accessFlags := 25, nameIndex := 434, descriptorIndex := 404, attributes := #[] }, { accessFlags := 25, nameIndex := 436, descriptorIndex := 404, attributes := #[] }, { accessFlags := 25, nameIndex := 438, descriptorIndex := 404, attributes := #[] }, { accessFlags := 25, nameIndex := 440, descriptorIndex := 404, attributes := #[] }, { accessFlags := 25, nameIndex := 442, descriptorIndex := 404, attributes := #[] }, { accessFlags := 25, nameIndex := 444, descriptorIndex := 404, attributes := #[] }, { accessFlags := 25, nameIndex := 446, descriptorIndex := 404, attributes := #[] }, { accessFlags := 25, nameIndex := 448, descriptorIndex := 404, attributes := #[] }, { accessFlags := 25, nameIndex := 450, descriptorIndex := 404, attributes := #[] }, { accessFlags := 25, nameIndex := 452, descriptorIndex := 404, attributes := #[] }, { accessFlags := 25, nameIndex := 454, descriptorIndex := 404, attributes := #[] }, { accessFlags := 25, nameIndex := 456, descriptorIndex := 404, attributes := #[] }, { accessFlags := 25, nameIndex := 458, descriptorIndex := 404, attributes := #[] }, { accessFlags := 25, nameIndex := 460, descriptorIndex := 404, attributes := #[] }, { accessFlags := 24, nameIndex := 462, descriptorIndex := 392, attributes := #[] }, { accessFlags := 25, nameIndex := 464, descriptorIndex := 404, attributes := #[] }, { accessFlags := 25, nameIndex := 465, descriptorIndex := 404, attributes := #[] }, { accessFlags := 25, nameIndex := 466, descriptorIndex := 404, attributes := #[] }, { accessFlags := 25, nameIndex := 467, descriptorIndex := 404, attributes := #[] }, { accessFlags := 25, nameIndex := 468, descriptorIndex := 404, attributes := #[] }, { accessFlags := 25, nameIndex := 469, descriptorIndex := 404, attributes := #[] }, { accessFlags := 25, nameIndex := 470, descriptorIndex := 404, attributes := #[] }, { accessFlags := 25, nameIndex := 471, descriptorIndex := 404, attributes := #[] }, { accessFlags := 25, nameIndex := 472, descriptorIndex := 404, attributes := #[] }, { accessFlags := 25, nameIndex := 473, descriptorIndex := 404, attributes := #[] }, { accessFlags := 25, nameIndex := 474, descriptorIndex := 404, attributes := #[] }, { accessFlags := 25, nameIndex := 475, descriptorIndex := 404, attributes := #[] }, { accessFlags := 25, nameIndex := 476, descriptorIndex := 404, attributes := #[] }, { accessFlags := 25, nameIndex := 477, descriptorIndex := 404, attributes := #[] }, { accessFlags := 25, nameIndex := 478, descriptorIndex := 404, attributes := #[] }, { accessFlags := 25, nameIndex := 479, descriptorIndex := 404, attributes := #[] }, { accessFlags := 25, nameIndex := 480, descriptorIndex := 404, attributes := #[] }, { accessFlags := 25, nameIndex := 481, descriptorIndex := 404, attributes := #[] }, { accessFlags := 25, nameIndex := 482, descriptorIndex := 404, attributes := #[] }, { accessFlags := 25, nameIndex := 484, descriptorIndex := 404, attributes := #[] }, { accessFlags := 25, nameIndex := 485, descriptorIndex := 404, attributes := #[] }, { accessFlags := 25, nameIndex := 486, descriptorIndex := 404, attributes := #[] }, { accessFlags := 25, nameIndex := 487, descriptorIndex := 404, attributes := #[] }, { accessFlags := 25, nameIndex := 488, descriptorIndex := 404, attributes := #[] }, { accessFlags := 25, nameIndex := 489, descriptorIndex := 22, attributes := #[] }, { accessFlags := 25, nameIndex := 490, descriptorIndex := 22, attributes := #[] }, { accessFlags := 25, nameIndex := 492, descriptorIndex := 22, attributes := #[] }, { accessFlags := 25, nameIndex := 493, descriptorIndex := 22, attributes := #[] }, { accessFlags := 25, nameIndex := 495, descriptorIndex := 22, attributes := #[] }, { accessFlags := 25, nameIndex := 496, descriptorIndex := 22, attributes := #[] }, { accessFlags := 25, nameIndex := 497, descriptorIndex := 392, attributes := #[] }, { accessFlags := 25, nameIndex := 498, descriptorIndex := 392, attributes := #[] }, { accessFlags := 25, nameIndex := 499, descriptorIndex := 392, attributes := #[] }, { accessFlags := 18, nameIndex := 21, descriptorIndex := 22, attributes := #[] }, { accessFlags := 26, nameIndex := 501, descriptorIndex := 502, attributes := #[] }, { accessFlags := 25, nameIndex := 505, descriptorIndex := 392, attributes := #[] }, { accessFlags := 25, nameIndex := 506, descriptorIndex := 392, attributes := #[] }, { accessFlags := 4120, nameIndex := 284, descriptorIndex := 285, attributes := #[] }])
  fields := #[{ name := "MIN_RADIX", type := .int, accessFlags := 25, slot := 0, constantValue := 0 }, { name := "MAX_RADIX", type := .int, accessFlags := 25, slot := 1, constantValue := 0 }, { name := "MIN_VALUE", type := .char, accessFlags := 25, slot := 2, constantValue := 0 }, { name := "MAX_VALUE", type := .char, accessFlags := 25, slot := 3, constantValue := 0 }, { name := "TYPE", type := (.object "java/lang/Class"), accessFlags := 25, slot := 4, constantValue := 0 }, { name := "UNASSIGNED", type := .byte, accessFlags := 25, slot := 5, constantValue := 0 }, { name := "UPPERCASE_LETTER", type := .byte, accessFlags := 25, slot := 6, constantValue := 0 }, { name := "LOWERCASE_LETTER", type := .byte, accessFlags := 25, slot := 7, constantValue := 0 }, { name := "TITLECASE_LETTER", type := .byte, accessFlags := 25, slot := 8, constantValue := 0 }, { name := "MODIFIER_LETTER", type := .byte, accessFlags := 25, slot := 9, constantValue := 0 }, { name := "OTHER_LETTER", type := .byte, accessFlags := 25, slot := 10, constantValue := 0 }, { name := "NON_SPACING_MARK", type := .byte, accessFlags := 25, slot := 11, constantValue := 0 }, { name := "ENCLOSING_MARK", type := .byte, accessFlags := 25, slot := 12, constantValue := 0 }, { name := "COMBINING_SPACING_MARK", type := .byte, accessFlags := 25, slot := 13, constantValue := 0 }, { name := "DECIMAL_DIGIT_NUMBER", type := .byte, accessFlags := 25, slot := 14, constantValue := 0 }, { name := "LETTER_NUMBER", type := .byte, accessFlags := 25, slot := 15, constantValue := 0 }, { name := "OTHER_NUMBER", type := .byte, accessFlags := 25, slot := 16, constantValue := 0 }, { name := "SPACE_SEPARATOR", type := .byte, accessFlags := 25, slot := 17, constantValue := 0 }, { name := "LINE_SEPARATOR", type := .byte, accessFlags := 25, slot := 18, constantValue := 0 }, { name := "PARAGRAPH_SEPARATOR", type := .byte, accessFlags := 25, slot := 19, constantValue := 0 }, { name := "CONTROL", type := .byte, accessFlags := 25, slot := 20, constantValue := 0 }, { name := "FORMAT", type := .byte, accessFlags := 25, slot := 21, constantValue := 0 }, { name := "PRIVATE_USE", type := .byte, accessFlags := 25, slot := 22, constantValue := 0 }, { name := "SURROGATE", type := .byte, accessFlags := 25, slot := 23, constantValue := 0 }, { name := "DASH_PUNCTUATION", type := .byte, accessFlags := 25, slot := 24, constantValue := 0 }, { name := "START_PUNCTUATION", type := .byte, accessFlags := 25, slot := 25, constantValue := 0 }, { name := "END_PUNCTUATION", type := .byte, accessFlags := 25, slot := 26, constantValue := 0 }, { name := "CONNECTOR_PUNCTUATION", type := .byte, accessFlags := 25, slot := 27, constantValue := 0 }, { name := "OTHER_PUNCTUATION", type := .byte, accessFlags := 25, slot := 28, constantValue := 0 }, { name := "MATH_SYMBOL", type := .byte, accessFlags := 25, slot := 29, constantValue := 0 }, { name := "CURRENCY_SYMBOL", type := .byte, accessFlags := 25, slot := 30, constantValue := 0 }, { name := "MODIFIER_SYMBOL", type := .byte, accessFlags := 25, slot := 31, constantValue := 0 }, { name := "OTHER_SYMBOL", type := .byte, accessFlags := 25, slot := 32, constantValue := 0 }, { name := "INITIAL_QUOTE_PUNCTUATION", type := .byte, accessFlags := 25, slot := 33, constantValue := 0 }, { name := "FINAL_QUOTE_PUNCTUATION", type := .byte, accessFlags := 25, slot := 34, constantValue := 0 }, { name := "ERROR", type := .int, accessFlags := 24, slot := 35, constantValue := 0 }, { name := "DIRECTIONALITY_UNDEFINED", type := .byte, accessFlags := 25, slot := 36, constantValue := 0 }, { name := "DIRECTIONALITY_LEFT_TO_RIGHT", type := .byte, accessFlags := 25, slot := 37, constantValue := 0 }, { name := "DIRECTIONALITY_RIGHT_TO_LEFT", type := .byte, accessFlags := 25, slot := 38, constantValue := 0 }, { name := "DIRECTIONALITY_RIGHT_TO_LEFT_ARABIC", type := .byte, accessFlags := 25, slot := 39, constantValue := 0 }, { name := "DIRECTIONALITY_EUROPEAN_NUMBER", type := .byte, accessFlags := 25, slot := 40, constantValue := 0 }, { name := "DIRECTIONALITY_EUROPEAN_NUMBER_SEPARATOR", type := .byte, accessFlags := 25, slot := 41, constantValue := 0 }, { name := "DIRECTIONALITY_EUROPEAN_NUMBER_TERMINATOR", type := .byte, accessFlags := 25, slot := 42, constantValue := 0 }, { name := "DIRECTIONALITY_ARABIC_NUMBER", type := .byte, accessFlags := 25, slot := 43, constantValue := 0 }, { name := "DIRECTIONALITY_COMMON_NUMBER_SEPARATOR", type := .byte, accessFlags := 25, slot := 44, constantValue := 0 }, { name := "DIRECTIONALITY_NONSPACING_MARK", type := .byte, accessFlags := 25, slot := 45, constantValue := 0 }, { name := "DIRECTIONALITY_BOUNDARY_NEUTRAL", type := .byte, accessFlags := 25, slot := 46, constantValue := 0 }, { name := "DIRECTIONALITY_PARAGRAPH_SEPARATOR", type := .byte, accessFlags := 25, slot := 47, constantValue := 0 }, { name := "DIRECTIONALITY_SEGMENT_SEPARATOR", type := .byte, accessFlags := 25, slot := 48, constantValue := 0 }, { name := "DIRECTIONALITY_WHITESPACE", type := .byte, accessFlags := 25, slot := 49, constantValue := 0 }, { name := "DIRECTIONALITY_OTHER_NEUTRALS", type := .byte, accessFlags := 25, slot := 50, constantValue := 0 }, { name := "DIRECTIONALITY_LEFT_TO_RIGHT_EMBEDDING", type := .byte, accessFlags := 25, slot := 51, constantValue := 0 }, { name := "DIRECTIONALITY_LEFT_TO_RIGHT_OVERRIDE", type := .byte, accessFlags := 25, slot := 52, constantValue := 0 }, { name := "DIRECTIONALITY_RIGHT_TO_LEFT_EMBEDDING", type := .byte, accessFlags := 25, slot := 53, constantValue := 0 }, { name := "DIRECTIONALITY_RIGHT_TO_LEFT_OVERRIDE", type := .byte, accessFlags := 25, slot := 54, constantValue := 0 }, { name := "DIRECTIONALITY_POP_DIRECTIONAL_FORMAT", type := .byte, accessFlags := 25, slot := 55, constantValue := 0 }, { name := "DIRECTIONALITY_LEFT_TO_RIGHT_ISOLATE", type := .byte, accessFlags := 25, slot := 56, constantValue := 0 }, { name := "DIRECTIONALITY_RIGHT_TO_LEFT_ISOLATE", type := .byte, accessFlags := 25, slot := 57, constantValue := 0 }, { name := "DIRECTIONALITY_FIRST_STRONG_ISOLATE", type := .byte, accessFlags := 25, slot := 58, constantValue := 0 }, { name := "DIRECTIONALITY_POP_DIRECTIONAL_ISOLATE", type := .byte, accessFlags := 25, slot := 59, constantValue := 0 }, { name := "MIN_HIGH_SURROGATE", type := .char, accessFlags := 25, slot := 60, constantValue := 0 }, { name := "MAX_HIGH_SURROGATE", type := .char, accessFlags := 25, slot := 61, constantValue := 0 }, { name := "MIN_LOW_SURROGATE", type := .char, accessFlags := 25, slot := 62, constantValue := 0 }, { name := "MAX_LOW_SURROGATE", type := .char, accessFlags := 25, slot := 63, constantValue := 0 }, { name := "MIN_SURROGATE", type := .char, accessFlags := 25, slot := 64, constantValue := 0 }, { name := "MAX_SURROGATE", type := .char, accessFlags := 25, slot := 65, constantValue := 0 }, { name := "MIN_SUPPLEMENTARY_CODE_POINT", type := .int, accessFlags := 25, slot := 66, constantValue := 0 }, { name := "MIN_CODE_POINT", type := .int, accessFlags := 25, slot := 67, constantValue := 0 }, { name := "MAX_CODE_POINT", type := .int, accessFlags := 25, slot := 68, constantValue := 0 }, { name := "value", type := .char, accessFlags := 18, slot := 0, constantValue := 0 }, { name := "serialVersionUID", type := .long, accessFlags := 26, slot := 69, constantValue := 0 }, { name := "SIZE", type := .int, accessFlags := 25, slot := 70, constantValue := 0 }, { name := "BYTES", type := .int, accessFlags := 25, slot := 71, constantValue := 0 }, { name := "$assertionsDisabled", type := .boolean, accessFlags := 4120, slot := 72, constantValue := 0 }]
  methods := #[k12m0, k12m1, k12m2]
  instanceTypes := #[.char]
  staticTypes := #[.int, .int, .char, .char, (.object "java/lang/Class"), .byte, .byte, .byte, .byte, .byte, .byte, .byte, .byte, .byte, .byte, .byte, .byte, .byte, .byte, .byte, .byte, .byte, .byte, .byte, .byte, .byte, .byte, .byte, .byte, .byte, .byte, .byte, .byte, .byte, .byte, .int, .byte, .byte, .byte, .byte, .byte, .byte, .byte, .byte, .byte, .byte, .byte, .byte, .byte, .byte, .byte, .byte, .byte, .byte, .byte, .byte, .byte, .byte, .byte, .byte, .char, .char, .char, .char, .char, .char, .int, .int, .int, .long, .int, .int, .boolean]
  resolved := Array.replicate 604 none
  statics := none }

def pool13 : Array CpInfo := pool [(9, u "<init>"), (6, .class_ 18), (1, u "java/lang/Object"), (0, u "()V"), (1, .class_ 23), (1, u "jdk/internal/util/ArraysSupport"), (0, u "LOG2_ARRAY_LONG_INDEX_SCALE"), (0, u "I"), (2, u "U"), (0, u "Ljdk/internal/misc/Unsafe;"), (8, u "BIG_ENDIAN"), (0, u "Z"), (8, u "LOG2_BYTE_BIT_SIZE"), (4, u "LOG2_ARRAY_INT_INDEX_SCALE"), (54, u "JLA"), (0, u "Ljdk/internal/access/JavaLangAccess;"), (11, u "LOG2_ARRAY_BOOLEAN_INDEX_SCALE"), (9, u "LOG2_ARRAY_BYTE_INDEX_SCALE"), (5, u "LOG2_ARRAY_CHAR_INDEX_SCALE"), (5, u "LOG2_ARRAY_SHORT_INDEX_SCALE"), (18, u "LOG2_ARRAY_FLOAT_INDEX_SCALE"), (24, u "LOG2_ARRAY_DOUBLE_INDEX_SCALE"), (89, u "T_BOOLEAN"), (2, u "T_CHAR"), (1, u "T_FLOAT"), (1, u "T_DOUBLE"), (1, u "T_BYTE"), (1, u "T_SHORT"), (1, u "T_INT"), (1, u "T_LONG"), (1, u "SOFT_MAX_ARRAY_LENGTH")] 83

def k13m0 : Method := { name := "<init>", desc := "()V", sig := { parameters := [], returnType := none }, accessFlags := 2, code := none }
/-- jdk/internal/util/ArraysSupport -/
def k13 : Class := { plain "jdk/internal/util/ArraysSupport" (some 0) with
  accessFlags := 33
  interfaces := #[]
  cf := some (fileOf pool13 21 #[] #[{ accessFlags := 2, nameIndex := 9, descriptorIndex := 19, attributes := #[] }] 33 16 #[] #[{ accessFlags := 24, nameIndex := 28, descriptorIndex := 29, attributes := #[] }, { accessFlags := 26, nameIndex := 38, descriptorIndex := 39, attributes := #[] }, { accessFlags := 25, nameIndex := 121, descriptorIndex := 25, attributes := #[] }, { accessFlags := 25, nameIndex := 131, descriptorIndex := 25, attributes := #[] }, { accessFlags := 25, nameIndex := 137, descriptorIndex := 25, attributes := #[] }, { accessFlags := 25, nameIndex := 143, descriptorIndex := 25, attributes := #[] }, { accessFlags := 25, nameIndex := 53, descriptorIndex := 25, attributes := #[] }, { accessFlags := 25, nameIndex := 24, descriptorIndex := 25, attributes := #[] }, { accessFlags := 25, nameIndex := 162, descriptorIndex := 25, attributes := #[] }, { accessFlags := 25, nameIndex := 187, descriptorIndex := 25, attributes := #[] }, { accessFlags := 26, nameIndex := 48, descriptorIndex := 25, attributes := #[] }, { accessFlags := 25, nameIndex := 277, descriptorIndex := 25, attributes := #[] }, { accessFlags := 25, nameIndex := 280, descriptorIndex := 25, attributes := #[] }, { accessFlags := 25, nameIndex := 282, descriptorIndex := 25, attributes := #[] }, { accessFlags := 25, nameIndex := 284, descriptorIndex := 25, attributes := #[] }, { accessFlags := 25, nameIndex := 286, descriptorIndex := 25, attributes := #[] }, { accessFlags := 25, nameIndex := 288, descriptorIndex := 25, attributes := #[] }, { accessFlags := 25, nameIndex := 290, descriptorIndex := 25, attributes := #[] }, { accessFlags := 25, nameIndex := 292, descriptorIndex := 25, attributes := #[] }, { accessFlags := 26, nameIndex := 108, descriptorIndex := 109, attributes := #[] }, { accessFlags := 25, nameIndex := 294, descriptorIndex := 25, attributes := #[] }])
  fields := #[{ name := "U", type := (.object "jdk/internal/misc/Unsafe"), accessFlags := 24, slot := 0, constantValue := 0 }, { name := "BIG_ENDIAN", type := .boolean, accessFlags := 26, slot := 1, constantValue := 0 }, { name := "LOG2_ARRAY_BOOLEAN_INDEX_SCALE", type := .int, accessFlags := 25, slot := 2, constantValue := 0 }, { name := "LOG2_ARRAY_BYTE_INDEX_SCALE", type := .int, accessFlags := 25, slot := 3, constantValue := 0 }, { name := "LOG2_ARRAY_CHAR_INDEX_SCALE", type := .int, accessFlags := 25, slot := 4, constantValue := 0 }, { name := "LOG2_ARRAY_SHORT_INDEX_SCALE", type := .int, accessFlags := 25, slot := 5, constantValue := 0 }, { name := "LOG2_ARRAY_INT_INDEX_SCALE", type := .int, accessFlags := 25, slot := 6, constantValue := 0 }, { name := "LOG2_ARRAY_LONG_INDEX_SCALE", type := .int, accessFlags := 25, slot := 7, constantValue := 0 }, { name := "LOG2_ARRAY_FLOAT_INDEX_SCALE", type := .int, accessFlags := 25, slot := 8, constantValue := 0 }, { name := "LOG2_ARRAY_DOUBLE_INDEX_SCALE", type := .int, accessFlags := 25, slot := 9, constantValue := 0 }, { name := "LOG2_BYTE_BIT_SIZE", type := .int, accessFlags := 26, slot := 10, constantValue := 0 }, { name := "T_BOOLEAN", type := .int, accessFlags := 25, slot := 11, constantValue := 0 }, { name := "T_CHAR", type := .int, accessFlags := 25, slot := 12, constantValue := 0 }, { name := "T_FLOAT", type := .int, accessFlags := 25, slot := 13, constantValue := 0 }, { name := "T_DOUBLE", type := .int, accessFlags := 25, slot := 14, constantValue := 0 }, { name := "T_BYTE", type := .int, accessFlags := 25, slot := 15, constantValue := 0 }, { name := "T_SHORT", type := .int, accessFlags := 25, slot := 16, constantValue := 0 }, { name := "T_INT", type := .int, accessFlags := 25, slot := 17, constantValue := 0 }, { name := "T_LONG", type := .int, accessFlags := 25, slot := 18, constantValue := 0 }, { name := "JLA", type := (.object "jdk/internal/access/JavaLangAccess"), accessFlags := 26, slot := 19, constantValue := 0 }, { name := "SOFT_MAX_ARRAY_LENGTH", type := .int, accessFlags := 25, slot := 20, constantValue := 0 }]
  methods := #[k13m0]
  instanceTypes := #[]
  staticTypes := #[(.object "jdk/internal/misc/Unsafe"), .boolean, .int, .int, .int, .int, .int, .int, .int, .int, .int, .int, .int, .int, .int, .int, .int, .int, .int, (.object "jdk/internal/access/JavaLangAccess"), .int]
  resolved := Array.replicate 378 none
  statics := none }

def pool14 : Array CpInfo := pool [(1, u "java/lang/Cloneable"), (0, .class_ 1), (0, u "java/lang/Object"), (0, .class_ 3)] 3

/-- java/lang/Cloneable -/
def k14 : Class := { plain "java/lang/Cloneable" (some 0) with
  accessFlags := 1537
  interfaces := #[]
  cf := some (fileOf pool14 2 #[] #[] 1537 4 #[] #[])
  fields := #[]
  methods := #[]
  instanceTypes := #[]
  staticTypes := #[]
  resolved := Array.replicate 8 none
  statics := none }

/-- the primitive byte -/
def k15 : Class := { plain "byte" none with kind := .primitive 'B', accessFlags := 0x411 }
/-- [B -/
def k16 : Class := { plain "[B" (some 0) with kind := .array 15 .byte, interfaces := #[14, 2], accessFlags := 1041 }

/-- the primitive char -/
def k17 : Class := { plain "char" none with kind := .primitive 'C', accessFlags := 0x411 }
/-- [C -/
def k18 : Class := { plain "[C" (some 0) with kind := .array 17 .char, interfaces := #[14, 2], accessFlags := 1041 }

/-- the primitive int -/
def k19 : Class := { plain "int" none with kind := .primitive 'I', accessFlags := 0x411 }
/-- [I -/
def k20 : Class := { plain "[I" (some 0) with kind := .array 19 .int, interfaces := #[14, 2], accessFlags := 1041 }

def heap : Heap := #[{ cls := 7, slots := #[.long 0, .int 1, .null, .int 0, .null, .int 0, .int 0], vm := .statics 7 },
  { cls := 9, slots := #[.int 0, .int 8, .int 0, .int 1], vm := .statics 9 },
  { cls := 11, slots := #[.null, .null, .null], vm := .statics 11 }]
def classes : Array Class := #[k0, k1, k2, k3, k4, k5, k6, k7, k8, k9, k10, k11, k12, k13, k14, k15, k16, k17, k18, k19, k20]
def interned : List (Array UInt16 × Addr) := []
def slotsUsed : Nat := 14
def theMethod : MethodId := ⟨1, 1⟩
def args0 : Array Value := #[.int 5, .int 1, .int 260, .int 777, .int 12345]
def aboutOver (below : List Frame) : State where
  vm := { classes := classes, interned := interned.toArray }
  heap := heap
  slotsUsed := slotsUsed
  threads := #[{ frames := .invoking theMethod args0 :: below }]
def below0 : List Frame := [.native { method := ⟨0, 0⟩, args := #[] }]
def about1 : State := aboutOver below0
def p0 : Program := .bare "" "" ""
def e0 : Env := launch0.env 0 0 0
theorem w_frames : about1.frames = Frame.invoking theMethod args0 :: below0 := rfl
set_option maxRecDepth 65536 in
theorem w_args : argsFit about1.vm theMethod args0 = true := by decide +kernel
set_option maxRecDepth 65536 in
theorem w_heap : heapFits about1 = true := by decide +kernel
set_option maxRecDepth 65536 in
theorem w_runnable : about1.curStatus? = some .runnable := by decide +kernel
set_option maxRecDepth 65536 in
theorem w_alone : about1.alone = true := by decide +kernel
set_option maxRecDepth 65536 in
theorem w_named : about1.methodNamed? x = some theMethod := by decide +kernel
set_option maxRecDepth 65536 in
theorem w_hears : about1.hears theMethod below0 = true := by decide +kernel
set_option maxRecDepth 65536 in
theorem w_ripe : about1.ripe theMethod args0 below0 = true := by decide +kernel
theorem w_running : about1.status = .running := rfl
set_option maxRecDepth 65536 in
theorem w_room : about1.hasRoom e0.platform room_1 = true :=
  launch0.hasRoom_least _ room_1 (by decide +kernel) (by decide +kernel) (by decide +kernel) (by decide +kernel) (by decide +kernel) (by decide +kernel)
theorem allAtoms_all (ts : List Jvm.Cond) (a : Array Jvm.Value) (st : Jvm.State) : (allAtoms ts).before a st = ts.all (fun c => c.before a st) := by
  induction ts with
  | nil => rfl
  | cons c t ih =>
    show (Jvm.Cond.and c (allAtoms t)).before a st = _
    rw [Jvm.Cond.before_and, ih, List.all_cons]
def words1 : List Jvm.Cond := Jvm.Cond.code x code maxLocals ret :: tables_1
/-- a 'code' word, met by the world's own term for the bytes: nothing is compared byte by byte -/
theorem code_word {y : MethodName} {bytes : ByteArray} {mx : Nat} {rt : Option FieldType} {a : Array Value} {s : State} {m : MethodId} {meth : Method} {c : Code} (h1 : s.methodNamed? y = some m) (h2 : s.vm.method? m = some meth) (h3 : meth.code = some c) (h4 : c.code = bytes)
    (h5 : (c.maxLocals == mx && c.exceptionTable.isEmpty && decide (c.maxStack ≤ mostOperands) && decide (meth.sig.returnType = rt) && !meth.locks && decide (parseMethodDescriptor y.desc = some meth.sig)) = true) : (Jvm.Cond.code y bytes mx rt).before a s = true := by
  simp only [Bool.and_eq_true, beq_iff_eq, Bool.not_eq_true', decide_eq_true_eq] at h5
  obtain ⟨⟨⟨⟨⟨g1, g2⟩, g3⟩, g4⟩, g5⟩, g6⟩ := h5
  simp [Cond.before, Cond.holds, Cond.value, h1, h2, h3, h4, g1, g2, g3, g4, g5, g6]
def isCode : Jvm.Cond → Bool
  | .code _ _ _ _ => true
  | _ => false
theorem all_split {L : List Jvm.Cond} {P : Jvm.Cond → Bool} (h1 : L.all (fun c => isCode c || P c) = true) (h2 : ∀ c ∈ L.filter isCode, P c = true) : L.all P = true := by
  refine List.all_eq_true.mpr fun c hc => ?_
  have h := List.all_eq_true.mp h1 c hc
  rcases Bool.eq_false_or_eq_true (isCode c) with hi | hi
  · exact h2 c (List.mem_filter.mpr ⟨hc, hi⟩)
  · simpa [hi] using h
set_option maxRecDepth 65536 in
theorem w_c0 : (Jvm.Cond.code x code maxLocals ret).before args0 about1 = true := code_word (m := ⟨1, 1⟩) (meth := k1m1) (c := k1c1) (by decide +kernel) rfl rfl rfl (by decide +kernel)
set_option maxRecDepth 65536 in
theorem w_c1 : (Jvm.Cond.code ({ cls := "com/example/streetd/streetd/web/Utf16IsWellFormedPinLaw", name := "draw", desc := "(I)C" } : Jvm.MethodName) method_3_code (1 : Nat) (Option.some Jvm.ClassFile.FieldType.char)).before args0 about1 = true := code_word (m := ⟨1, 2⟩) (meth := k1m2) (c := k1c2) (by decide +kernel) rfl rfl rfl (by decide +kernel)
set_option maxRecDepth 65536 in
theorem w_c2 : (Jvm.Cond.code ({ cls := "java/lang/String", name := "<init>", desc := "([C)V" } : Jvm.MethodName) jdk_42_method_3_code (2 : Nat) (Option.none : Option Jvm.ClassFile.FieldType)).before args0 about1 = true := code_word (m := ⟨7, 1⟩) (meth := k7m1) (c := k7c1) (by decide +kernel) rfl rfl rfl (by decide +kernel)
set_option maxRecDepth 65536 in
theorem w_c3 : (Jvm.Cond.code ({ cls := "java/lang/String", name := "<init>", desc := "([CIILjava/lang/Void;)V" } : Jvm.MethodName) jdk_42_method_149_code (6 : Nat) (Option.none : Option Jvm.ClassFile.FieldType)).before args0 about1 = true := code_word (m := ⟨7, 4⟩) (meth := k7m4) (c := k7c4) (by decide +kernel) rfl rfl rfl (by decide +kernel)
set_option maxRecDepth 65536 in
theorem w_c4 : (Jvm.Cond.code ({ cls := "java/lang/Object", name := "<init>", desc := "()V" } : Jvm.MethodName) object_method_1_code (1 : Nat) (Option.none : Option Jvm.ClassFile.FieldType)).before args0 about1 = true := code_word (m := ⟨0, 0⟩) (meth := k0m0) (c := k0c0) (by decide +kernel) rfl rfl rfl (by decide +kernel)
set_option maxRecDepth 65536 in
theorem w_c5 : (Jvm.Cond.code ({ cls := "com/example/streetd/streetd/web/Utf16IsWellFormedPinLaw", name := "lone", desc := "([CII)Z" } : Jvm.MethodName) method_6_code (4 : Nat) (Option.some Jvm.ClassFile.FieldType.boolean)).before args0 about1 = true := code_word (m := ⟨1, 5⟩) (meth := k1m5) (c := k1c5) (by decide +kernel) rfl rfl rfl (by decide +kernel)
set_option maxRecDepth 65536 in
theorem w_c6 : (Jvm.Cond.code ({ cls := "com/example/streetd/streetd/web/Utf16", name := "isWellFormed", desc := "(Ljava/lang/CharSequence;)Z" } : Jvm.MethodName) prog_28_method_2_code (1 : Nat) (Option.some Jvm.ClassFile.FieldType.boolean)).before args0 about1 = true := code_word (m := ⟨8, 1⟩) (meth := k8m1) (c := k8c1) (by decide +kernel) rfl rfl rfl (by decide +kernel)
set_option maxRecDepth 65536 in
theorem w_c7 : (Jvm.Cond.code ({ cls := "com/example/streetd/streetd/web/Utf16", name := "loneSurrogate", desc := "(Ljava/lang/CharSequence;I)I" } : Jvm.MethodName) prog_28_method_4_code (6 : Nat) (Option.some Jvm.ClassFile.FieldType.int)).before args0 about1 = true := code_word (m := ⟨8, 2⟩) (meth := k8m2) (c := k8c2) (by decide +kernel) rfl rfl rfl (by decide +kernel)
set_option maxRecDepth 65536 in
theorem w_c8 : (Jvm.Cond.code ({ cls := "java/lang/String", name := "length", desc := "()I" } : Jvm.MethodName) jdk_42_method_54_code (1 : Nat) (Option.some Jvm.ClassFile.FieldType.int)).before args0 about1 = true := code_word (m := ⟨7, 2⟩) (meth := k7m2) (c := k7c2) (by decide +kernel) rfl rfl rfl (by decide +kernel)
set_option maxRecDepth 65536 in
theorem w_c9 : (Jvm.Cond.code ({ cls := "java/lang/String", name := "coder", desc := "()B" } : Jvm.MethodName) jdk_42_method_152_code (1 : Nat) (Option.some Jvm.ClassFile.FieldType.byte)).before args0 about1 = true := code_word (m := ⟨7, 5⟩) (meth := k7m5) (c := k7c5) (by decide +kernel) rfl rfl rfl (by decide +kernel)
set_option maxRecDepth 65536 in
theorem w_c10 : (Jvm.Cond.code ({ cls := "java/lang/StringUTF16", name := "compress", desc := "([CII)[B" } : Jvm.MethodName) jdk_52_method_16_code (6 : Nat) (Option.some (Jvm.ClassFile.FieldType.array Jvm.ClassFile.FieldType.byte))).before args0 about1 = true := code_word (m := ⟨9, 8⟩) (meth := k9m8) (c := k9c8) (by decide +kernel) rfl rfl rfl (by decide +kernel)
set_option maxRecDepth 65536 in
theorem w_c11 : (Jvm.Cond.code ({ cls := "java/lang/StringUTF16", name := "compress", desc := "([CI[BII)I" } : Jvm.MethodName) jdk_52_method_21_code (7 : Nat) (Option.some Jvm.ClassFile.FieldType.int)).before args0 about1 = true := code_word (m := ⟨9, 9⟩) (meth := k9m9) (c := k9c9) (by decide +kernel) rfl rfl rfl (by decide +kernel)
set_option maxRecDepth 65536 in
theorem w_c12 : (Jvm.Cond.code ({ cls := "java/lang/StringUTF16", name := "coderFromArrayLen", desc := "([BI)B" } : Jvm.MethodName) jdk_52_method_15_code (2 : Nat) (Option.some Jvm.ClassFile.FieldType.byte)).before args0 about1 = true := code_word (m := ⟨9, 7⟩) (meth := k9m7) (c := k9c7) (by decide +kernel) rfl rfl rfl (by decide +kernel)
set_option maxRecDepth 65536 in
theorem w_c13 : (Jvm.Cond.code ({ cls := "com/example/streetd/streetd/web/Utf16IsWellFormedPinLaw", name := "high", desc := "(C)Z" } : Jvm.MethodName) method_4_code (1 : Nat) (Option.some Jvm.ClassFile.FieldType.boolean)).before args0 about1 = true := code_word (m := ⟨1, 3⟩) (meth := k1m3) (c := k1c3) (by decide +kernel) rfl rfl rfl (by decide +kernel)
set_option maxRecDepth 65536 in
theorem w_c14 : (Jvm.Cond.code ({ cls := "com/example/streetd/streetd/web/Utf16IsWellFormedPinLaw", name := "low", desc := "(C)Z" } : Jvm.MethodName) method_5_code (1 : Nat) (Option.some Jvm.ClassFile.FieldType.boolean)).before args0 about1 = true := code_word (m := ⟨1, 4⟩) (meth := k1m4) (c := k1c4) (by decide +kernel) rfl rfl rfl (by decide +kernel)
set_option maxRecDepth 65536 in
theorem w_c15 : (Jvm.Cond.code ({ cls := "java/lang/String", name := "charAt", desc := "(I)C" } : Jvm.MethodName) jdk_42_method_56_code (2 : Nat) (Option.some Jvm.ClassFile.FieldType.char)).before args0 about1 = true := code_word (m := ⟨7, 3⟩) (meth := k7m3) (c := k7c3) (by decide +kernel) rfl rfl rfl (by decide +kernel)
set_option maxRecDepth 65536 in
theorem w_c16 : (Jvm.Cond.code ({ cls := "java/lang/String", name := "isLatin1", desc := "()Z" } : Jvm.MethodName) jdk_42_method_154_code (1 : Nat) (Option.some Jvm.ClassFile.FieldType.boolean)).before args0 about1 = true := code_word (m := ⟨7, 6⟩) (meth := k7m6) (c := k7c6) (by decide +kernel) rfl rfl rfl (by decide +kernel)
set_option maxRecDepth 65536 in
theorem w_c17 : (Jvm.Cond.code ({ cls := "java/lang/StringLatin1", name := "charAt", desc := "([BI)C" } : Jvm.MethodName) jdk_43_method_2_code (2 : Nat) (Option.some Jvm.ClassFile.FieldType.char)).before args0 about1 = true := code_word (m := ⟨10, 1⟩) (meth := k10m1) (c := k10c1) (by decide +kernel) rfl rfl rfl (by decide +kernel)
set_option maxRecDepth 65536 in
theorem w_c18 : (Jvm.Cond.code ({ cls := "java/lang/String", name := "checkIndex", desc := "(II)V" } : Jvm.MethodName) jdk_42_method_155_code (2 : Nat) (Option.none : Option Jvm.ClassFile.FieldType)).before args0 about1 = true := code_word (m := ⟨7, 7⟩) (meth := k7m7) (c := k7c7) (by decide +kernel) rfl rfl rfl (by decide +kernel)
set_option maxRecDepth 65536 in
theorem w_c19 : (Jvm.Cond.code ({ cls := "jdk/internal/util/Preconditions", name := "checkIndex", desc := "(IILjava/util/function/BiFunction;)I" } : Jvm.MethodName) jdk_41_method_11_code (3 : Nat) (Option.some Jvm.ClassFile.FieldType.int)).before args0 about1 = true := code_word (m := ⟨11, 1⟩) (meth := k11m1) (c := k11c1) (by decide +kernel) rfl rfl rfl (by decide +kernel)
set_option maxRecDepth 65536 in
theorem w_c20 : (Jvm.Cond.code ({ cls := "java/lang/Character", name := "isSurrogate", desc := "(C)Z" } : Jvm.MethodName) jdk_89_method_16_code (1 : Nat) (Option.some Jvm.ClassFile.FieldType.boolean)).before args0 about1 = true := code_word (m := ⟨12, 2⟩) (meth := k12m2) (c := k12c2) (by decide +kernel) rfl rfl rfl (by decide +kernel)
set_option maxRecDepth 65536 in
theorem w_c21 : (Jvm.Cond.code ({ cls := "java/lang/StringUTF16", name := "toBytes", desc := "([CII)[B" } : Jvm.MethodName) jdk_52_method_14_code (5 : Nat) (Option.some (Jvm.ClassFile.FieldType.array Jvm.ClassFile.FieldType.byte))).before args0 about1 = true := code_word (m := ⟨9, 6⟩) (meth := k9m6) (c := k9c6) (by decide +kernel) rfl rfl rfl (by decide +kernel)
set_option maxRecDepth 65536 in
theorem w_c22 : (Jvm.Cond.code ({ cls := "java/lang/StringUTF16", name := "newBytesFor", desc := "(I)[B" } : Jvm.MethodName) jdk_52_method_2_code (1 : Nat) (Option.some (Jvm.ClassFile.FieldType.array Jvm.ClassFile.FieldType.byte))).before args0 about1 = true := code_word (m := ⟨9, 1⟩) (meth := k9m1) (c := k9c1) (by decide +kernel) rfl rfl rfl (by decide +kernel)
set_option maxRecDepth 65536 in
theorem w_c23 : (Jvm.Cond.code ({ cls := "java/lang/StringUTF16", name := "newBytesLength", desc := "(I)I" } : Jvm.MethodName) jdk_52_method_3_code (1 : Nat) (Option.some Jvm.ClassFile.FieldType.int)).before args0 about1 = true := code_word (m := ⟨9, 2⟩) (meth := k9m2) (c := k9c2) (by decide +kernel) rfl rfl rfl (by decide +kernel)
set_option maxRecDepth 65536 in
theorem w_c24 : (Jvm.Cond.code ({ cls := "java/lang/StringUTF16", name := "putChar", desc := "([BII)V" } : Jvm.MethodName) jdk_52_method_4_code (3 : Nat) (Option.none : Option Jvm.ClassFile.FieldType)).before args0 about1 = true := code_word (m := ⟨9, 3⟩) (meth := k9m3) (c := k9c3) (by decide +kernel) rfl rfl rfl (by decide +kernel)
set_option maxRecDepth 65536 in
theorem w_c25 : (Jvm.Cond.code ({ cls := "java/lang/StringUTF16", name := "getChar", desc := "([BI)C" } : Jvm.MethodName) jdk_52_method_5_code (2 : Nat) (Option.some Jvm.ClassFile.FieldType.char)).before args0 about1 = true := code_word (m := ⟨9, 4⟩) (meth := k9m4) (c := k9c4) (by decide +kernel) rfl rfl rfl (by decide +kernel)
set_option maxRecDepth 65536 in
theorem w_c26 : (Jvm.Cond.code ({ cls := "java/lang/StringUTF16", name := "charAt", desc := "([BI)C" } : Jvm.MethodName) jdk_52_method_83_code (2 : Nat) (Option.some Jvm.ClassFile.FieldType.char)).before args0 about1 = true := code_word (m := ⟨9, 10⟩) (meth := k9m10) (c := k9c10) (by decide +kernel) rfl rfl rfl (by decide +kernel)
set_option maxRecDepth 65536 in
theorem w_c27 : (Jvm.Cond.code ({ cls := "java/lang/StringUTF16", name := "checkIndex", desc := "(I[B)V" } : Jvm.MethodName) jdk_52_method_91_code (2 : Nat) (Option.none : Option Jvm.ClassFile.FieldType)).before args0 about1 = true := code_word (m := ⟨9, 11⟩) (meth := k9m11) (c := k9c11) (by decide +kernel) rfl rfl rfl (by decide +kernel)
set_option maxRecDepth 65536 in
theorem w_c28 : (Jvm.Cond.code ({ cls := "java/lang/StringUTF16", name := "length", desc := "([B)I" } : Jvm.MethodName) jdk_52_method_6_code (1 : Nat) (Option.some Jvm.ClassFile.FieldType.int)).before args0 about1 = true := code_word (m := ⟨9, 5⟩) (meth := k9m5) (c := k9c5) (by decide +kernel) rfl rfl rfl (by decide +kernel)
set_option maxRecDepth 65536 in
theorem w_c29 : (Jvm.Cond.code ({ cls := "java/lang/Character", name := "isHighSurrogate", desc := "(C)Z" } : Jvm.MethodName) jdk_89_method_14_code (1 : Nat) (Option.some Jvm.ClassFile.FieldType.boolean)).before args0 about1 = true := code_word (m := ⟨12, 0⟩) (meth := k12m0) (c := k12c0) (by decide +kernel) rfl rfl rfl (by decide +kernel)
set_option maxRecDepth 65536 in
theorem w_c30 : (Jvm.Cond.code ({ cls := "java/lang/Character", name := "isLowSurrogate", desc := "(C)Z" } : Jvm.MethodName) jdk_89_method_15_code (1 : Nat) (Option.some Jvm.ClassFile.FieldType.boolean)).before args0 about1 = true := code_word (m := ⟨12, 1⟩) (meth := k12m1) (c := k12c1) (by decide +kernel) rfl rfl rfl (by decide +kernel)
def codes1 : List Jvm.Cond := [Jvm.Cond.code x code maxLocals ret, Jvm.Cond.code ({ cls := "com/example/streetd/streetd/web/Utf16IsWellFormedPinLaw", name := "draw", desc := "(I)C" } : Jvm.MethodName) method_3_code (1 : Nat) (Option.some Jvm.ClassFile.FieldType.char), Jvm.Cond.code ({ cls := "java/lang/String", name := "<init>", desc := "([C)V" } : Jvm.MethodName) jdk_42_method_3_code (2 : Nat) (Option.none : Option Jvm.ClassFile.FieldType), Jvm.Cond.code ({ cls := "java/lang/String", name := "<init>", desc := "([CIILjava/lang/Void;)V" } : Jvm.MethodName) jdk_42_method_149_code (6 : Nat) (Option.none : Option Jvm.ClassFile.FieldType), Jvm.Cond.code ({ cls := "java/lang/Object", name := "<init>", desc := "()V" } : Jvm.MethodName) object_method_1_code (1 : Nat) (Option.none : Option Jvm.ClassFile.FieldType), Jvm.Cond.code ({ cls := "com/example/streetd/streetd/web/Utf16IsWellFormedPinLaw", name := "lone", desc := "([CII)Z" } : Jvm.MethodName) method_6_code (4 : Nat) (Option.some Jvm.ClassFile.FieldType.boolean), Jvm.Cond.code ({ cls := "com/example/streetd/streetd/web/Utf16", name := "isWellFormed", desc := "(Ljava/lang/CharSequence;)Z" } : Jvm.MethodName) prog_28_method_2_code (1 : Nat) (Option.some Jvm.ClassFile.FieldType.boolean), Jvm.Cond.code ({ cls := "com/example/streetd/streetd/web/Utf16", name := "loneSurrogate", desc := "(Ljava/lang/CharSequence;I)I" } : Jvm.MethodName) prog_28_method_4_code (6 : Nat) (Option.some Jvm.ClassFile.FieldType.int), Jvm.Cond.code ({ cls := "java/lang/String", name := "length", desc := "()I" } : Jvm.MethodName) jdk_42_method_54_code (1 : Nat) (Option.some Jvm.ClassFile.FieldType.int), Jvm.Cond.code ({ cls := "java/lang/String", name := "coder", desc := "()B" } : Jvm.MethodName) jdk_42_method_152_code (1 : Nat) (Option.some Jvm.ClassFile.FieldType.byte), Jvm.Cond.code ({ cls := "java/lang/StringUTF16", name := "compress", desc := "([CII)[B" } : Jvm.MethodName) jdk_52_method_16_code (6 : Nat) (Option.some (Jvm.ClassFile.FieldType.array Jvm.ClassFile.FieldType.byte)), Jvm.Cond.code ({ cls := "java/lang/StringUTF16", name := "compress", desc := "([CI[BII)I" } : Jvm.MethodName) jdk_52_method_21_code (7 : Nat) (Option.some Jvm.ClassFile.FieldType.int), Jvm.Cond.code ({ cls := "java/lang/StringUTF16", name := "coderFromArrayLen", desc := "([BI)B" } : Jvm.MethodName) jdk_52_method_15_code (2 : Nat) (Option.some Jvm.ClassFile.FieldType.byte), Jvm.Cond.code ({ cls := "com/example/streetd/streetd/web/Utf16IsWellFormedPinLaw", name := "high", desc := "(C)Z" } : Jvm.MethodName) method_4_code (1 : Nat) (Option.some Jvm.ClassFile.FieldType.boolean), Jvm.Cond.code ({ cls := "com/example/streetd/streetd/web/Utf16IsWellFormedPinLaw", name := "low", desc := "(C)Z" } : Jvm.MethodName) method_5_code (1 : Nat) (Option.some Jvm.ClassFile.FieldType.boolean), Jvm.Cond.code ({ cls := "java/lang/String", name := "charAt", desc := "(I)C" } : Jvm.MethodName) jdk_42_method_56_code (2 : Nat) (Option.some Jvm.ClassFile.FieldType.char), Jvm.Cond.code ({ cls := "java/lang/String", name := "isLatin1", desc := "()Z" } : Jvm.MethodName) jdk_42_method_154_code (1 : Nat) (Option.some Jvm.ClassFile.FieldType.boolean), Jvm.Cond.code ({ cls := "java/lang/StringLatin1", name := "charAt", desc := "([BI)C" } : Jvm.MethodName) jdk_43_method_2_code (2 : Nat) (Option.some Jvm.ClassFile.FieldType.char), Jvm.Cond.code ({ cls := "java/lang/String", name := "checkIndex", desc := "(II)V" } : Jvm.MethodName) jdk_42_method_155_code (2 : Nat) (Option.none : Option Jvm.ClassFile.FieldType), Jvm.Cond.code ({ cls := "jdk/internal/util/Preconditions", name := "checkIndex", desc := "(IILjava/util/function/BiFunction;)I" } : Jvm.MethodName) jdk_41_method_11_code (3 : Nat) (Option.some Jvm.ClassFile.FieldType.int), Jvm.Cond.code ({ cls := "java/lang/Character", name := "isSurrogate", desc := "(C)Z" } : Jvm.MethodName) jdk_89_method_16_code (1 : Nat) (Option.some Jvm.ClassFile.FieldType.boolean), Jvm.Cond.code ({ cls := "java/lang/StringUTF16", name := "toBytes", desc := "([CII)[B" } : Jvm.MethodName) jdk_52_method_14_code (5 : Nat) (Option.some (Jvm.ClassFile.FieldType.array Jvm.ClassFile.FieldType.byte)), Jvm.Cond.code ({ cls := "java/lang/StringUTF16", name := "newBytesFor", desc := "(I)[B" } : Jvm.MethodName) jdk_52_method_2_code (1 : Nat) (Option.some (Jvm.ClassFile.FieldType.array Jvm.ClassFile.FieldType.byte)), Jvm.Cond.code ({ cls := "java/lang/StringUTF16", name := "newBytesLength", desc := "(I)I" } : Jvm.MethodName) jdk_52_method_3_code (1 : Nat) (Option.some Jvm.ClassFile.FieldType.int), Jvm.Cond.code ({ cls := "java/lang/StringUTF16", name := "putChar", desc := "([BII)V" } : Jvm.MethodName) jdk_52_method_4_code (3 : Nat) (Option.none : Option Jvm.ClassFile.FieldType), Jvm.Cond.code ({ cls := "java/lang/StringUTF16", name := "getChar", desc := "([BI)C" } : Jvm.MethodName) jdk_52_method_5_code (2 : Nat) (Option.some Jvm.ClassFile.FieldType.char), Jvm.Cond.code ({ cls := "java/lang/StringUTF16", name := "charAt", desc := "([BI)C" } : Jvm.MethodName) jdk_52_method_83_code (2 : Nat) (Option.some Jvm.ClassFile.FieldType.char), Jvm.Cond.code ({ cls := "java/lang/StringUTF16", name := "checkIndex", desc := "(I[B)V" } : Jvm.MethodName) jdk_52_method_91_code (2 : Nat) (Option.none : Option Jvm.ClassFile.FieldType), Jvm.Cond.code ({ cls := "java/lang/StringUTF16", name := "length", desc := "([B)I" } : Jvm.MethodName) jdk_52_method_6_code (1 : Nat) (Option.some Jvm.ClassFile.FieldType.int), Jvm.Cond.code ({ cls := "java/lang/Character", name := "isHighSurrogate", desc := "(C)Z" } : Jvm.MethodName) jdk_89_method_14_code (1 : Nat) (Option.some Jvm.ClassFile.FieldType.boolean), Jvm.Cond.code ({ cls := "java/lang/Character", name := "isLowSurrogate", desc := "(C)Z" } : Jvm.MethodName) jdk_89_method_15_code (1 : Nat) (Option.some Jvm.ClassFile.FieldType.boolean)]
set_option maxRecDepth 65536 in
theorem codes_eq : words1.filter isCode = codes1 := rfl
theorem w_codes : ∀ c ∈ words1.filter isCode, c.before args0 about1 = true := by
  rw [codes_eq]
  intro c hc
  simp only [codes1, List.mem_cons, List.not_mem_nil, or_false] at hc
  rcases hc with rfl | rfl | rfl | rfl | rfl | rfl | rfl | rfl | rfl | rfl | rfl | rfl | rfl | rfl | rfl | rfl | rfl | rfl | rfl | rfl | rfl | rfl | rfl | rfl | rfl | rfl | rfl | rfl | rfl | rfl | rfl
  · exact w_c0
  · exact w_c1
  · exact w_c2
  · exact w_c3
  · exact w_c4
  · exact w_c5
  · exact w_c6
  · exact w_c7
  · exact w_c8
  · exact w_c9
  · exact w_c10
  · exact w_c11
  · exact w_c12
  · exact w_c13
  · exact w_c14
  · exact w_c15
  · exact w_c16
  · exact w_c17
  · exact w_c18
  · exact w_c19
  · exact w_c20
  · exact w_c21
  · exact w_c22
  · exact w_c23
  · exact w_c24
  · exact w_c25
  · exact w_c26
  · exact w_c27
  · exact w_c28
  · exact w_c29
  · exact w_c30
set_option maxRecDepth 65536 in
theorem w_t1 : (words1.take 24).all (fun c => isCode c || c.before args0 about1) = true := by decide +kernel
set_option maxRecDepth 65536 in
theorem w_t2 : ((words1.drop 24).take 24).all (fun c => isCode c || c.before args0 about1) = true := by decide +kernel
set_option maxRecDepth 65536 in
theorem w_t3 : (((words1.drop 24).drop 24).take 24).all (fun c => isCode c || c.before args0 about1) = true := by decide +kernel
set_option maxRecDepth 65536 in
theorem w_t4 : ((((words1.drop 24).drop 24).drop 24).take 24).all (fun c => isCode c || c.before args0 about1) = true := by decide +kernel
set_option maxRecDepth 65536 in
theorem w_t5 : (((((words1.drop 24).drop 24).drop 24).drop 24).take 24).all (fun c => isCode c || c.before args0 about1) = true := by decide +kernel
set_option maxRecDepth 65536 in
theorem w_t6 : (((((words1.drop 24).drop 24).drop 24).drop 24).drop 24).all (fun c => isCode c || c.before args0 about1) = true := by decide +kernel
theorem w_tables : (allAtoms (Jvm.Cond.code x code maxLocals ret :: tables_1)).before args0 about1 = true := by
  rw [allAtoms_all]
  show words1.all (fun c => c.before args0 about1) = true
  refine all_split ?_ w_codes
  rw [← List.take_append_drop 24 words1, List.all_append, w_t1, ← List.take_append_drop 24 (words1.drop 24), List.all_append, w_t2, ← List.take_append_drop 24 ((words1.drop 24).drop 24), List.all_append, w_t3, ← List.take_append_drop 24 (((words1.drop 24).drop 24).drop 24), List.all_append, w_t4, ← List.take_append_drop 24 ((((words1.drop 24).drop 24).drop 24).drop 24), List.all_append, w_t5, w_t6]
  rfl
set_option maxRecDepth 65536 in
theorem w_rest : rest_1_c.before args0 about1 = true := by decide +kernel
set_option maxRecDepth 65536 in
theorem w_case : (Jvm.Cond.and given_1 narrow_1).before args0 about1 = true := by decide +kernel
set_option maxRecDepth 65536 in
theorem w_consts : constsHeld consts_1 about1 := Jvm.Lit.constsHeldB_iff.mp (by decide +kernel)
theorem w_applies : (headSpec (Jvm.Cond.code x code maxLocals ret :: tables_1) room_1).applies x e0.platform about1 = true :=
  (Spec.applies_iff w_frames).mpr ⟨w_running, w_runnable, w_alone, w_named, w_hears, w_ripe, w_room, w_tables⟩
theorem atStart : AtStart classFile x code maxLocals ret World_1 tables_1 room_1 Calls_1 rest_1 Pre_1 launch0 p0 e0 about1 theMethod args0 below0 :=
  ⟨lists_1, trivial, launch0.admits_env _ _ _, launch0.least_env, fairChoices_fair.cas, fairChoices_fair.clock, w_frames, w_args, w_heap, w_applies, ⟨w_consts, trivial⟩, w_rest, w_case⟩
end start1
theorem witness_1 : WitnessClaimed_1 := ⟨start1.p0, start1.e0, start1.about1, start1.theMethod, start1.args0, start1.below0, start1.atStart⟩
end Jvm.Pilot.@@N@@
