import JvmDerived
import JvmDerived.Pilot.@@N@@Statement
import JvmDerived.Pilot.@@N@@Code
set_option linter.unusedVariables false
set_option linter.unusedSimpArgs false
/- laws to paste: Road.backV, Road.eqW, Road.codOf, lo8_mask (cut by pick.py; bodies as the Statement names them) -/
namespace Jvm.Pilot.@@N@@
namespace StrChars
open Jvm Sem ClassFile Op Lib Jvm.Stand Jvm.Free.XT Jvm.Free.ALB Jvm.Free.JM Jvm.Free
open Jvm.Lib.Cold (StaticIs)
/-- a char array whose places are chars -/
def Ch (a : Addr) (A : Cell) (U : State) : Prop := Arr .char a A U ∧ Typed .char A
theorem Ch.mv {a : Addr} {A : Cell} {U U' : State} (h : Ch a A U) (hal : U.vm.Alike U'.vm) (hh : U'.heap = U.heap) : Ch a A U' := ⟨h.1.mv hal hh, h.2⟩
theorem Ch.keep {a : Addr} {A : Cell} {U U' : State} (h : Ch a A U) (hal : U.vm.Alike U'.vm) (hk : U'.heap[a]? = some A) : Ch a A U' := ⟨h.1.keep hal hk, h.2⟩
/-- what place i of a char[]'s cell holds -/
def cv (A : Cell) (i : Nat) : Int32 := match A.slots[i]? with | some (.int x) => x | _ => 0
theorem Ch.get {a : Addr} {A : Cell} {U : State} (h : Ch a A U) {i : Nat} (hi : i < A.slots.size) : A.slots[i]? = some (.int (cv A i)) := by
  have e := Array.getElem?_eq_getElem hi
  have f := h.2 i _ e
  unfold cv; rw [e]
  generalize A.slots[i] = v at f
  cases v <;> simp [fits] at f ⊢
/-- the byte that i2b leaves of a char -/
def lo8 (x : Int32) : Int32 := x.toInt8.toInt32
theorem fits_lo8 (y : Int32) : fits .byte (.int (lo8 y)) = true := by
  have h1 := y.toInt8.le_toInt
  have h2 := y.toInt8.toInt_lt
  simp only [lo8, fits, Bool.and_eq_true, decide_eq_true_eq, Int32.le_iff_toInt_le, Int8.toInt_toInt32, show (-128 : Int32).toInt = -128 from by decide, show (127 : Int32).toInt = 127 from by decide]
  omega
/-- A' is A but that each place j of lo .. hi - 1 holds f j -/
def Laid (A A' : Cell) (lo hi : Nat) (f : Nat → Value) : Prop := A'.cls = A.cls ∧ A'.vm = A.vm ∧ A'.slots.size = A.slots.size ∧ ∀ i, A'.slots[i]? = if lo ≤ i ∧ i < hi then some (f i) else A.slots[i]?
theorem Laid.zero (A : Cell) (lo : Nat) (f : Nat → Value) : Laid A A lo (lo + 0) f := ⟨rfl, rfl, rfl, fun i => by rw [if_neg (by omega)]⟩
theorem Laid.step {A Ak : Cell} {lo k : Nat} {f : Nat → Value} {v : Value} (h : Laid A Ak lo k f) (hlo : lo ≤ k) (hk : k < Ak.slots.size) (hv : v = f k) : Laid A (Ak.setSlot k v) lo (k + 1) f := by
  refine ⟨h.1, h.2.1, by simpa [Cell.setSlot] using h.2.2.1, fun i => ?_⟩
  by_cases e : k = i
  · subst e; rw [Cell.slots_setSlot_self v hk, if_pos (by omega), hv]
  · rw [Cell.slots_setSlot_ne v e, h.2.2.2 i]
    by_cases q : lo ≤ i ∧ i < k
    · rw [if_pos q, if_pos (by omega)]
    · rw [if_neg q, if_neg (by omega)]
def U16 : String := "java/lang/StringUTF16"
namespace Cmp5
def yN : MethodName := ⟨"java/lang/StringUTF16", "compress", "([CI[BII)I"⟩
abbrev yB : ByteArray := jdk_52_method_21_code
theorem d0 : decode yB 0 = .ok (.iconst 0, 1) := by decide +kernel
theorem d1 : decode yB 1 = .ok (.istore 5, 2) := by decide +kernel
theorem d3 : decode yB 3 = .ok (.iload 5, 2) := by decide +kernel
theorem d5 : decode yB 5 = .ok (.iload 4, 2) := by decide +kernel
theorem d7 : decode yB 7 = .ok (.if_icmp (.ge) 37, 3) := by decide +kernel
theorem d10 : decode yB 10 = .ok (.aload_n 0, 1) := by decide +kernel
theorem d11 : decode yB 11 = .ok (.iload_n 1, 1) := by decide +kernel
theorem d12 : decode yB 12 = .ok (.caload, 1) := by decide +kernel
theorem d13 : decode yB 13 = .ok (.istore 6, 2) := by decide +kernel
theorem d15 : decode yB 15 = .ok (.iload 6, 2) := by decide +kernel
theorem d17 : decode yB 17 = .ok (.sipush 255, 3) := by decide +kernel
theorem d20 : decode yB 20 = .ok (.if_icmp (.le) 6, 3) := by decide +kernel
theorem d26 : decode yB 26 = .ok (.aload_n 2, 1) := by decide +kernel
theorem d27 : decode yB 27 = .ok (.iload_n 3, 1) := by decide +kernel
theorem d28 : decode yB 28 = .ok (.iload 6, 2) := by decide +kernel
theorem d30 : decode yB 30 = .ok (.i2b, 1) := by decide +kernel
theorem d31 : decode yB 31 = .ok (.bastore, 1) := by decide +kernel
theorem d32 : decode yB 32 = .ok (.iinc 1 1, 3) := by decide +kernel
theorem d35 : decode yB 35 = .ok (.iinc 3 1, 3) := by decide +kernel
theorem d38 : decode yB 38 = .ok (.iinc 5 1, 3) := by decide +kernel
theorem d41 : decode yB 41 = .ok (.goto (-38), 3) := by decide +kernel
theorem d44 : decode yB 44 = .ok (.iload 4, 2) := by decide +kernel
theorem d46 : decode yB 46 = .ok (.ireturn, 1) := by decide +kernel
def site : List Cond := []
def tab : Cond := tabOf yN yB 7 (some .int) site
def P (b : Addr) (A : Cell) (d : Addr) (B : Cell) (o q len : Nat) (args : Array Value) (s : State) : Prop := args = #[.ref b, .int (Int32.ofNat o), .ref d, .int (Int32.ofNat q), .int (Int32.ofNat len)] ∧ Ch b A s ∧ Arr .byte d B s ∧ b ≠ d ∧ o + len ≤ A.slots.size ∧ q + len ≤ B.slots.size ∧ ∀ i, i < len → ¬ 255 < cv A (o + i)
def E (b : Addr) (A : Cell) (d : Addr) (B : Cell) (o q len : Nat) (r : Option Value) (s u : State) : Prop := r = some (.int (Int32.ofNat len)) ∧ ∃ B', Put d B' s u ∧ Laid B B' q (q + len) (fun j => Value.int (lo8 (cv A (o + (j - q)))))
/-- no char of the range above 255: len; the places written hold each char's low byte -/
theorem law (l : Launch) (b : Addr) (A : Cell) (d : Addr) (B : Cell) (o q len : Nat) : Law l yN 5 5 0 0 yB 7 (some .int) site (P b A d B o q len) (E b A d B o q len) (copyLocs d q len) 0 0 := by
  refine Law.of_walk (plainFor_of_name (by decide +kernel)) (by decide +kernel) (by decide +kernel) (by decide) (fun _ _ h => by rw [h.1]; rfl) (fun _ U U' hal hh h => ⟨h.1, h.2.1.mv hal hh, h.2.2.1.mv hal hh, h.2.2.2⟩) (fun r U U' V V' h1 hal h2 h => ⟨h.1, h.2.elim fun B' q => ⟨B', q.1.mv h1 h2, q.2⟩⟩) ?_
  intro p e s m args below meth c s₁ X0 hexec hbytes hml hret hlk hnm hown hh0 W hP
  obtain ⟨rfl, hA, hB, hne, l1, l2, hp⟩ := hP
  have c1 : Steps p.tables e below (s₁.setTop (entryFrame m #[.ref b, .int (Int32.ofNat o), .ref d, .int (Int32.ofNat q), .int (Int32.ofNat len)] 7)) (s₁.setTop (mkF m 0 #[.val (.ref b), .val (.int (Int32.ofNat o)), .val (.ref d), .val (.int (Int32.ofNat q)), .val (.int (Int32.ofNat len)), .unset, .unset] [])) := entry rfl
  have hA0 := hA.1.mv X0.warmed.alike hh0
  have hB0 := hB.mv X0.warmed.alike hh0
  have a31 := hA.1.2.2.2
  have c2 : Steps p.tables e below (s₁.setTop (entryFrame m #[.ref b, .int (Int32.ofNat o), .ref d, .int (Int32.ofNat q), .int (Int32.ofNat len)] 7)) (s₁.setTop (mkF m 3 #[.val (.ref b), .val (.int (Int32.ofNat o)), .val (.ref d), .val (.int (Int32.ofNat q)), .val (.int (Int32.ofNat len)), .val (.int 0), .unset] [])) := c1.trans (by
    refine iconstV X0.here hexec rfl 0 (hb hbytes d0) (by decide) ?_
    refine XS.istore X0.here hexec rfl (hb hbytes d1) rfl rfl ?_
    exact Steps.refl _)
  have loop : ∀ (r i : Nat), i + r = len → ∀ (z : Slot), (z = .unset ∨ ∃ w, z = .val w ∧ w.category = 1) → ∀ (Tl : State) (Bk : Cell), Stand p l e { frames := 0, locals := 0, cells := 0, slots := 0 } s m #[.ref b, .int (Int32.ofNat o), .ref d, .int (Int32.ofNat q), .int (Int32.ofNat len)] below meth c Tl ([] ++ copyLocs d q i) 0 0 → Put d Bk s₁ Tl → Laid B Bk q (q + i) (fun j => Value.int (lo8 (cv A (o + (j - q))))) →
      Steps p.tables e below (s₁.setTop (entryFrame m #[.ref b, .int (Int32.ofNat o), .ref d, .int (Int32.ofNat q), .int (Int32.ofNat len)] 7)) (Tl.setTop (mkF m 3 #[.val (.ref b), .val (.int (Int32.ofNat (o + i))), .val (.ref d), .val (.int (Int32.ofNat (q + i))), .val (.int (Int32.ofNat len)), .val (.int (Int32.ofNat i)), z] [])) → ∃ (T' : State) (B' : Cell) (z' : Slot), Stand p l e { frames := 0, locals := 0, cells := 0, slots := 0 } s m #[.ref b, .int (Int32.ofNat o), .ref d, .int (Int32.ofNat q), .int (Int32.ofNat len)] below meth c T' ([] ++ copyLocs d q len) 0 0 ∧ Put d B' s₁ T' ∧ Laid B B' q (q + len) (fun j => Value.int (lo8 (cv A (o + (j - q))))) ∧
      Steps p.tables e below (s₁.setTop (entryFrame m #[.ref b, .int (Int32.ofNat o), .ref d, .int (Int32.ofNat q), .int (Int32.ofNat len)] 7)) (T'.setTop (mkF m 3 #[.val (.ref b), .val (.int (Int32.ofNat (o + len))), .val (.ref d), .val (.int (Int32.ofNat (q + len))), .val (.int (Int32.ofNat len)), .val (.int (Int32.ofNat len)), z'] [])) := by
    intro r
    induction r with
    | zero =>
      intro i hi z hz Tl Bk Xl pl fl cl
      have hil : i = len := by omega
      rw [hil] at Xl fl cl
      exact ⟨Tl, Bk, z, Xl, pl, fl, cl⟩
    | succ r ih =>
      intro i hi z hz Tl Bk Xl pl fl cl
      have all := X0.warmed.alike.symm.trans Xl.warmed.alike
      have hAl := hA0.keep all (pl.other hne hA0.1)
      have hBk := hB0.like all pl.1 fl.1 fl.2.1 fl.2.2.1
      have hlt : q + i < Bk.slots.size := by rw [fl.2.2.1]; omega
      have c3 : Steps p.tables e below (s₁.setTop (entryFrame m #[.ref b, .int (Int32.ofNat o), .ref d, .int (Int32.ofNat q), .int (Int32.ofNat len)] 7)) (Tl.setTop (mkF m 12 #[.val (.ref b), .val (.int (Int32.ofNat (o + i))), .val (.ref d), .val (.int (Int32.ofNat (q + i))), .val (.int (Int32.ofNat len)), .val (.int (Int32.ofNat i)), z] [.int (Int32.ofNat (o + i)), .ref b])) := cl.trans (by
        refine XS.iload Xl.here hexec rfl (hb hbytes d3) rfl ?_
        refine XS.iload Xl.here hexec rfl (hb hbytes d5) rfl ?_
        refine XS.icmpNo Xl.here hexec rfl (hb hbytes d7) rfl (ii_ge_f (lt32 (by omega) (by omega))) ?_
        refine XS.aloadN Xl.here hexec rfl (hb hbytes d10) rfl rfl ?_
        refine XS.iloadN Xl.here hexec rfl (hb hbytes d11) rfl ?_
        exact Steps.refl _)
      have c4 : Steps p.tables e below (s₁.setTop (entryFrame m #[.ref b, .int (Int32.ofNat o), .ref d, .int (Int32.ofNat q), .int (Int32.ofNat len)] 7)) (Tl.setTop (mkF m 13 #[.val (.ref b), .val (.int (Int32.ofNat (o + i))), .val (.ref d), .val (.int (Int32.ofNat (q + i))), .val (.int (Int32.ofNat len)), .val (.int (Int32.ofNat i)), z] [.int (cv A (o + i))])) := c3.trans (by
        refine Xl.aget hexec hAl rfl (hA.get (i := o + i) (by omega)) rfl rfl (hb hbytes d12) ?_
        exact Steps.refl _)
      have c5 : Steps p.tables e below (s₁.setTop (entryFrame m #[.ref b, .int (Int32.ofNat o), .ref d, .int (Int32.ofNat q), .int (Int32.ofNat len)] 7)) (Tl.setTop (mkF m 15 #[.val (.ref b), .val (.int (Int32.ofNat (o + i))), .val (.ref d), .val (.int (Int32.ofNat (q + i))), .val (.int (Int32.ofNat len)), .val (.int (Int32.ofNat i)), .val (.int (cv A (o + i)))] [])) := c4.trans (by
        refine XS.istoreS Xl.here hexec rfl (hb hbytes d13) rfl rfl hz ?_
        exact Steps.refl _)
      have c6 : Steps p.tables e below (s₁.setTop (entryFrame m #[.ref b, .int (Int32.ofNat o), .ref d, .int (Int32.ofNat q), .int (Int32.ofNat len)] 7)) (Tl.setTop (mkF m 31 #[.val (.ref b), .val (.int (Int32.ofNat (o + i))), .val (.ref d), .val (.int (Int32.ofNat (q + i))), .val (.int (Int32.ofNat len)), .val (.int (Int32.ofNat i)), .val (.int (cv A (o + i)))] [.int (lo8 (cv A (o + i))), .int (Int32.ofNat (q + i)), .ref d])) := c5.trans (by
        refine XS.iload Xl.here hexec rfl (hb hbytes d15) rfl ?_
        refine sipushV Xl.here hexec rfl 255 (hb hbytes d17) (by decide) ?_
        refine XS.icmpYes Xl.here hexec rfl (pc0 := 20) rfl (hb hbytes d20) rfl (ii_le_t (hp i (by omega))) (by decide) rfl ?_
        refine XS.aloadN Xl.here hexec rfl (hb hbytes d26) rfl rfl ?_
        refine XS.iloadN Xl.here hexec rfl (hb hbytes d27) rfl ?_
        refine XS.iload Xl.here hexec rfl (hb hbytes d28) rfl ?_
        refine i2b Xl.here hexec rfl (hb hbytes d30) rfl ?_
        exact Steps.refl _)
      obtain ⟨T7, X7, p7, st7⟩ := Xl.aput hexec hBk rfl hlt rfl (fits_lo8 (cv A (o + i))) (g := (mkF m 31 #[.val (.ref b), .val (.int (Int32.ofNat (o + i))), .val (.ref d), .val (.int (Int32.ofNat (q + i))), .val (.int (Int32.ofNat len)), .val (.int (Int32.ofNat i)), .val (.int (cv A (o + i)))] [.int (lo8 (cv A (o + i))), .int (Int32.ofNat (q + i)), .ref d])) rfl (rest := []) rfl (hb hbytes d31)
      have c8 : Steps p.tables e below (s₁.setTop (entryFrame m #[.ref b, .int (Int32.ofNat o), .ref d, .int (Int32.ofNat q), .int (Int32.ofNat len)] 7)) (T7.setTop (mkF m 32 #[.val (.ref b), .val (.int (Int32.ofNat (o + i))), .val (.ref d), .val (.int (Int32.ofNat (q + i))), .val (.int (Int32.ofNat len)), .val (.int (Int32.ofNat i)), .val (.int (cv A (o + i)))] [])) := c6.trans (st7 _ (Steps.refl _))
      have c9 : Steps p.tables e below (s₁.setTop (entryFrame m #[.ref b, .int (Int32.ofNat o), .ref d, .int (Int32.ofNat q), .int (Int32.ofNat len)] 7)) (T7.setTop (mkF m 3 #[.val (.ref b), .val (.int (Int32.ofNat (o + i) + 1)), .val (.ref d), .val (.int (Int32.ofNat (q + i) + 1)), .val (.int (Int32.ofNat len)), .val (.int (Int32.ofNat i + 1)), .val (.int (cv A (o + i)))] [])) := c8.trans (by
        refine iincV X7.here hexec rfl 1 (hb hbytes d32) (by decide) rfl rfl ?_
        refine iincV X7.here hexec rfl 1 (hb hbytes d35) (by decide) rfl rfl ?_
        refine iincV X7.here hexec rfl 1 (hb hbytes d38) (by decide) rfl rfl ?_
        refine XS.goto X7.here hexec rfl (pc0 := 41) rfl (hb hbytes d41) (by decide) rfl ?_
        exact Steps.refl _)
      have c10 : Steps p.tables e below (s₁.setTop (entryFrame m #[.ref b, .int (Int32.ofNat o), .ref d, .int (Int32.ofNat q), .int (Int32.ofNat len)] 7)) (T7.setTop (mkF m 3 #[.val (.ref b), .val (.int (Int32.ofNat (o + (i + 1)))), .val (.ref d), .val (.int (Int32.ofNat (q + (i + 1)))), .val (.int (Int32.ofNat len)), .val (.int (Int32.ofNat (i + 1))), .val (.int (cv A (o + i)))] [])) := by
        have := c9
        rw [succ32, succ32, succ32] at this
        exact this
      exact ih (i + 1) (by omega) _ (Or.inr ⟨_, rfl, rfl⟩) T7 _ (by rw [copyLocs_step, ← List.append_assoc]; exact X7) (pl.trans p7) (fl.step (by omega) hlt (by simp)) c10
  obtain ⟨T9, B9, z9, X9, p9, f9, g9⟩ := loop len 0 (by omega) .unset (Or.inl rfl) s₁ B (by simpa [copyLocs] using X0) ⟨hB0.1, fun _ _ => rfl, rfl⟩ (Laid.zero _ _ _) c2
  have c11 : Steps p.tables e below (s₁.setTop (entryFrame m #[.ref b, .int (Int32.ofNat o), .ref d, .int (Int32.ofNat q), .int (Int32.ofNat len)] 7)) (T9.setTop (mkF m 46 #[.val (.ref b), .val (.int (Int32.ofNat (o + len))), .val (.ref d), .val (.int (Int32.ofNat (q + len))), .val (.int (Int32.ofNat len)), .val (.int (Int32.ofNat len)), z9] [.int (Int32.ofNat len)])) := g9.trans (by
    refine XS.iload X9.here hexec rfl (hb hbytes d3) rfl ?_
    refine XS.iload X9.here hexec rfl (hb hbytes d5) rfl ?_
    refine XS.icmpYes X9.here hexec rfl (pc0 := 7) rfl (hb hbytes d7) rfl (ii_ge_t (nlt32 (by omega) (Nat.le_refl _))) (by decide) rfl ?_
    refine XS.iload X9.here hexec rfl (hb hbytes d44) rfl ?_
    exact Steps.refl _)
  exact ⟨T9, some (.int (Int32.ofNat len)), _, _, _, X9, by simp, rfl, rfl, (fun h => by cases h), ⟨rfl, B9, p9.from hh0, f9⟩, fun fs hl => c11.trans (X9.ireturnOut hexec hret rfl (Or.inl rfl) (hb hbytes d46) hl)⟩
end Cmp5
namespace Cmp3
def yN : MethodName := ⟨"java/lang/StringUTF16", "compress", "([CII)[B"⟩
abbrev yB : ByteArray := jdk_52_method_16_code
theorem d0 : decode yB 0 = .ok (.iload_n 2, 1) := by decide +kernel
theorem d1 : decode yB 1 = .ok (.newarray .byte, 2) := by decide +kernel
theorem d3 : decode yB 3 = .ok (.astore_n 3, 1) := by decide +kernel
theorem d4 : decode yB 4 = .ok (.aload_n 0, 1) := by decide +kernel
theorem d5 : decode yB 5 = .ok (.iload_n 1, 1) := by decide +kernel
theorem d6 : decode yB 6 = .ok (.aload_n 3, 1) := by decide +kernel
theorem d7 : decode yB 7 = .ok (.iconst 0, 1) := by decide +kernel
theorem d8 : decode yB 8 = .ok (.iload_n 2, 1) := by decide +kernel
theorem d9 : decode yB 9 = .ok (.invokestatic 115, 3) := by decide +kernel
theorem d12 : decode yB 12 = .ok (.istore 4, 2) := by decide +kernel
theorem d14 : decode yB 14 = .ok (.iload 4, 2) := by decide +kernel
theorem d16 : decode yB 16 = .ok (.iload_n 2, 1) := by decide +kernel
theorem d17 : decode yB 17 = .ok (.if_icmp (.eq) 40, 3) := by decide +kernel
theorem d57 : decode yB 57 = .ok (.aload_n 3, 1) := by decide +kernel
theorem d58 : decode yB 58 = .ok (.areturn, 1) := by decide +kernel
def site : List Cond := [.arrayClass .byte, Cmp5.tab] ++ staticW U16 115 Cmp5.yN
def tab : Cond := tabOf yN yB 6 (some (.array .byte)) site
def P (b : Addr) (A : Cell) (o len : Nat) (args : Array Value) (s : State) : Prop := args = #[.ref b, .int (Int32.ofNat o), .int (Int32.ofNat len)] ∧ Ch b A s ∧ o + len ≤ A.slots.size ∧ len ≤ 536870912 ∧ ∀ i, i < len → ¬ 255 < cv A (o + i)
def E (b : Addr) (A : Cell) (o len : Nat) (r : Option Value) (s u : State) : Prop := NewArr .byte "[B" len (fun j => .int (lo8 (cv A (o + j)))) r s u ∧ u.heap.size = s.heap.size + 1
/-- no char of the range above 255: a new byte[] of their low bytes -/
theorem law (l : Launch) (b : Addr) (A : Cell) (o len : Nat) : Law l yN 3 3 1 18 yB 6 (some (.array .byte)) site (P b A o len) (E b A o len) [] 1 len := by
  refine Law.of_walk (plainFor_of_name (by decide +kernel)) (by decide +kernel) (by decide +kernel) (by decide) (fun _ _ h => by rw [h.1]; rfl) (fun _ U U' hal hh h => ⟨h.1, h.2.1.mv hal hh, h.2.2⟩) (fun r U U' V V' h1 hal h2 h => ⟨NewArr.mv r U U' V V' h1 hal h2 h.1, by rw [h1, h2]; exact h.2⟩) ?_
  intro p e s m args below meth c s₁ X0 hexec hbytes hml hret hlk hnm hown hh0 W hP
  obtain ⟨rfl, hA, l1, l2, hp⟩ := hP
  have a31 := hA.1.2.2.2
  have c1 : Steps p.tables e below (s₁.setTop (entryFrame m #[.ref b, .int (Int32.ofNat o), .int (Int32.ofNat len)] 6)) (s₁.setTop (mkF m 0 #[.val (.ref b), .val (.int (Int32.ofNat o)), .val (.int (Int32.ofNat len)), .unset, .unset, .unset] [])) := entry rfl
  have c2 : Steps p.tables e below (s₁.setTop (entryFrame m #[.ref b, .int (Int32.ofNat o), .int (Int32.ofNat len)] 6)) (s₁.setTop (mkF m 1 #[.val (.ref b), .val (.int (Int32.ofNat o)), .val (.int (Int32.ofNat len)), .unset, .unset, .unset] [.int (Int32.ofNat len)])) := c1.trans (by
    refine XS.iloadN X0.here hexec rfl (hb hbytes d0) rfl ?_
    exact Steps.refl _)
  obtain ⟨T3, B3, X3, ba3, bs3, bv3, bh3, bf3, st3⟩ := X0.anew hexec (atype := .byte) (wk W (.arrayClass .byte)) rfl (by show len * 1 ≤ _; omega) (by omega) (g := (mkF m 1 #[.val (.ref b), .val (.int (Int32.ofNat o)), .val (.int (Int32.ofNat len)), .unset, .unset, .unset] [.int (Int32.ofNat len)])) rfl (hb hbytes d1) (rest := []) rfl (Nat.le_refl _) (by show 0 + len ≤ len; omega)
  rw [hh0] at ba3 st3
  have kp3 : XT.Kept s T3 := (XT.Kept.of_eq hh0).push bh3
  have hA3 := hA.keep X3.warmed.alike (kp3 _ _ hA.1.1)
  have hne : b ≠ s.heap.size := hA.1.ne
  have c4 : Steps p.tables e below (s₁.setTop (entryFrame m #[.ref b, .int (Int32.ofNat o), .int (Int32.ofNat len)] 6)) (T3.setTop (mkF m 3 #[.val (.ref b), .val (.int (Int32.ofNat o)), .val (.int (Int32.ofNat len)), .unset, .unset, .unset] [.ref s.heap.size])) := c2.trans (st3 _ (Steps.refl _))
  have c5 : Steps p.tables e below (s₁.setTop (entryFrame m #[.ref b, .int (Int32.ofNat o), .int (Int32.ofNat len)] 6)) (T3.setTop (mkF m 9 #[.val (.ref b), .val (.int (Int32.ofNat o)), .val (.int (Int32.ofNat len)), .val (.ref s.heap.size), .unset, .unset] [.int (Int32.ofNat len), .int 0, .ref s.heap.size, .int (Int32.ofNat o), .ref b])) := c4.trans (by
    refine XS.astoreN X3.here hexec rfl (hb hbytes d3) rfl rfl rfl ?_
    refine XS.aloadN X3.here hexec rfl (hb hbytes d4) rfl rfl ?_
    refine XS.iloadN X3.here hexec rfl (hb hbytes d5) rfl ?_
    refine XS.aloadN X3.here hexec rfl (hb hbytes d6) rfl rfl ?_
    refine iconstV X3.here hexec rfl 0 (hb hbytes d7) (by decide) ?_
    refine XS.iloadN X3.here hexec rfl (hb hbytes d8) rfl ?_
    exact Steps.refl _)
  obtain ⟨v6, T6, X6, E6, g6⟩ := X3.callS hexec (Cmp5.law l b A s.heap.size B3 o 0 len) hown (wks W (staticW U16 115 Cmp5.yN)) (wk W Cmp5.tab) (W := 0) (Nat.le_of_ble_eq_true rfl) (Nat.le_of_ble_eq_true rfl) (Nat.le_refl _) (by show 0 + len + 0 ≤ len; omega) (g := (mkF m 9 #[.val (.ref b), .val (.int (Int32.ofNat o)), .val (.int (Int32.ofNat len)), .val (.ref s.heap.size), .unset, .unset] [.int (Int32.ofNat len), .int (Int32.ofNat 0), .ref s.heap.size, .int (Int32.ofNat o), .ref b])) rfl (by rw [hml]; rfl) c5 (argsL := [.ref b, .int (Int32.ofNat o), .ref s.heap.size, .int (Int32.ofNat 0), .int (Int32.ofNat len)]) (rest := []) rfl rfl (by show 2 * 0 + 0 ≤ _; decide) (hb hbytes d9) (⟨rfl, hA3, ba3, hne, l1, by rw [bs3]; simp, hp⟩)
  obtain ⟨rfl, B6, p6, f6⟩ := E6
  have c7 : Steps p.tables e below (s₁.setTop (entryFrame m #[.ref b, .int (Int32.ofNat o), .int (Int32.ofNat len)] 6)) (T6.setTop (mkF m 12 #[.val (.ref b), .val (.int (Int32.ofNat o)), .val (.int (Int32.ofNat len)), .val (.ref s.heap.size), .unset, .unset] [.int (Int32.ofNat len)])) := g6
  have c8 : Steps p.tables e below (s₁.setTop (entryFrame m #[.ref b, .int (Int32.ofNat o), .int (Int32.ofNat len)] 6)) (T6.setTop (mkF m 58 #[.val (.ref b), .val (.int (Int32.ofNat o)), .val (.int (Int32.ofNat len)), .val (.ref s.heap.size), .val (.int (Int32.ofNat len)), .unset] [.ref s.heap.size])) := c7.trans (by
    refine XS.istore X6.here hexec rfl (hb hbytes d12) rfl rfl ?_
    refine XS.iload X6.here hexec rfl (hb hbytes d14) rfl ?_
    refine XS.iloadN X6.here hexec rfl (hb hbytes d16) rfl ?_
    refine XS.icmpYes X6.here hexec rfl (pc0 := 17) rfl (hb hbytes d17) rfl (ii_eq_t rfl) (by decide) rfl ?_
    refine XS.aloadN X6.here hexec rfl (hb hbytes d57) rfl rfl ?_
    exact Steps.refl _)
  have X8 := X6.wide (L' := []) (cells' := 1) (slots' := len) (fun x hx hlt => by
    simp only [List.nil_append, copyLocs, List.mem_map, List.mem_range] at hx
    obtain ⟨i, -, rfl⟩ := hx
    exact absurd hlt (Nat.lt_irrefl _)) (Nat.le_refl _) (by omega)
  exact ⟨T6, some (.ref s.heap.size), _, _, _, X8, rfl, rfl, rfl, (fun h => by cases h), ⟨⟨rfl, B6, ba3.like (X3.warmed.alike.symm.trans X6.warmed.alike) p6.1 f6.1 f6.2.1 f6.2.2.1, f6.2.1.trans bv3, by rw [X6.warmed.alike.findClass, f6.1]; exact bf3, by rw [f6.2.2.1, bs3]; simp, fun j hj => by rw [f6.2.2.2 j, if_pos (by omega)]; rfl, kp3.put p6 (Nat.le_refl _)⟩, by rw [p6.2.2, bh3, hh0]; simp⟩, fun fs hl => c8.trans (X8.areturnOut hexec rfl hret rfl (hb hbytes d58) hl)⟩
end Cmp3
namespace CodL
def yN : MethodName := ⟨"java/lang/StringUTF16", "coderFromArrayLen", "([BI)B"⟩
abbrev yB : ByteArray := jdk_52_method_15_code
theorem d0 : decode yB 0 = .ok (.iload_n 1, 1) := by decide +kernel
theorem d1 : decode yB 1 = .ok (.aload_n 0, 1) := by decide +kernel
theorem d2 : decode yB 2 = .ok (.arraylength, 1) := by decide +kernel
theorem d3 : decode yB 3 = .ok (.isub, 1) := by decide +kernel
theorem d4 : decode yB 4 = .ok (.bipush 31, 2) := by decide +kernel
theorem d6 : decode yB 6 = .ok (.iushr, 1) := by decide +kernel
theorem d7 : decode yB 7 = .ok (.i2b, 1) := by decide +kernel
theorem d8 : decode yB 8 = .ok (.ireturn, 1) := by decide +kernel
def site : List Cond := []
def tab : Cond := tabOf yN yB 2 (some .byte) site
def P (d : Addr) (B : Cell) (args : Array Value) (s : State) : Prop := args = #[.ref d, .int (Int32.ofNat B.slots.size)] ∧ Arr .byte d B s
def E (r : Option Value) (s u : State) : Prop := XT.PureE (some (.int 0)) r s u
/-- an array as long as the number of chars: LATIN1 -/
theorem law (l : Launch) (d : Addr) (B : Cell) : Law l yN 2 2 0 0 yB 2 (some .byte) site (P d B) E [] 0 0 := by
  refine Law.of_walk (plainFor_of_name (by decide +kernel)) (by decide +kernel) (by decide +kernel) (by decide) (fun _ _ h => by rw [h.1]; rfl) (fun _ U U' hal hh h => ⟨h.1, h.2.mv hal hh⟩) (fun r U U' V V' h1 hal h2 h => XT.PureE.mv r U U' V V' h1 hal h2 h) ?_
  intro p e s m args below meth c s₁ X0 hexec hbytes hml hret hlk hnm hown hh0 W hP
  obtain ⟨rfl, hB⟩ := hP
  have hB0 := hB.mv X0.warmed.alike hh0
  have c1 : Steps p.tables e below (s₁.setTop (entryFrame m #[.ref d, .int (Int32.ofNat B.slots.size)] 2)) (s₁.setTop (mkF m 0 #[.val (.ref d), .val (.int (Int32.ofNat B.slots.size))] [])) := entry rfl
  have c2 : Steps p.tables e below (s₁.setTop (entryFrame m #[.ref d, .int (Int32.ofNat B.slots.size)] 2)) (s₁.setTop (mkF m 2 #[.val (.ref d), .val (.int (Int32.ofNat B.slots.size))] [.ref d, .int (Int32.ofNat B.slots.size)])) := c1.trans (by
    refine XS.iloadN X0.here hexec rfl (hb hbytes d0) rfl ?_
    refine XS.aloadN X0.here hexec rfl (hb hbytes d1) rfl rfl ?_
    exact Steps.refl _)
  have c3 : Steps p.tables e below (s₁.setTop (entryFrame m #[.ref d, .int (Int32.ofNat B.slots.size)] 2)) (s₁.setTop (mkF m 8 #[.val (.ref d), .val (.int (Int32.ofNat B.slots.size))] [.int (lo8 (ushr (Int32.ofNat B.slots.size - Int32.ofNat B.slots.size) 31))])) := c2.trans (by
    refine X0.alen hexec hB0 rfl rfl (hb hbytes d2) ?_
    refine XS.isub X0.here hexec rfl (hb hbytes d3) rfl ?_
    refine bipushV X0.here hexec rfl 31 (hb hbytes d4) (by decide) ?_
    refine iushr X0.here hexec rfl (hb hbytes d6) rfl ?_
    refine i2b X0.here hexec rfl (hb hbytes d7) rfl ?_
    exact Steps.refl _)
  have e0 : lo8 (ushr (Int32.ofNat B.slots.size - Int32.ofNat B.slots.size) 31) = 0 := by rw [Int32.sub_self]; decide
  rw [e0] at c3
  exact ⟨s₁, some (.int 0), _, _, _, X0, rfl, rfl, rfl, (fun h => by cases h), ⟨rfl, hh0⟩, fun fs hl => c3.trans (X0.ireturnOut hexec hret rfl (Or.inr (Or.inr (Or.inl rfl))) (hb hbytes d8) hl)⟩
end CodL
/-- the String at a is Latin-1 over a new byte[] (the heap's one new cell): the low bytes of the len chars of A from o on; every cell but a is kept -/
def Got (a : Addr) (D : Cell) (fV fC : Field) (A : Cell) (o len : Nat) (r : Option Value) (s u : State) : Prop := r = none ∧ ∃ D' V : Cell, Blank "java/lang/String" a D' u ∧ Same D D' [fV.slot, fC.slot] ∧ D'.slots[fV.slot]? = some (.ref s.heap.size) ∧ D'.slots[fC.slot]? = some (.int 0) ∧ Arr .byte s.heap.size V u ∧ V.vm = .none ∧ u.vm.findClass "[B" = some V.cls ∧ V.slots.size = len ∧ (∀ j, j < len → V.slots[j]? = some (.int (lo8 (cv A (o + j))))) ∧ (∀ (y : Addr) (c : Cell), y ≠ a → s.heap[y]? = some c → u.heap[y]? = some c) ∧ u.heap.size = s.heap.size + 1
theorem Got.mv {a : Addr} {D A : Cell} {fV fC : Field} {o len : Nat} : ∀ r (U U' V V' : State), U'.heap = U.heap → V.vm.Alike V'.vm → V'.heap = V.heap → Got a D fV fC A o len r U V → Got a D fV fC A o len r U' V' :=
  fun r U U' V V' h1 hal h2 ⟨e0, D', X, a1, a2, a3, a4, a5, a6, a7, a8, a9, a10, a11⟩ => ⟨e0, D', X, a1.mv hal h2, a2, by rw [h1]; exact a3, a4, by rw [h1]; exact a5.mv hal h2, a6, by rw [hal.findClass]; exact a7, a8, a9, by rw [h1, h2]; exact a10, by rw [h1, h2]; exact a11⟩
namespace New4
def yN : MethodName := ⟨"java/lang/String", "<init>", "([CIILjava/lang/Void;)V"⟩
abbrev yB : ByteArray := jdk_42_method_149_code
theorem d0 : decode yB 0 = .ok (.aload_n 0, 1) := by decide +kernel
theorem d1 : decode yB 1 = .ok (.invokespecial 1, 3) := by decide +kernel
theorem d4 : decode yB 4 = .ok (.iload_n 3, 1) := by decide +kernel
theorem d5 : decode yB 5 = .ok (.ifCond (.ne) 22, 3) := by decide +kernel
theorem d27 : decode yB 27 = .ok (.getstatic 38, 3) := by decide +kernel
theorem d30 : decode yB 30 = .ok (.ifCond (.eq) 28, 3) := by decide +kernel
theorem d33 : decode yB 33 = .ok (.aload_n 1, 1) := by decide +kernel
theorem d34 : decode yB 34 = .ok (.iload_n 2, 1) := by decide +kernel
theorem d35 : decode yB 35 = .ok (.iload_n 3, 1) := by decide +kernel
theorem d36 : decode yB 36 = .ok (.invokestatic 177, 3) := by decide +kernel
theorem d39 : decode yB 39 = .ok (.astore 5, 2) := by decide +kernel
theorem d41 : decode yB 41 = .ok (.aload_n 0, 1) := by decide +kernel
theorem d42 : decode yB 42 = .ok (.aload 5, 2) := by decide +kernel
theorem d44 : decode yB 44 = .ok (.iload_n 3, 1) := by decide +kernel
theorem d45 : decode yB 45 = .ok (.invokestatic 47, 3) := by decide +kernel
theorem d48 : decode yB 48 = .ok (.putfield 15, 3) := by decide +kernel
theorem d51 : decode yB 51 = .ok (.aload_n 0, 1) := by decide +kernel
theorem d52 : decode yB 52 = .ok (.aload 5, 2) := by decide +kernel
theorem d54 : decode yB 54 = .ok (.putfield 9, 3) := by decide +kernel
theorem d57 : decode yB 57 = .ok (.return_, 1) := by decide +kernel
def site : List Cond := [.fieldLink "java/lang/String" 38 "java/lang/String" "COMPACT_STRINGS" "Z", Cmp3.tab, CodL.tab, .laysFinal "java/lang/String" "java/lang/String" "value" "[B", .fieldLink "java/lang/String" 9 "java/lang/String" "value" "[B", .laysFinal "java/lang/String" "java/lang/String" "coder" "B", .fieldLink "java/lang/String" 15 "java/lang/String" "coder" "B"] ++ objW "java/lang/String" 1 ++ staticW "java/lang/String" 177 Cmp3.yN ++ staticW "java/lang/String" 47 CodL.yN
def tab : Cond := tabOf yN yB 6 none site
def P (a : Addr) (D : Cell) (fV fC : Field) (b : Addr) (A : Cell) (z : Int32) (o len : Nat) (args : Array Value) (s : State) : Prop := args = #[.ref a, .ref b, .int (Int32.ofNat o), .int (Int32.ofNat len), .null] ∧ Blank "java/lang/String" a D s ∧ Found "java/lang/String" "value" "[B" fV s ∧ Found "java/lang/String" "coder" "B" fC s ∧ Ch b A s ∧ StaticIs s "java/lang/String" "COMPACT_STRINGS" "Z" (.int z) ∧ ¬ z = 0 ∧ 0 < len ∧ o + len ≤ A.slots.size ∧ len ≤ 536870912 ∧ ∀ i, i < len → ¬ 255 < cv A (o + i)
def E (a : Addr) (D : Cell) (fV fC : Field) (A : Cell) (o len : Nat) (r : Option Value) (s u : State) : Prop := Got a D fV fC A o len r s u
/-- len > 0, no char of the range above 255: a Latin-1 String of their low bytes -/
theorem law (l : Launch) (a : Addr) (D : Cell) (fV fC : Field) (b : Addr) (A : Cell) (z : Int32) (o len : Nat) : Law l yN 5 4 2 35 yB 6 none site (P a D fV fC b A z o len) (E a D fV fC A o len) [⟨a, fC.slot⟩, ⟨a, fV.slot⟩] 1 len := by
  refine Law.of_walk (plainFor_of_name (by decide +kernel)) (by decide +kernel) (by decide +kernel) (by decide) (fun _ _ h => by rw [h.1]; rfl) (fun _ U U' hal hh h => ⟨h.1, h.2.1.mv hal hh, h.2.2.1.al hal, h.2.2.2.1.al hal, h.2.2.2.2.1.mv hal hh, h.2.2.2.2.2.1.there hal hh, h.2.2.2.2.2.2⟩) (fun r U U' V V' h1 hal h2 h => Got.mv r U U' V V' h1 hal h2 h) ?_
  intro p e s m args below meth c s₁ X0 hexec hbytes hml hret hlk hnm hown hh0 W hP
  obtain ⟨rfl, hB, f1, f2, hA, s1, hz, l0, l1, l2, hp⟩ := hP
  have a31 := hA.1.2.2.2
  have c1 : Steps p.tables e below (s₁.setTop (entryFrame m #[.ref a, .ref b, .int (Int32.ofNat o), .int (Int32.ofNat len), .null] 6)) (s₁.setTop (mkF m 0 #[.val (.ref a), .val (.ref b), .val (.int (Int32.ofNat o)), .val (.int (Int32.ofNat len)), .val .null, .unset] [])) := entry rfl
  have c2 : Steps p.tables e below (s₁.setTop (entryFrame m #[.ref a, .ref b, .int (Int32.ofNat o), .int (Int32.ofNat len), .null] 6)) (s₁.setTop (mkF m 1 #[.val (.ref a), .val (.ref b), .val (.int (Int32.ofNat o)), .val (.int (Int32.ofNat len)), .val .null, .unset] [.ref a])) := c1.trans (by
    refine XS.aloadN X0.here hexec rfl (hb hbytes d0) rfl rfl ?_
    exact Steps.refl _)
  obtain ⟨T3, X3, q3, st3⟩ := X0.oinit hexec hown (wks W (objW "java/lang/String" 1)) (g := (mkF m 1 #[.val (.ref a), .val (.ref b), .val (.int (Int32.ofNat o)), .val (.int (Int32.ofNat len)), .val .null, .unset] [.ref a])) rfl (by rw [hml]; rfl) (rest := []) rfl (hb hbytes d1) (W := 0) (by show 2 * 0 + 0 ≤ _; decide) (Nat.le_of_ble_eq_true rfl) (Nat.le_of_ble_eq_true rfl)
  have hh3 := q3.trans hh0
  have c4 : Steps p.tables e below (s₁.setTop (entryFrame m #[.ref a, .ref b, .int (Int32.ofNat o), .int (Int32.ofNat len), .null] 6)) (T3.setTop (mkF m 27 #[.val (.ref a), .val (.ref b), .val (.int (Int32.ofNat o)), .val (.int (Int32.ofNat len)), .val .null, .unset] [])) := (c2.trans (st3 _ (Steps.refl _))).trans (by
    refine XS.iloadN X3.here hexec rfl (hb hbytes d4) rfl ?_
    refine XS.ifYes X3.here hexec rfl (pc0 := 5) rfl (hb hbytes d5) rfl (i0_ne_t (nz32 (by omega) l0)) (by decide) rfl ?_
    exact Steps.refl _)
  obtain ⟨T5, X5, q5, st5⟩ := X3.sget hexec hown (wk W (.fieldLink "java/lang/String" 38 "java/lang/String" "COMPACT_STRINGS" "Z")) s1 (fun _ _ h => by rw [hh3]; exact h) (g := (mkF m 27 #[.val (.ref a), .val (.ref b), .val (.int (Int32.ofNat o)), .val (.int (Int32.ofNat len)), .val .null, .unset] [])) rfl (hb hbytes d27)
  have hh5 := q5.trans hh3
  have c6 : Steps p.tables e below (s₁.setTop (entryFrame m #[.ref a, .ref b, .int (Int32.ofNat o), .int (Int32.ofNat len), .null] 6)) (T5.setTop (mkF m 30 #[.val (.ref a), .val (.ref b), .val (.int (Int32.ofNat o)), .val (.int (Int32.ofNat len)), .val .null, .unset] [.int z])) := c4.trans (st5 _ (Steps.refl _))
  have c7 : Steps p.tables e below (s₁.setTop (entryFrame m #[.ref a, .ref b, .int (Int32.ofNat o), .int (Int32.ofNat len), .null] 6)) (T5.setTop (mkF m 36 #[.val (.ref a), .val (.ref b), .val (.int (Int32.ofNat o)), .val (.int (Int32.ofNat len)), .val .null, .unset] [.int (Int32.ofNat len), .int (Int32.ofNat o), .ref b])) := c6.trans (by
    refine XS.ifNo X5.here hexec rfl (hb hbytes d30) rfl (i0_eq_f hz) ?_
    refine XS.aloadN X5.here hexec rfl (hb hbytes d33) rfl rfl ?_
    refine XS.iloadN X5.here hexec rfl (hb hbytes d34) rfl ?_
    refine XS.iloadN X5.here hexec rfl (hb hbytes d35) rfl ?_
    exact Steps.refl _)
  obtain ⟨v8, T8, X8, E8, g8⟩ := X5.callS hexec (Cmp3.law l b A o len) hown (wks W (staticW "java/lang/String" 177 Cmp3.yN)) (wk W Cmp3.tab) (W := 0) (Nat.le_of_ble_eq_true rfl) (Nat.le_of_ble_eq_true rfl) (Nat.le_refl _) (by show 0 + len ≤ len; omega) (g := (mkF m 36 #[.val (.ref a), .val (.ref b), .val (.int (Int32.ofNat o)), .val (.int (Int32.ofNat len)), .val .null, .unset] [.int (Int32.ofNat len), .int (Int32.ofNat o), .ref b])) rfl (by rw [hml]; rfl) c7 (argsL := [.ref b, .int (Int32.ofNat o), .int (Int32.ofNat len)]) (rest := []) rfl rfl (by show 2 * 0 + 0 ≤ _; decide) (hb hbytes d36) (⟨rfl, hA.mv X5.warmed.alike hh5, l1, l2, hp⟩)
  obtain ⟨e8, z8⟩ := E8
  obtain ⟨rfl, N, n1, n2, n3, n4, n5, n6⟩ := NewArr.mv _ T5 s _ _ hh5.symm (Vm.Alike.refl _) rfl e8
  rw [hh5] at z8
  have hB1 := hB.keep X8.warmed.alike (n6 _ _ hB.1)
  have hne : s.heap.size ≠ a := (Nat.ne_of_lt (Array.getElem?_eq_some_iff.mp hB.1).1).symm
  have c9 : Steps p.tables e below (s₁.setTop (entryFrame m #[.ref a, .ref b, .int (Int32.ofNat o), .int (Int32.ofNat len), .null] 6)) (T8.setTop (mkF m 39 #[.val (.ref a), .val (.ref b), .val (.int (Int32.ofNat o)), .val (.int (Int32.ofNat len)), .val .null, .unset] [.ref s.heap.size])) := g8
  have c10 : Steps p.tables e below (s₁.setTop (entryFrame m #[.ref a, .ref b, .int (Int32.ofNat o), .int (Int32.ofNat len), .null] 6)) (T8.setTop (mkF m 45 #[.val (.ref a), .val (.ref b), .val (.int (Int32.ofNat o)), .val (.int (Int32.ofNat len)), .val .null, .val (.ref s.heap.size)] [.int (Int32.ofNat N.slots.size), .ref s.heap.size, .ref a])) := by
    have hc : Steps p.tables e below (s₁.setTop (entryFrame m #[.ref a, .ref b, .int (Int32.ofNat o), .int (Int32.ofNat len), .null] 6)) (T8.setTop (mkF m 45 #[.val (.ref a), .val (.ref b), .val (.int (Int32.ofNat o)), .val (.int (Int32.ofNat len)), .val .null, .val (.ref s.heap.size)] [.int (Int32.ofNat len), .ref s.heap.size, .ref a])) := c9.trans (by
      refine XS.astore X8.here hexec rfl (hb hbytes d39) rfl rfl rfl ?_
      refine XS.aloadN X8.here hexec rfl (hb hbytes d41) rfl rfl ?_
      refine XS.aload X8.here hexec rfl (hb hbytes d42) rfl rfl ?_
      refine XS.iloadN X8.here hexec rfl (hb hbytes d44) rfl ?_
      exact Steps.refl _)
    rw [n4]; exact hc
  obtain ⟨v11, T11, X11, E11, g11⟩ := X8.callS hexec (CodL.law l s.heap.size N) hown (wks W (staticW "java/lang/String" 47 CodL.yN)) (wk W CodL.tab) (W := 1) (Nat.le_of_ble_eq_true rfl) (Nat.le_of_ble_eq_true rfl) (Nat.le_refl _) (by show 0 + len + 0 ≤ len; omega) (g := (mkF m 45 #[.val (.ref a), .val (.ref b), .val (.int (Int32.ofNat o)), .val (.int (Int32.ofNat len)), .val .null, .val (.ref s.heap.size)] [.int (Int32.ofNat N.slots.size), .ref s.heap.size, .ref a])) rfl (by rw [hml]; rfl) c10 (argsL := [.ref s.heap.size, .int (Int32.ofNat N.slots.size)]) (rest := [.ref a]) rfl rfl (by show 2 * 0 + (1 + 0) ≤ _; decide) (hb hbytes d45) (⟨rfl, n1⟩)
  obtain ⟨rfl, q11⟩ := E11
  have hB11 := hB1.mv (X8.warmed.alike.symm.trans X11.warmed.alike) q11
  have c12 : Steps p.tables e below (s₁.setTop (entryFrame m #[.ref a, .ref b, .int (Int32.ofNat o), .int (Int32.ofNat len), .null] 6)) (T11.setTop (mkF m 48 #[.val (.ref a), .val (.ref b), .val (.int (Int32.ofNat o)), .val (.int (Int32.ofNat len)), .val .null, .val (.ref s.heap.size)] [.int 0, .ref a])) := g11
  obtain ⟨T13, X13, p13, bl13, sl13, st13⟩ := X11.finit hexec hown (wk W (.fieldLink "java/lang/String" 15 "java/lang/String" "coder" "B")) (Or.inr ⟨_, (wk W (.laysFinal "java/lang/String" "java/lang/String" "coder" "B"))⟩) (Or.inl ⟨rfl, hnm⟩) f2 (Or.inl rfl) hB11 (t := .byte) (by decide +kernel) rfl (g := (mkF m 48 #[.val (.ref a), .val (.ref b), .val (.int (Int32.ofNat o)), .val (.int (Int32.ofNat len)), .val .null, .val (.ref s.heap.size)] [.int 0, .ref a])) rfl (rest := []) rfl (hb hbytes d48)
  have c14 : Steps p.tables e below (s₁.setTop (entryFrame m #[.ref a, .ref b, .int (Int32.ofNat o), .int (Int32.ofNat len), .null] 6)) (T13.setTop (mkF m 54 #[.val (.ref a), .val (.ref b), .val (.int (Int32.ofNat o)), .val (.int (Int32.ofNat len)), .val .null, .val (.ref s.heap.size)] [.ref s.heap.size, .ref a])) := (c12.trans (st13 _ (Steps.refl _))).trans (by
    refine XS.aloadN X13.here hexec rfl (hb hbytes d51) rfl rfl ?_
    refine XS.aload X13.here hexec rfl (hb hbytes d52) rfl rfl ?_
    exact Steps.refl _)
  obtain ⟨T15, X15, p15, bl15, sl15, st15⟩ := X13.finit hexec hown (wk W (.fieldLink "java/lang/String" 9 "java/lang/String" "value" "[B")) (Or.inr ⟨_, (wk W (.laysFinal "java/lang/String" "java/lang/String" "value" "[B"))⟩) (Or.inl ⟨rfl, hnm⟩) f1 (Or.inl rfl) bl13 (t := (.array .byte)) (by decide +kernel) rfl (g := (mkF m 54 #[.val (.ref a), .val (.ref b), .val (.int (Int32.ofNat o)), .val (.int (Int32.ofNat len)), .val .null, .val (.ref s.heap.size)] [.ref s.heap.size, .ref a])) rfl (rest := []) rfl (hb hbytes d54)
  have c16 : Steps p.tables e below (s₁.setTop (entryFrame m #[.ref a, .ref b, .int (Int32.ofNat o), .int (Int32.ofNat len), .null] 6)) (T15.setTop (mkF m 57 #[.val (.ref a), .val (.ref b), .val (.int (Int32.ofNat o)), .val (.int (Int32.ofNat len)), .val .null, .val (.ref s.heap.size)] [])) := c14.trans (st15 _ (Steps.refl _))
  have ap := apart (Or.inr ⟨_, (wk W (.laysFinal "java/lang/String" "java/lang/String" "value" "[B"))⟩) (Or.inr ⟨_, (wk W (.laysFinal "java/lang/String" "java/lang/String" "coder" "B"))⟩) f1 f2 (t₁ := .array .byte) (t₂ := .byte) (by decide +kernel) (by decide +kernel) (by decide)
  have al := X8.warmed.alike.symm.trans X15.warmed.alike
  have n7 : T11.heap[s.heap.size]? = some N := by rw [q11]; exact n1.1
  exact ⟨T15, none, _, _, _, X15, by simp, rfl, by omega, (fun _ => rfl), ⟨rfl, _, N, bl15, ((Same.refl D _).set _ (by simp)).set _ (by simp), sl15, (Cell.slots_setSlot_ne _ ap).trans sl13, n1.keep al (p15.other hne (p13.other hne n7)), n2, by rw [al.findClass]; exact n3, n4, n5, fun y c h1 h2 => p15.other h1 (p13.other h1 (by rw [q11]; exact n6 y c h2)), by rw [p15.2.2, p13.2.2, q11]; exact z8⟩, fun fs hl => c16.trans (X15.returnOut hexec hret (hb hbytes d57) hl)⟩
end New4
namespace New1
def yN : MethodName := ⟨"java/lang/String", "<init>", "([C)V"⟩
abbrev yB : ByteArray := jdk_42_method_3_code
theorem d0 : decode yB 0 = .ok (.aload_n 0, 1) := by decide +kernel
theorem d1 : decode yB 1 = .ok (.aload_n 1, 1) := by decide +kernel
theorem d2 : decode yB 2 = .ok (.iconst 0, 1) := by decide +kernel
theorem d3 : decode yB 3 = .ok (.aload_n 1, 1) := by decide +kernel
theorem d4 : decode yB 4 = .ok (.arraylength, 1) := by decide +kernel
theorem d5 : decode yB 5 = .ok (.aconst_null, 1) := by decide +kernel
theorem d6 : decode yB 6 = .ok (.invokespecial 27, 3) := by decide +kernel
theorem d9 : decode yB 9 = .ok (.return_, 1) := by decide +kernel
def site : List Cond := [New4.tab] ++ initW "java/lang/String" 27 New4.yN
def tab : Cond := tabOf yN yB 2 none site
def P (a : Addr) (D : Cell) (fV fC : Field) (b : Addr) (A : Cell) (z : Int32) (args : Array Value) (s : State) : Prop := args = #[.ref a, .ref b] ∧ Blank "java/lang/String" a D s ∧ Found "java/lang/String" "value" "[B" fV s ∧ Found "java/lang/String" "coder" "B" fC s ∧ Ch b A s ∧ StaticIs s "java/lang/String" "COMPACT_STRINGS" "Z" (.int z) ∧ ¬ z = 0 ∧ 0 < A.slots.size ∧ A.slots.size ≤ 536870912 ∧ ∀ i, i < A.slots.size → ¬ 255 < cv A i
def E (a : Addr) (D : Cell) (fV fC : Field) (A : Cell) (r : Option Value) (s u : State) : Prop := Got a D fV fC A 0 A.slots.size r s u
/-- new String(chars), not empty, no char above 255: a Latin-1 String of their low bytes -/
theorem law (l : Launch) (a : Addr) (D : Cell) (fV fC : Field) (b : Addr) (A : Cell) (z : Int32) : Law l yN 2 1 3 52 yB 2 none site (P a D fV fC b A z) (E a D fV fC A) [⟨a, fC.slot⟩, ⟨a, fV.slot⟩] 1 A.slots.size := by
  refine Law.of_walk (plainFor_of_name (by decide +kernel)) (by decide +kernel) (by decide +kernel) (by decide) (fun _ _ h => by rw [h.1]; rfl) (fun _ U U' hal hh h => ⟨h.1, h.2.1.mv hal hh, h.2.2.1.al hal, h.2.2.2.1.al hal, h.2.2.2.2.1.mv hal hh, h.2.2.2.2.2.1.there hal hh, h.2.2.2.2.2.2⟩) (fun r U U' V V' h1 hal h2 h => Got.mv r U U' V V' h1 hal h2 h) ?_
  intro p e s m args below meth c s₁ X0 hexec hbytes hml hret hlk hnm hown hh0 W hP
  obtain ⟨rfl, hB, f1, f2, hA, s1, hz, l0, l2, hp⟩ := hP
  have c1 : Steps p.tables e below (s₁.setTop (entryFrame m #[.ref a, .ref b] 2)) (s₁.setTop (mkF m 0 #[.val (.ref a), .val (.ref b)] [])) := entry rfl
  have c2 : Steps p.tables e below (s₁.setTop (entryFrame m #[.ref a, .ref b] 2)) (s₁.setTop (mkF m 6 #[.val (.ref a), .val (.ref b)] [.null, .int (Int32.ofNat A.slots.size), .int 0, .ref b, .ref a])) := c1.trans (by
    refine XS.aloadN X0.here hexec rfl (hb hbytes d0) rfl rfl ?_
    refine XS.aloadN X0.here hexec rfl (hb hbytes d1) rfl rfl ?_
    refine iconstV X0.here hexec rfl 0 (hb hbytes d2) (by decide) ?_
    refine XS.aloadN X0.here hexec rfl (hb hbytes d3) rfl rfl ?_
    refine X0.alen hexec (hA.1.mv X0.warmed.alike hh0) rfl rfl (hb hbytes d4) ?_
    refine XS.aconstNull X0.here hexec rfl (hb hbytes d5) ?_
    exact Steps.refl _)
  obtain ⟨v3, T3, X3, E3, g3⟩ := X0.callN hexec (New4.law l a D fV fC b A z 0 A.slots.size) rfl hown (wks W (initW "java/lang/String" 27 New4.yN)) (W New4.tab (by simp only [site, List.mem_cons, List.mem_append, true_or, or_true])) (W := 0) (Nat.le_of_ble_eq_true rfl) (Nat.le_of_ble_eq_true rfl) (Nat.le_refl _) (by show 0 + A.slots.size ≤ A.slots.size; omega) (g := (mkF m 6 #[.val (.ref a), .val (.ref b)] [.null, .int (Int32.ofNat A.slots.size), .int (Int32.ofNat 0), .ref b, .ref a])) rfl (by rw [hml]; rfl) c2 (argsL := [.ref b, .int (Int32.ofNat 0), .int (Int32.ofNat A.slots.size), .null]) (rest := []) rfl rfl (by show 2 * 0 + 0 ≤ _; decide) (hb hbytes d6) (⟨rfl, hB.mv X0.warmed.alike hh0, f1.al X0.warmed.alike, f2.al X0.warmed.alike, hA.mv X0.warmed.alike hh0, s1.there X0.warmed.alike hh0, hz, l0, by omega, l2, fun i hi => by rw [Nat.zero_add]; exact hp i hi⟩)
  have e0 := Got.mv _ s₁ s _ _ hh0.symm (Vm.Alike.refl _) rfl E3
  obtain rfl := e0.1
  have c4 : Steps p.tables e below (s₁.setTop (entryFrame m #[.ref a, .ref b] 2)) (T3.setTop (mkF m 9 #[.val (.ref a), .val (.ref b)] [])) := g3
  exact ⟨T3, none, _, _, _, X3, by simp, rfl, by omega, (fun _ => rfl), e0, fun fs hl => c4.trans (X3.returnOut hexec hret (hb hbytes d9) hl)⟩
theorem pays {l : Launch} {R : Room} {p : Program} {e : Env} {below : List Frame} {s : State} {sargs : Array Value} {len W : Nat} (a : Addr) (D : Cell) (fV fC : Field) (b : Addr) (A : Cell) (z : Int32) (htab : tab.before sargs s = true) (hfr : 4 ≤ R.frames) (hlo : W + 65 ≤ R.locals) :
    Back l R p e below s sargs yN len W (fun A₁ a₁ => A₁.cells + 1 ≤ R.cells ∧ A₁.slots + A.slots.size ≤ R.slots ∧ P a D fV fC b A z a₁ A₁.U) (fun A₁ _ v₁ B₁ => E a D fV fC A v₁ A₁.U B₁.U ∧ B₁.locs = A₁.locs ++ [⟨a, fC.slot⟩, ⟨a, fV.slot⟩] ∧ B₁.cells = A₁.cells + 1 ∧ B₁.slots = A₁.slots + A.slots.size) :=
  (law l a D fV fC b A z).pays htab hfr (by omega)
end New1
/-- the byte, read back as charAt reads it, is the char -/
theorem lo8_mask {x : Int32} (h0 : ¬ x < 0) (h1 : ¬ 255 < x) : lo8 x &&& 255 = x := by
  have t : ∀ k : Fin 256, lo8 (Int32.ofNat k.val) &&& 255 = Int32.ofNat k.val := by decide +kernel
  rw [Int32.lt_iff_toInt_lt] at h0 h1
  have e0 : (0 : Int32).toInt = 0 := rfl
  have e1 : (255 : Int32).toInt = 255 := rfl
  obtain ⟨k, hk⟩ : ∃ k : Nat, x.toInt = k := ⟨x.toInt.toNat, by omega⟩
  have hx : x = Int32.ofNat k := Int32.toInt_inj.mp (by rw [hk, Int32.toInt_ofNat_small (by omega)])
  rw [hx]
  exact t ⟨k, by omega⟩
end StrChars
namespace StrChars.Road
open Jvm Sem ClassFile Op Lib Jvm.Stand Jvm.Free Jvm.Free.XT
open Jvm.Lib.Cold (StaticIs)
abbrev ST : String := "java/lang/String"
/-- every table word that New1's law asks, flat -/
abbrev words : List Jvm.Cond := [.code New1.yN New1.yB 2 none, .initialized ST, .methodLink ST 27 New4.yN, .instanceMethod New4.yN,
  .code New4.yN New4.yB 6 none, .fieldLink ST 38 ST "COMPACT_STRINGS" "Z", .laysFinal ST ST "value" "[B", .fieldLink ST 9 ST "value" "[B", .laysFinal ST ST "coder" "B", .fieldLink ST 15 ST "coder" "B",
  .methodLink ST 1 Lib.objectInit, .instanceMethod Lib.objectInit, .code Lib.objectInit ⟨#[0xb1]⟩ 1 none, .methodLink ST 177 Cmp3.yN, .static Cmp3.yN, .methodLink ST 47 CodL.yN, .static CodL.yN,
  .code Cmp3.yN Cmp3.yB 6 (some (.array .byte)), .initialized U16, .arrayClass .byte, .methodLink U16 115 Cmp5.yN, .static Cmp5.yN, .code Cmp5.yN Cmp5.yB 7 (some .int), .code CodL.yN CodL.yB 2 (some .byte)]
theorem tab_of {a : Array Value} {s : State} (h : ∀ w ∈ words, w.before a s = true) : New1.tab.before a s = true := by
  have h5 : Cmp5.tab.before a s = true := unparts (wk h (.code Cmp5.yN Cmp5.yB 7 (some .int))) (wks h (.initialized Cmp5.yN.cls :: Cmp5.site))
  have hc : CodL.tab.before a s = true := unparts (wk h (.code CodL.yN CodL.yB 2 (some .byte))) (wks h (.initialized CodL.yN.cls :: CodL.site))
  have q5 : ∀ w ∈ Cmp5.tab :: words, w.before a s = true := fun w hw => (List.mem_cons.mp hw).elim (fun e => e ▸ h5) (h w)
  have h3 : Cmp3.tab.before a s = true := unparts (wk q5 (.code Cmp3.yN Cmp3.yB 6 (some (.array .byte)))) (wks q5 (.initialized Cmp3.yN.cls :: Cmp3.site))
  have q3 : ∀ w ∈ Cmp3.tab :: CodL.tab :: words, w.before a s = true := fun w hw => (List.mem_cons.mp hw).elim (fun e => e ▸ h3) fun hw => (List.mem_cons.mp hw).elim (fun e => e ▸ hc) (h w)
  have h4 : New4.tab.before a s = true := unparts (wk q3 (.code New4.yN New4.yB 6 none)) (wks q3 (.initialized New4.yN.cls :: New4.site))
  have q4 : ∀ w ∈ New4.tab :: words, w.before a s = true := fun w hw => (List.mem_cons.mp hw).elim (fun e => e ▸ h4) (h w)
  exact unparts (wk q4 (.code New1.yN New1.yB 2 none)) (wks q4 (.initialized New1.yN.cls :: New1.site))
/-- the words ride from the start Z to the walk's own state -/
theorem moved {Z s : State} {a0 args : Array Value} (hZ : Z.Warmed39 s.vm) (hw : ∀ d ∈ words, d.before a0 Z = true) : ∀ d ∈ words, d.before args s = true := fun d hd => by
  have q := hw d hd
  have t : ∀ d ∈ words, d = .arrayClass .byte ∨ (d.onTables && d.keepsFace) = true := by decide +kernel
  rcases t d hd with rfl | t
  · exact RoadKit.mvA hZ q
  · exact RoadKit.mv hZ q t
/-- WHAT COMES BACK, over the tables of the start Z: h the heap at the call, h' behind it -/
def Q (Z : State) (x : Addr) (A : Cell) (h : Heap) (v : Option Value) (h' : Heap) (L : List Loc) : Prop := v = none ∧ (∀ y ∈ L, y.base = x) ∧ RoadKit.Keep h h' [x] ∧ h'.size = h.size + 1 ∧ RoadKit.Exa Z h' x ST ∧ RoadKit.Fld Z h' x ST "value" "[B" (.ref h.size) ∧ RoadKit.Fld Z h' x ST "coder" "B" (.int 0) ∧
  (∃ V : Cell, RoadKit.Arr Z h' h.size V .byte ∧ V.vm = .none ∧ Z.vm.findClass "[B" = some V.cls ∧ V.slots.size = A.slots.size ∧ ∀ j, j < A.slots.size → V.slots[j]? = some (.int (lo8 (cv A j)))) ∧
  ∀ (O n d : String) (w : Value), RoadKit.Fld Z h x O n d w → RoadKit.slotOf Z O n d ≠ RoadKit.slotOf Z ST "value" "[B" → RoadKit.slotOf Z O n d ≠ RoadKit.slotOf Z ST "coder" "B" → RoadKit.Fld Z h' x O n d w
/-- **new String(chars) AT A CALL, IN THE ROAD'S FORM**: for specialBack behind newO: x the fresh String, b the char[] with the cell A -/
theorem back {p : Program} {l : Launch} {e : Env} {R : Room} {s : State} {args : Array Value} {below : List Frame} {len W : Nat} {Z : State} {a0 : Array Value} {h : Heap} (hZ : Z.Warmed39 s.vm) (hw : ∀ d ∈ words, d.before a0 Z = true) {kI : Nat} (wi : (Jvm.Cond.instantiable ST kI).before a0 Z = true)
    {x b : Addr} {A : Cell} {z : Int32} {v0 c0 : Value} (E : RoadKit.Exa Z h x ST) (V : RoadKit.Fld Z h x ST "value" "[B" v0) (C : RoadKit.Fld Z h x ST "coder" "B" c0) (K : RoadKit.Arr Z h b A .char) (hty : Typed .char A) (S : RoadKit.Sta Z h ST "COMPACT_STRINGS" "Z" (.int z)) (hz : ¬ z = 0)
    (l0 : 0 < A.slots.size) (l2 : A.slots.size ≤ 536870912) (hp : ∀ i, i < A.slots.size → ¬ 255 < cv A i) (hfr : 4 ≤ R.frames) (hlo : W + 65 ≤ R.locals) :
    Back l R p e below s args New1.yN len W (fun P a => a = #[.ref x, .ref b] ∧ P.U.heap = h ∧ P.cells + 1 ≤ R.cells ∧ P.slots + A.slots.size ≤ R.slots)
      (fun P _ v B => ∃ L, Q Z x A h v B.U.heap L ∧ B.locs = P.locs ++ L ∧ B.cells = P.cells + 1 ∧ B.slots = P.slots + A.slots.size) := by
  intro m meth c P g ig mk a X hg hsize hdg hW hn hp'
  obtain ⟨rfl, rfl, r1, r2⟩ := hp'
  have al : Z.vm.Alike P.U.vm := hZ.alike.trans X.warmed.alike
  obtain ⟨D, cfV, kV, iV, fV, hD, gV, stV, knV, obV, asV, slV⟩ := id V
  obtain ⟨D', cfC, kC, iC, fC, hD', gC, stC, -, -, asC, slC⟩ := id C
  cases hD.symm.trans hD'
  obtain ⟨D2, kD, e1, e2, e3, e4, e5⟩ := id E
  cases hD.symm.trans e1
  obtain ⟨c2, k2, i1, i2, i3, -⟩ := Cond.instantiable_spec wi
  cases e2.symm.trans i1
  cases e3.symm.trans i2
  obtain ⟨kU, u1, u2⟩ := al.2.2 _ _ e3
  have hB : Blank ST x D P.U := ⟨hD, ⟨knV, fun q hq => by rw [hq] at obV; cases obV⟩, by rw [al.findClass]; exact e2, kU, u1, by rw [u2]; exact i3, by rw [u2]; exact e5 i3⟩
  have F1 : Found ST "value" "[B" fV P.U := ⟨SBG.found_only al ⟨cfV, kV, iV, gV⟩, stV⟩
  have F2 : Found ST "coder" "B" fC P.U := ⟨SBG.found_only al ⟨cfC, kC, iC, gC⟩, stC⟩
  have hA : Ch b A P.U := ⟨⟨K.1, State.isArrayOf_alike al K.2.1, K.2.2, by omega⟩, hty⟩
  have hS : StaticIs P.U ST "COMPACT_STRINGS" "Z" (.int z) := by
    obtain ⟨cfS, iS, kS, fS, st, cS, t1, t2, t3, t4, t5, t6, t7⟩ := S
    exact StaticIs.there (s := { Z with heap := P.U.heap }) ⟨cfS, iS, kS, fS, st, cS, t1, t2, t3, t4, t5, (fun q => by rw [q] at t6; cases t6), t7⟩ al rfl
  obtain ⟨v, B, X', ⟨⟨hv, E', V', q1, q2, q3, q4, q5, q6, q7, q8, q9, q10, q11⟩, hl, hc, hs⟩, st⟩ := New1.pays x D fV fC b A z (tab_of (moved hZ hw)) hfr hlo m meth c P g ig mk _ X hg hsize hdg hW hn ⟨r1, r2, rfl, hB, F1, F2, hA, hS, hz, l0, l2, hp⟩
  have al' : Z.vm.Alike B.U.vm := hZ.alike.trans X'.warmed.alike
  have hsz : E'.slots.size = D.slots.size := by
    obtain ⟨-, -, -, kB, w1, w2, w3⟩ := q1
    obtain ⟨kB', y1, y2⟩ := al'.2.2 _ _ e3
    rw [q2.2.1] at w1
    cases w1.symm.trans y1
    rw [w3, e5 i3, y2]
  refine ⟨v, B, X', ⟨_, ⟨hv, ?_, ⟨by omega, fun y cy hy hn' => q10 y cy (by simpa using hn') hy, fun y cy hy => ?_⟩, q11, ⟨E', _, q1.1, by rw [q2.2.1]; exact e2, by rw [q2.2.1]; exact e3, by rw [q2.1]; exact obV, fun _ => by rw [hsz]; exact e5 i3⟩,
    ⟨E', cfV, kV, iV, fV, q1.1, gV, stV, by rw [q2.1]; exact knV, by rw [q2.1]; exact obV, by rw [q2.2.1]; exact asV, q3⟩, ⟨E', cfC, kC, iC, fC, q1.1, gC, stC, by rw [q2.1]; exact knV, by rw [q2.1]; exact obV, by rw [q2.2.1]; exact asC, q4⟩,
    ⟨V', ⟨q5.1, State.isArrayOf_alike al'.symm q5.2.1, q5.2.2.1⟩, q6, by rw [← al'.findClass]; exact q7, q8, fun j hj => by have := q9 j hj; rwa [Nat.zero_add] at this⟩, fun O n d w F n1 n2 => ?_⟩, hl, hc, hs⟩, st⟩
  · intro y hy
    simp only [List.mem_cons, List.not_mem_nil, or_false] at hy
    rcases hy with rfl | rfl <;> rfl
  · by_cases q : y = x
    · subst q
      cases hD.symm.trans hy
      exact ⟨E', q1.1, q2.2.1, q2.1, hsz⟩
    · exact ⟨cy, q10 y cy q hy, rfl, rfl, rfl⟩
  · obtain ⟨D3, cf, k, i, f, g1, g2, g3, g4, g5, g6, g7⟩ := F
    cases hD.symm.trans g1
    simp only [RoadKit.slotOf, g2, gV, gC, Option.map_some, Option.getD_some] at n1 n2
    exact ⟨E', cf, k, i, f, q1.1, g2, g3, by rw [q2.1]; exact g4, by rw [q2.1]; exact g5, by rw [q2.2.1]; exact g6, by rw [q2.2.2 f.slot (by simp [n1, n2])]; exact g7⟩
end StrChars.Road
namespace StrChars.Road
open Jvm Sem ClassFile Op Lib Jvm.Stand Jvm.Free Jvm.Free.XT
/-- WHAT COMES BACK, the byte[] as a list of values -/
def QA (Z : State) (x : Addr) (zn : Int32) (cs : List Int32) (h : Heap) (v : Option Value) (h' : Heap) (L : List Loc) : Prop := v = none ∧ (∀ y ∈ L, y.base = x) ∧ RoadKit.Keep h h' [x] ∧ h'.size = h.size + 1 ∧ RoadKit.Exa Z h' x ST ∧ RoadKit.Fld Z h' x ST "value" "[B" (.ref h.size) ∧ RoadKit.Fld Z h' x ST "coder" "B" (.int 0) ∧
  (∃ kb, Z.vm.findClass "[B" = some kb ∧ RoadKit.Arv Z h' h.size kb .byte zn (cs.map fun c => .int (lo8 c)) (.int 0)) ∧
  ∀ (O n d : String) (w : Value), RoadKit.Fld Z h x O n d w → RoadKit.slotOf Z O n d ≠ RoadKit.slotOf Z ST "value" "[B" → RoadKit.slotOf Z O n d ≠ RoadKit.slotOf Z ST "coder" "B" → RoadKit.Fld Z h' x O n d w
/-- **new String(chars) AT A CALL, THE ARRAYS AS LISTS**: the char[] at b holds cs, not empty, no char above 255 -/
theorem backArv {p : Program} {l : Launch} {e : Env} {R : Room} {s : State} {args : Array Value} {below : List Frame} {len W : Nat} {Z : State} {a0 : Array Value} {h : Heap} (hZ : Z.Warmed39 s.vm) (hw : ∀ d ∈ words, d.before a0 Z = true) {kI : Nat} (wi : (Jvm.Cond.instantiable ST kI).before a0 Z = true)
    {x b : Addr} {k : ClassId} {zn z : Int32} {cs : List Int32} {dv v0 c0 : Value} (E : RoadKit.Exa Z h x ST) (V : RoadKit.Fld Z h x ST "value" "[B" v0) (C : RoadKit.Fld Z h x ST "coder" "B" c0) (K : RoadKit.Arv Z h b k .char zn (cs.map Value.int) dv) (S : RoadKit.Sta Z h ST "COMPACT_STRINGS" "Z" (.int z)) (hz : ¬ z = 0)
    (hlen : zn.toNatClampNeg = cs.length) (h0 : 0 < cs.length) (hbig : cs.length ≤ 536870912) (hall : ∀ c ∈ cs, ¬ 255 < c) (hfr : 4 ≤ R.frames) (hlo : W + 65 ≤ R.locals) :
    Back l R p e below s args New1.yN len W (fun P a => a = #[.ref x, .ref b] ∧ P.U.heap = h ∧ P.cells + 1 ≤ R.cells ∧ P.slots + cs.length ≤ R.slots)
      (fun P _ v B => ∃ L, QA Z x zn cs h v B.U.heap L ∧ B.locs = P.locs ++ L ∧ B.cells = P.cells + 1 ∧ B.slots = P.slots + cs.length) := by
  obtain ⟨A, K1, K2, K3, K4, K5, K6⟩ := K
  have e : A.slots.size = cs.length := K3.trans hlen
  have hat : ∀ (i : Nat) (hi : i < cs.length), A.slots[i]? = some (.int cs[i]) := fun i hi => by rw [K5 i (by omega)]; simp [List.getD_eq_getElem?_getD, hi]
  have hcv : ∀ (i : Nat) (hi : i < cs.length), cv A i = cs[i] := fun i hi => by unfold cv; rw [hat i hi]
  have hty : Typed .char A := fun i v hv => by
    have hi : i < A.slots.size := (Array.getElem?_eq_some_iff.mp hv).1
    have q := K5 i hi
    rw [hv] at q
    rw [Option.some.inj q]
    exact K6 i hi
  refine Back.mono (back hZ hw wi E V C K1 hty S hz (by omega) (by omega) (fun i hi => by rw [hcv i (by omega)]; exact hall _ (List.getElem_mem _)) hfr hlo) (fun P a hp => ⟨hp.1, hp.2.1, hp.2.2.1, by rw [e]; exact hp.2.2.2⟩) (fun P a v B hp hq => ?_)
  obtain ⟨L, ⟨q1, q2, q3, q4, q5, q6, q7, ⟨V', v1, v2, v3, v4, v5⟩, q9⟩, hl, hc, hs⟩ := hq
  refine ⟨L, ⟨q1, q2, q3, q4, q5, q6, q7, ⟨V'.cls, v3, V', v1, rfl, by rw [v4, e, hlen], K4, fun i hi => ?_, fun i hi => ?_⟩, q9⟩, hl, hc, by rw [hs, e]⟩
  · have hi' : i < cs.length := by omega
    rw [v5 i (by omega), hcv i hi']; simp [List.getD_eq_getElem?_getD, hi']
  · have hi' : i < cs.length := by omega
    simp only [List.getD_eq_getElem?_getD, List.getElem?_map, List.getElem?_eq_getElem hi', Option.map_some, Option.getD_some]
    exact fits_lo8 _
end StrChars.Road
namespace StrChars.Road
open Jvm Sem ClassFile Op Lib Jvm.Stand Jvm.Free Jvm.Free.XT
/-- WHAT COMES BACK, in the writer's own shape -/
def QV (Z : State) (x : Addr) (N : Int32) (bs : List Int32) (h : Heap) (n0 : Nat) (v : Option Value) (h' : Heap) (L : List Loc) : Prop := v = none ∧ RoadKit.Fr n0 L ∧ RoadKit.Keep h h' [x] ∧ RoadKit.Exa Z h' x ST ∧ RoadKit.Fld Z h' x ST "coder" "B" (.int 0) ∧
  ∃ (t : Addr) (kb : ClassId), n0 ≤ t ∧ h.size ≤ t ∧ ¬ t = x ∧ RoadKit.Fld Z h' x ST "value" "[B" (.ref t) ∧ RoadKit.Arv Z h' t kb .byte N (bs.map Value.int) (.int 0)
/-- **new String(chars) AT A CALL, FOR THE WRITER**: a char[] of n known ints, each 0 to 255 -/
theorem backV {p : Program} {l : Launch} {e : Env} {R : Room} {s : State} {args : Array Value} {below : List Frame} {len W : Nat} {Z : State} {a0 : Array Value} {h : Heap} (hZ : Z.Warmed39 s.vm) (hw : ∀ d ∈ words, d.before a0 Z = true) {kI : Nat} (wi : (Jvm.Cond.instantiable ST kI).before a0 Z = true)
    {x b : Addr} {kC : ClassId} {cs bs : List Int32} {d v0 c0 : Value} {z N : Int32} {n n0 : Nat} (hx0 : n0 ≤ x) (hh0 : n0 ≤ h.size) (E : RoadKit.Exa Z h x ST) (V : RoadKit.Fld Z h x ST "value" "[B" v0) (C : RoadKit.Fld Z h x ST "coder" "B" c0) (K : RoadKit.Arv Z h b kC .char N (cs.map Value.int) d) (S : RoadKit.Sta Z h ST "COMPACT_STRINGS" "Z" (.int z)) (hz : ¬ z = 0)
    (hn : cs.length = n) (hN : N = Int32.ofNat n) (l0 : 0 < n) (l2 : n ≤ 4000) (hp : ∀ c ∈ cs, ¬ c < 0 ∧ ¬ (255 : Int32) < c) (hb : bs = cs.map (fun c => c.toInt8.toInt32)) (hfr : 4 ≤ R.frames) (hlo : W + 65 ≤ R.locals) :
    Back l R p e below s args (⟨"java/lang/String", "<init>", "([C)V"⟩ : MethodName) len W (fun P a => a = #[.ref x, .ref b] ∧ P.U.heap = h ∧ P.cells + 1 ≤ R.cells ∧ P.slots + n ≤ R.slots)
      (fun P _ v B => ∃ L, QV Z x N bs h n0 v B.U.heap L ∧ B.locs = P.locs ++ L ∧ B.cells = P.cells + 1 ∧ B.slots = P.slots + n) := by
  subst hn hN hb
  refine Back.mono (backArv hZ hw wi E V C K S hz (n32 (by omega)) l0 (by omega) (fun c hc => (hp c hc).2) hfr hlo) (fun P a hp => hp) (fun P a v B hp hq => ?_)
  obtain ⟨L, ⟨q1, q2, q3, q4, q5, q6, q7, ⟨kb, v1, v2⟩, q9⟩, hl, hc, hs⟩ := hq
  exact ⟨L, ⟨q1, fun y hy => by rw [q2 y hy]; exact hx0, q3, q5, q7, h.size, kb, hh0, Nat.le_refl _, Nat.ne_of_gt E.lt, q6, by rw [List.map_map]; exact v2⟩, hl, hc, hs⟩
end StrChars.Road
namespace StrChars
open Jvm Sem ClassFile Op Lib Jvm.Stand Jvm.Free.XT Jvm.Free.ALB Jvm.Free.JM Jvm.Free
open Jvm.Lib.Cold (StaticIs)
def hi8 (x : Int32) : Int32 := lo8 (x >>> ((8 : Int32) &&& 31))
/-- what StringUTF16.getChar makes of two bytes -/
def pairCh (u v : Int32) : Int32 := (((u &&& 255) <<< ((0 : Int32) &&& 31)) ||| ((v &&& 255) <<< ((8 : Int32) &&& 31))).toUInt32.toUInt16.toUInt32.toInt32
theorem lo8_and (x : Int32) : (lo8 x &&& 255).toBitVec.toNat = x.toBitVec.toNat % 256 := by
  have h : (lo8 x).toBitVec = (x.toBitVec.signExtend 8).signExtend 32 := by rw [lo8, Int8.toBitVec_toInt32, Int32.toBitVec_toInt8]
  rw [Int32.toBitVec_and, BitVec.toNat_and, h]
  have e : ((x.toBitVec.signExtend 8).signExtend 32).toNat % 256 = x.toBitVec.toNat % 256 := by
    rw [BitVec.toNat_signExtend]
    have hlt := x.toBitVec.isLt
    simp only [BitVec.toNat_setWidth, BitVec.toNat_signExtend]
    split <;> split <;> omega
  rw [← e]
  exact Nat.and_two_pow_sub_one_eq_mod _ 8
theorem pair_says {c : Int32} (h0 : ¬ c < 0) (h1 : ¬ 65535 < c) : pairCh (lo8 c) (hi8 c) = c := by
  rw [Int32.lt_iff_toInt_lt] at h0 h1
  have e0 : (0 : Int32).toInt = 0 := rfl
  have e1 : (65535 : Int32).toInt = 65535 := rfl
  have hc : c.toInt = c.toBitVec.toNat := by
    have := c.toBitVec.isLt
    have e : c.toInt = c.toBitVec.toInt := rfl
    rw [e] at h0 h1
    rw [e]
    rw [BitVec.toInt_eq_toNat_cond] at h0 h1 ⊢
    split at h0 <;> split <;> omega
  have hn : c.toBitVec.toNat < 65536 := by omega
  have a1 := lo8_and c
  have a2 : (hi8 c &&& 255).toBitVec.toNat = c.toBitVec.toNat / 256 := by
    rw [hi8, lo8_and]
    have e : ((8 : Int32) &&& 31) = 8 := by decide
    rw [e, Int32.toBitVec_shiftRight]
    have e2 : ((8 : Int32).toBitVec.smod 32) = 8#32 := by decide
    rw [e2, BitVec.sshiftRight_eq', BitVec.toNat_sshiftRight_of_msb_false (by rw [BitVec.msb_eq_false_iff_two_mul_lt]; omega)]
    show c.toBitVec.toNat >>> 8 % 256 = _
    rw [Nat.shiftRight_eq_div_pow]
    omega
  unfold pairCh
  apply Int32.toBitVec_inj.mp
  apply BitVec.eq_of_toNat_eq
  have f0 : ((0 : Int32) &&& 31) = 0 := by decide
  have f8 : ((8 : Int32) &&& 31) = 8 := by decide
  rw [f0, f8]
  have g : (((lo8 c &&& 255) <<< (0 : Int32)) ||| ((hi8 c &&& 255) <<< (8 : Int32))).toBitVec.toNat = c.toBitVec.toNat := by
    rw [Int32.toBitVec_or, Int32.toBitVec_shiftLeft, Int32.toBitVec_shiftLeft]
    have s0 : ((0 : Int32).toBitVec.smod 32) = 0#32 := by decide
    have s8 : ((8 : Int32).toBitVec.smod 32) = 8#32 := by decide
    rw [s0, s8, BitVec.toNat_or]
    simp only [BitVec.shiftLeft_eq', BitVec.toNat_shiftLeft, a1, a2]
    show (c.toBitVec.toNat % 256) <<< 0 % 2 ^ 32 ||| (c.toBitVec.toNat / 256) <<< 8 % 2 ^ 32 = _
    rw [Nat.shiftLeft_zero, Nat.mod_eq_of_lt (show c.toBitVec.toNat % 256 < 2 ^ 32 by omega), Nat.mod_eq_of_lt (show (c.toBitVec.toNat / 256) <<< 8 < 2 ^ 32 by rw [Nat.shiftLeft_eq]; omega), Nat.or_comm, ← Nat.shiftLeft_add_eq_or_of_lt (by omega), Nat.shiftLeft_eq]
    omega
  show BitVec.toNat (((((lo8 c &&& 255) <<< (0 : Int32)) ||| ((hi8 c &&& 255) <<< (8 : Int32))).toBitVec.setWidth 16).setWidth 32) = _
  rw [BitVec.toNat_setWidth, BitVec.toNat_setWidth, g]
  omega
end StrChars
namespace StrChars
open Jvm Sem ClassFile Op Lib Jvm.Stand Jvm.Free.XT Jvm.Free.ALB Jvm.Free.JM Jvm.Free
open Jvm.Lib.Cold (StaticIs)
/-- the array's cell V codes the n chars f 0 .. f (n - 1) by the coder cd, as the JDK does: coder 1 just where some char is above 255 -/
def Cod (cd : Int32) (n : Nat) (f : Nat → Int32) (V : Cell) : Prop := (cd = 0 ∧ V.slots.size = n ∧ ∀ j, j < n → V.slots[j]? = some (.int (lo8 (f j))) ∧ ¬ 255 < f j) ∨ (cd = 1 ∧ V.slots.size = 2 * n ∧ (∀ j, j < n → V.slots[2 * j]? = some (.int (lo8 (f j))) ∧ V.slots[2 * j + 1]? = some (.int (hi8 (f j)))) ∧ ∃ j, j < n ∧ 255 < f j)
/-- **x is a String of the n chars f 0 .. f (n - 1)**, Latin-1 or UTF-16; its array at t has the cell V -/
def Txt (x t : Addr) (V : Cell) (cd : Int32) (n : Nat) (f : Nat → Int32) (U : State) : Prop := Exact "java/lang/String" x U ∧ Has x "java/lang/String" "value" "[B" (.ref t) U ∧ Has x "java/lang/String" "coder" "B" (.int cd) U ∧ XT.Arr .byte t V U ∧ Cod cd n f V ∧ ∀ j, j < n → ¬ f j < 0 ∧ ¬ 65535 < f j
theorem Txt.mv {x t : Addr} {V : Cell} {cd : Int32} {n : Nat} {f : Nat → Int32} {U U' : State} (h : Txt x t V cd n f U) (hal : U.vm.Alike U'.vm) (hh : U'.heap = U.heap) : Txt x t V cd n f U' := ⟨h.1.mv hal hh, h.2.1.mv hal hh, h.2.2.1.mv hal hh, h.2.2.2.1.mv hal hh, h.2.2.2.2⟩
end StrChars
namespace StrChars.Road
open Jvm Sem ClassFile Op Lib Jvm.Stand Jvm.Free Jvm.Free.XT
open Jvm.Lib.Cold (StaticIs)
theorem consq {a : Array Value} {s : State} {c : Jvm.Cond} {L : List Jvm.Cond} (h0 : c.before a s = true) (h : ∀ w ∈ L, w.before a s = true) : ∀ w ∈ c :: L, w.before a s = true := fun w hw => (List.mem_cons.mp hw).elim (fun e => e ▸ h0) (h w)
/-- the bytes of the chars cs, low before high -/
def wideBytes : List Int32 → List Value
  | [] => []
  | c :: cs => .int (lo8 c) :: .int (hi8 c) :: wideBytes cs
theorem wide_lo (d : Value) : ∀ (cs : List Int32) (j : Nat), j < cs.length → (wideBytes cs).getD (2 * j) d = .int (lo8 (cs.getD j 0))
  | [], j, h => absurd h (Nat.not_lt_zero j)
  | c :: cs, 0, _ => rfl
  | c :: cs, j + 1, h => by
    have q := wide_lo d cs j (by simpa using h)
    rw [show 2 * (j + 1) = 2 * j + 1 + 1 from by omega]
    simpa [wideBytes] using q
theorem wide_hi (d : Value) : ∀ (cs : List Int32) (j : Nat), j < cs.length → (wideBytes cs).getD (2 * j + 1) d = .int (hi8 (cs.getD j 0))
  | [], j, h => absurd h (Nat.not_lt_zero j)
  | c :: cs, 0, _ => rfl
  | c :: cs, j + 1, h => by
    have q := wide_hi d cs j (by simpa using h)
    rw [show 2 * (j + 1) + 1 = 2 * j + 1 + 1 + 1 from by omega]
    simpa [wideBytes] using q
theorem low_at (d : Value) (cs : List Int32) (j : Nat) (h : j < cs.length) : (cs.map fun c => Value.int (lo8 c)).getD j d = .int (lo8 (cs.getD j 0)) := by
  simp [List.getD_eq_getElem?_getD, h]
/-- an array of N2 bytes vs codes the chars cs by the coder cd -/
def CodA (cs : List Int32) (cd N2 : Int32) (vs : List Value) : Prop := (cd = 0 ∧ N2 = Int32.ofNat cs.length ∧ vs = (cs.map fun c => Value.int (lo8 c)) ∧ ∀ c ∈ cs, ¬ 255 < c) ∨ (cd = 1 ∧ N2 = Int32.ofNat (2 * cs.length) ∧ vs = wideBytes cs ∧ ∃ c ∈ cs, 255 < c)
theorem CodA.cod {cs : List Int32} {cd N2 : Int32} {vs : List Value} {V : Cell} (h : CodA cs cd N2 vs) (hn : 2 * cs.length < 2 ^ 31) (hs : V.slots.size = N2.toNatClampNeg) (hv : RoadKit.Has V vs (.int 0)) : Cod cd cs.length (fun j => cs.getD j 0) V := by
  rcases h with ⟨rfl, rfl, rfl, h⟩ | ⟨rfl, rfl, rfl, c, hc, hw⟩
  · rw [n32 (by omega)] at hs
    exact Or.inl ⟨rfl, hs, fun j hj => ⟨by rw [hv j (by omega), low_at _ _ _ hj], by
      have e : cs.getD j 0 = cs[j] := by simp [List.getD_eq_getElem?_getD, hj]
      show ¬ 255 < cs.getD j 0
      rw [e]; exact h _ (List.getElem_mem _)⟩⟩
  · rw [n32 (by omega)] at hs
    obtain ⟨j, hj, rfl⟩ := List.getElem_of_mem hc
    exact Or.inr ⟨rfl, hs, fun j hj => ⟨by rw [hv _ (by omega), wide_lo _ _ _ hj], by rw [hv _ (by omega), wide_hi _ _ _ hj]⟩, j, hj, by
      have e : cs.getD j 0 = cs[j] := by simp [List.getD_eq_getElem?_getD, hj]
      show 255 < cs.getD j 0
      rw [e]; exact hw⟩
/-- an object of exactly java/lang/String, its two fields found: as the laws ask it -/
theorem strObj {Z U : State} {a0 : Array Value} {kI : Nat} (wi : (Jvm.Cond.instantiable ST kI).before a0 Z = true) (al : Z.vm.Alike U.vm) {x : Addr} {v0 c0 : Value} (E : RoadKit.Exa Z U.heap x ST) (V : RoadKit.Fld Z U.heap x ST "value" "[B" v0) (C : RoadKit.Fld Z U.heap x ST "coder" "B" c0) :
    ∃ (D : Cell) (fV fC : Field), Blank ST x D U ∧ Found ST "value" "[B" fV U ∧ Found ST "coder" "B" fC U ∧ D.slots[fV.slot]? = some v0 ∧ D.slots[fC.slot]? = some c0 ∧ RoadKit.slotOf Z ST "value" "[B" = fV.slot ∧ RoadKit.slotOf Z ST "coder" "B" = fC.slot := by
  obtain ⟨D, cfV, kV, iV, fV, hD, gV, stV, knV, obV, asV, slV⟩ := V
  obtain ⟨D', cfC, kC, iC, fC, hD', gC, stC, -, -, asC, slC⟩ := C
  cases hD.symm.trans hD'
  obtain ⟨D2, kD, e1, e2, e3, e4, e5⟩ := E
  cases hD.symm.trans e1
  obtain ⟨c2, k2, i1, i2, i3, -⟩ := Cond.instantiable_spec wi
  cases e2.symm.trans i1
  cases e3.symm.trans i2
  obtain ⟨kU, u1, u2⟩ := al.2.2 _ _ e3
  exact ⟨D, fV, fC, ⟨hD, ⟨knV, fun q hq => by rw [hq] at obV; cases obV⟩, by rw [al.findClass]; exact e2, kU, u1, by rw [u2]; exact i3, by rw [u2]; exact e5 i3⟩, ⟨SBG.found_only al ⟨cfV, kV, iV, gV⟩, stV⟩, ⟨SBG.found_only al ⟨cfC, kC, iC, gC⟩, stC⟩, slV, slC, by simp [RoadKit.slotOf, gV], by simp [RoadKit.slotOf, gC]⟩
theorem sta_is {Z U : State} (al : Z.vm.Alike U.vm) {C n d : String} {v : Value} (S : RoadKit.Sta Z U.heap C n d v) : StaticIs U C n d v := by
  obtain ⟨cfS, iS, kS, fS, st, cS, t1, t2, t3, t4, t5, t6, t7⟩ := S
  exact StaticIs.there (s := { Z with heap := U.heap }) ⟨cfS, iS, kS, fS, st, cS, t1, t2, t3, t4, t5, (fun q => by rw [q] at t6; cases t6), t7⟩ al rfl
end StrChars.Road
namespace StrChars
open Jvm Sem ClassFile Op Lib Jvm.Stand Jvm.Free.XT Jvm.Free.ALB Jvm.Free.JM Jvm.Free
open Jvm.Lib.Cold (StaticIs)
/-- what place i of a byte[]'s cell holds -/
def yv (A : Cell) (i : Nat) : Int32 := match A.slots[i]? with | some (.int x) => x | _ => 0
theorem yv_get {a : Addr} {A : Cell} {U : State} (h : XT.Arr .byte a A U) (ht : Typed .byte A) {i : Nat} (hi : i < A.slots.size) : A.slots[i]? = some (.int (yv A i)) := by
  have e := Array.getElem?_eq_getElem hi
  have f := ht i _ e
  unfold yv; rw [e]
  generalize A.slots[i] = v at f
  cases v <;> simp [fits] at f ⊢
/-- the two arrays are equal, place for place -/
def EqC (A B : Cell) : Prop := A.slots.size = B.slots.size ∧ ∀ i, i < A.slots.size → yv A i = yv B i
/-- a boolean that says whether p -/
def Says01 (q : Prop) (r : Option Value) (s u : State) : Prop := ∃ v : Int32, r = some (.int v) ∧ u.heap = s.heap ∧ ((v = 1 ∧ q) ∨ (v = 0 ∧ ¬ q))
theorem Says01.mv {q : Prop} : ∀ r (U U' V V' : State), U'.heap = U.heap → V.vm.Alike V'.vm → V'.heap = V.heap → Says01 q r U V → Says01 q r U' V' :=
  fun r U U' V V' h1 _ h2 ⟨v, a, b, c⟩ => ⟨v, a, by rw [h1, h2]; exact b, c⟩
namespace LEq
def yN : MethodName := ⟨"java/lang/StringLatin1", "equals", "([B[B)Z"⟩
abbrev yB : ByteArray := jdk_43_method_13_code
theorem d0 : decode yB 0 = .ok (.aload_n 0, 1) := by decide +kernel
theorem d1 : decode yB 1 = .ok (.arraylength, 1) := by decide +kernel
theorem d2 : decode yB 2 = .ok (.aload_n 1, 1) := by decide +kernel
theorem d3 : decode yB 3 = .ok (.arraylength, 1) := by decide +kernel
theorem d4 : decode yB 4 = .ok (.if_icmp (.ne) 30, 3) := by decide +kernel
theorem d7 : decode yB 7 = .ok (.iconst 0, 1) := by decide +kernel
theorem d8 : decode yB 8 = .ok (.istore_n 2, 1) := by decide +kernel
theorem d9 : decode yB 9 = .ok (.iload_n 2, 1) := by decide +kernel
theorem d10 : decode yB 10 = .ok (.aload_n 0, 1) := by decide +kernel
theorem d11 : decode yB 11 = .ok (.arraylength, 1) := by decide +kernel
theorem d12 : decode yB 12 = .ok (.if_icmp (.ge) 20, 3) := by decide +kernel
theorem d15 : decode yB 15 = .ok (.aload_n 0, 1) := by decide +kernel
theorem d16 : decode yB 16 = .ok (.iload_n 2, 1) := by decide +kernel
theorem d17 : decode yB 17 = .ok (.baload, 1) := by decide +kernel
theorem d18 : decode yB 18 = .ok (.aload_n 1, 1) := by decide +kernel
theorem d19 : decode yB 19 = .ok (.iload_n 2, 1) := by decide +kernel
theorem d20 : decode yB 20 = .ok (.baload, 1) := by decide +kernel
theorem d21 : decode yB 21 = .ok (.if_icmp (.eq) 5, 3) := by decide +kernel
theorem d24 : decode yB 24 = .ok (.iconst 0, 1) := by decide +kernel
theorem d25 : decode yB 25 = .ok (.ireturn, 1) := by decide +kernel
theorem d26 : decode yB 26 = .ok (.iinc 2 1, 3) := by decide +kernel
theorem d29 : decode yB 29 = .ok (.goto (-20), 3) := by decide +kernel
theorem d32 : decode yB 32 = .ok (.iconst 1, 1) := by decide +kernel
theorem d33 : decode yB 33 = .ok (.ireturn, 1) := by decide +kernel
theorem d34 : decode yB 34 = .ok (.iconst 0, 1) := by decide +kernel
theorem d35 : decode yB 35 = .ok (.ireturn, 1) := by decide +kernel
def site : List Cond := []
def tab : Cond := tabOf yN yB 3 (some .boolean) site
def P (a : Addr) (A : Cell) (b : Addr) (B : Cell) (args : Array Value) (s : State) : Prop := args = #[.ref a, .ref b] ∧ XT.Arr .byte a A s ∧ Typed .byte A ∧ XT.Arr .byte b B s ∧ Typed .byte B
/-- whether two byte[] are equal, place for place -/
theorem law (l : Launch) (a : Addr) (A : Cell) (b : Addr) (B : Cell) : Law l yN 2 2 0 0 yB 3 (some .boolean) site (P a A b B) (Says01 (EqC A B)) [] 0 0 := by
  refine Law.of_walk (plainFor_of_name (by decide +kernel)) (by decide +kernel) (by decide +kernel) (by decide) (fun _ _ h => by rw [h.1]; rfl) (fun _ U U' hal hh h => ⟨h.1, h.2.1.mv hal hh, h.2.2.1, h.2.2.2.1.mv hal hh, h.2.2.2.2⟩) (fun r U U' V V' h1 hal h2 h => Says01.mv r U U' V V' h1 hal h2 h) ?_
  intro p e s m args below meth c s₁ X0 hexec hbytes hml hret hlk hnm hown hh0 W hP
  obtain ⟨rfl, hA, tA, hB, tB⟩ := hP
  have a31 := hA.2.2.2
  have b31 := hB.2.2.2
  have hA0 := hA.mv X0.warmed.alike hh0
  have hB0 := hB.mv X0.warmed.alike hh0
  have c1 : Steps p.tables e below (s₁.setTop (entryFrame m #[.ref a, .ref b] 3)) (s₁.setTop (mkF m 0 #[.val (.ref a), .val (.ref b), .unset] [])) := entry rfl
  have c2 : Steps p.tables e below (s₁.setTop (entryFrame m #[.ref a, .ref b] 3)) (s₁.setTop (mkF m 4 #[.val (.ref a), .val (.ref b), .unset] [.int (Int32.ofNat B.slots.size), .int (Int32.ofNat A.slots.size)])) := c1.trans (by
    refine XS.aloadN X0.here hexec rfl (hb hbytes d0) rfl rfl ?_
    refine X0.alen hexec hA0 rfl rfl (hb hbytes d1) ?_
    refine XS.aloadN X0.here hexec rfl (hb hbytes d2) rfl rfl ?_
    refine X0.alen hexec hB0 rfl rfl (hb hbytes d3) ?_
    exact Steps.refl _)
  by_cases hs : A.slots.size = B.slots.size
  · have c3 : Steps p.tables e below (s₁.setTop (entryFrame m #[.ref a, .ref b] 3)) (s₁.setTop (mkF m 9 #[.val (.ref a), .val (.ref b), .val (.int 0)] [])) := c2.trans (by
      refine XS.icmpNo X0.here hexec rfl (hb hbytes d4) rfl (ii_ne_f (by rw [hs])) ?_
      refine iconstV X0.here hexec rfl 0 (hb hbytes d7) (by decide) ?_
      refine XS.istoreN X0.here hexec rfl (hb hbytes d8) rfl rfl ?_
      exact Steps.refl _)
    have loop : ∀ (r i : Nat), i + r = A.slots.size → (∀ j, j < i → yv A j = yv B j) → Steps p.tables e below (s₁.setTop (entryFrame m #[.ref a, .ref b] 3)) (s₁.setTop (mkF m 9 #[.val (.ref a), .val (.ref b), .val (.int (Int32.ofNat i))] [])) → ∃ (pc : Nat) (Ls : Array Slot) (v : Int32), (pc = 25 ∨ pc = 33) ∧ ((v = 1 ∧ EqC A B) ∨ (v = 0 ∧ ¬ EqC A B)) ∧ Steps p.tables e below (s₁.setTop (entryFrame m #[.ref a, .ref b] 3)) (s₁.setTop (mkF m pc Ls [.int v])) := by
      intro r
      induction r with
      | zero =>
        intro i hi he cl
        exact ⟨33, _, 1, Or.inr rfl, Or.inl ⟨rfl, hs, fun j hj => he j (by omega)⟩, cl.trans (by
          refine XS.iloadN X0.here hexec rfl (hb hbytes d9) rfl ?_
          refine XS.aloadN X0.here hexec rfl (hb hbytes d10) rfl rfl ?_
          refine X0.alen hexec hA0 rfl rfl (hb hbytes d11) ?_
          refine XS.icmpYes X0.here hexec rfl (pc0 := 12) rfl (hb hbytes d12) rfl (ii_ge_t (nlt32 (by omega) (by omega))) (by decide) rfl ?_
          refine iconstV X0.here hexec rfl 1 (hb hbytes d32) (by decide) ?_
          exact Steps.refl _)⟩
      | succ r ih =>
        intro i hi he cl
        have c4 : Steps p.tables e below (s₁.setTop (entryFrame m #[.ref a, .ref b] 3)) (s₁.setTop (mkF m 21 #[.val (.ref a), .val (.ref b), .val (.int (Int32.ofNat i))] [.int (yv B i), .int (yv A i)])) := cl.trans (by
          refine XS.iloadN X0.here hexec rfl (hb hbytes d9) rfl ?_
          refine XS.aloadN X0.here hexec rfl (hb hbytes d10) rfl rfl ?_
          refine X0.alen hexec hA0 rfl rfl (hb hbytes d11) ?_
          refine XS.icmpNo X0.here hexec rfl (hb hbytes d12) rfl (ii_ge_f (lt32 (by omega) (by omega))) ?_
          refine XS.aloadN X0.here hexec rfl (hb hbytes d15) rfl rfl ?_
          refine XS.iloadN X0.here hexec rfl (hb hbytes d16) rfl ?_
          refine X0.aget hexec hA0 rfl (yv_get hA tA (i := i) (by omega)) rfl rfl (hb hbytes d17) ?_
          refine XS.aloadN X0.here hexec rfl (hb hbytes d18) rfl rfl ?_
          refine XS.iloadN X0.here hexec rfl (hb hbytes d19) rfl ?_
          refine X0.aget hexec hB0 rfl (yv_get hB tB (i := i) (by omega)) rfl rfl (hb hbytes d20) ?_
          exact Steps.refl _)
        by_cases hv : yv A i = yv B i
        · have c5 : Steps p.tables e below (s₁.setTop (entryFrame m #[.ref a, .ref b] 3)) (s₁.setTop (mkF m 9 #[.val (.ref a), .val (.ref b), .val (.int (Int32.ofNat i + 1))] [])) := c4.trans (by
            refine XS.icmpYes X0.here hexec rfl (pc0 := 21) rfl (hb hbytes d21) rfl (ii_eq_t hv) (by decide) rfl ?_
            refine iincV X0.here hexec rfl 1 (hb hbytes d26) (by decide) rfl rfl ?_
            refine XS.goto X0.here hexec rfl (pc0 := 29) rfl (hb hbytes d29) (by decide) rfl ?_
            exact Steps.refl _)
          rw [succ32] at c5
          exact ih (i + 1) (by omega) (fun j hj => by
            by_cases e : j = i
            · rw [e]; exact hv
            · exact he j (by omega)) c5
        · exact ⟨25, _, 0, Or.inl rfl, Or.inr ⟨rfl, fun q => hv (q.2 i (by omega))⟩, c4.trans (by
            refine XS.icmpNo X0.here hexec rfl (hb hbytes d21) rfl (ii_eq_f hv) ?_
            refine iconstV X0.here hexec rfl 0 (hb hbytes d24) (by decide) ?_
            exact Steps.refl _)⟩
    obtain ⟨pc, Ls, v, hpc, hv, cz⟩ := loop A.slots.size 0 (by omega) (fun j hj => absurd hj (Nat.not_lt_zero j)) c3
    have nv : narrow .boolean (.int v) = .int v := by rcases hv with ⟨rfl, -⟩ | ⟨rfl, -⟩ <;> rfl
    rcases hpc with rfl | rfl
    · exact ⟨s₁, some (.int v), _, _, _, X0, rfl, rfl, rfl, (fun h => by cases h), ⟨v, rfl, hh0, hv⟩, fun fs hl => cz.trans (X0.ireturnOut hexec hret nv (Or.inr (Or.inl rfl)) (hb hbytes d25) hl)⟩
    · exact ⟨s₁, some (.int v), _, _, _, X0, rfl, rfl, rfl, (fun h => by cases h), ⟨v, rfl, hh0, hv⟩, fun fs hl => cz.trans (X0.ireturnOut hexec hret nv (Or.inr (Or.inl rfl)) (hb hbytes d33) hl)⟩
  · have c3 : Steps p.tables e below (s₁.setTop (entryFrame m #[.ref a, .ref b] 3)) (s₁.setTop (mkF m 35 #[.val (.ref a), .val (.ref b), .unset] [.int 0])) := c2.trans (by
      refine XS.icmpYes X0.here hexec rfl (pc0 := 4) rfl (hb hbytes d4) rfl (ii_ne_t (ne32 a31 b31 hs)) (by decide) rfl ?_
      refine iconstV X0.here hexec rfl 0 (hb hbytes d34) (by decide) ?_
      exact Steps.refl _)
    exact ⟨s₁, some (.int 0), _, _, _, X0, rfl, rfl, rfl, (fun h => by cases h), ⟨0, rfl, hh0, Or.inr ⟨rfl, fun q => hs q.1⟩⟩, fun fs hl => c3.trans (X0.ireturnOut hexec hret rfl (Or.inr (Or.inl rfl)) (hb hbytes d35) hl)⟩
end LEq
theorem Cod.ty {cd : Int32} {n : Nat} {f : Nat → Int32} {V : Cell} (h : Cod cd n f V) : Typed .byte V := fun i v hv => by
  have hi : i < V.slots.size := (Array.getElem?_eq_some_iff.mp hv).1
  rcases h with ⟨-, k1, k2⟩ | ⟨-, k1, k2, -⟩
  · rw [(k2 i (by omega)).1] at hv; cases hv; exact fits_lo8 _
  · rcases Nat.mod_two_eq_zero_or_one i with e | e
    · obtain ⟨j, rfl⟩ : ∃ j, i = 2 * j := ⟨i / 2, by omega⟩
      rw [(k2 j (by omega)).1] at hv; cases hv; exact fits_lo8 _
    · obtain ⟨j, rfl⟩ : ∃ j, i = 2 * j + 1 := ⟨i / 2, by omega⟩
      rw [(k2 j (by omega)).2] at hv; cases hv; exact fits_lo8 _
/-- the same text -/
def SameT (n : Nat) (f : Nat → Int32) (k : Nat) (g : Nat → Int32) : Prop := n = k ∧ ∀ j, j < n → f j = g j
theorem lo8_inj {x y : Int32} (h0 : ¬ x < 0) (h1 : ¬ 255 < x) (k0 : ¬ y < 0) (k1 : ¬ 255 < y) (h : lo8 x = lo8 y) : x = y := by
  rw [← lo8_mask h0 h1, ← lo8_mask k0 k1, h]
/-- arrays coded by one coder are equal just where the texts are -/
theorem Cod.eqv {cd : Int32} {n k : Nat} {f g : Nat → Int32} {V V' : Cell} (h : Cod cd n f V) (h' : Cod cd k g V') (hf : ∀ j, j < n → ¬ f j < 0 ∧ ¬ 65535 < f j) (hg : ∀ j, j < k → ¬ g j < 0 ∧ ¬ 65535 < g j) : EqC V V' ↔ SameT n f k g := by
  have yvv : ∀ {W : Cell} {i : Nat} {x : Int32}, W.slots[i]? = some (.int x) → yv W i = x := fun q => by unfold yv; rw [q]
  rcases h with ⟨rfl, k1, k2⟩ | ⟨rfl, k1, k2, -⟩
  · rcases h' with ⟨-, m1, m2⟩ | ⟨e, -⟩
    · constructor
      · rintro ⟨e1, e2⟩
        refine ⟨by omega, fun j hj => ?_⟩
        have q := e2 j (by omega)
        rw [yvv (k2 j hj).1, yvv (m2 j (by omega)).1] at q
        exact lo8_inj (hf j hj).1 (k2 j hj).2 (hg j (by omega)).1 (m2 j (by omega)).2 q
      · rintro ⟨rfl, e2⟩
        refine ⟨by omega, fun j hj => ?_⟩
        rw [yvv (k2 j (by omega)).1, yvv (m2 j (by omega)).1, e2 j (by omega)]
    · exact absurd e (by decide)
  · rcases h' with ⟨e, -⟩ | ⟨-, m1, m2, -⟩
    · exact absurd e (by decide)
    · constructor
      · rintro ⟨e1, e2⟩
        refine ⟨by omega, fun j hj => ?_⟩
        have q1 := e2 (2 * j) (by omega)
        have q2 := e2 (2 * j + 1) (by omega)
        rw [yvv (k2 j hj).1, yvv (m2 j (by omega)).1] at q1
        rw [yvv (k2 j hj).2, yvv (m2 j (by omega)).2] at q2
        rw [← pair_says (hf j hj).1 (hf j hj).2, ← pair_says (hg j (by omega)).1 (hg j (by omega)).2, q1, q2]
      · rintro ⟨rfl, e2⟩
        refine ⟨by omega, fun i hi => ?_⟩
        rcases Nat.mod_two_eq_zero_or_one i with e | e
        · obtain ⟨j, rfl⟩ : ∃ j, i = 2 * j := ⟨i / 2, by omega⟩
          rw [yvv (k2 j (by omega)).1, yvv (m2 j (by omega)).1, e2 j (by omega)]
        · obtain ⟨j, rfl⟩ : ∃ j, i = 2 * j + 1 := ⟨i / 2, by omega⟩
          rw [yvv (k2 j (by omega)).2, yvv (m2 j (by omega)).2, e2 j (by omega)]
/-- two codings differ: so do the texts -/
theorem Cod.dif {cd cd' : Int32} {n k : Nat} {f g : Nat → Int32} {V V' : Cell} (h : Cod cd n f V) (h' : Cod cd' k g V') (hne : ¬ cd = cd') : ¬ SameT n f k g := by
  rintro ⟨rfl, e⟩
  rcases h with ⟨rfl, -, k2⟩ | ⟨rfl, -, -, j, hj, hw⟩
  · rcases h' with ⟨rfl, -⟩ | ⟨-, -, -, j, hj, hw⟩
    · exact hne rfl
    · exact (k2 j hj).2 (by rw [e j hj]; exact hw)
  · rcases h' with ⟨-, -, m2⟩ | ⟨rfl, -⟩
    · exact (m2 j hj).2 (by rw [← e j hj]; exact hw)
    · exact hne rfl
/-- an object of exactly C is an instance of C -/
theorem cinst {p : Program} {l : Launch} {e : Env} {R : Room} {s : State} {m : MethodId} {args : Array Value} {below : List Frame} {meth : Method} {c : Code} {T : State} {locs : List Loc} {cells slots : Nat} (X : Stand p l e R s m args below meth c T locs cells slots) (hexec : p.tables.exec = Jvm.exec) {own C : String} {index : Nat} (hown : s.vm.findClass own = some m.cls) (hlink : (Cond.classLink own index C).before args s = true) {a : Addr} (hE : Exact C a T)
    {g : JFrame} (hg : g.method = m) {rest : List Value} (hstack : g.stack = .ref a :: rest) (hdg : decode c.code g.pc = .ok (.instanceof index, 3)) :
    ∃ T', Stand p l e R s m args below meth c T' locs cells slots ∧ T'.heap = T.heap ∧ ∀ target, Steps p.tables e below (T'.setTop { g with pc := g.pc + 3, stack := .int 1 :: rest }) target → Steps p.tables e below (T.setTop g) target := by
  obtain ⟨cB, h1, D, h2, h3, h4⟩ := hE
  have h1' : s.vm.findClass C = some cB := by rw [← X.warmed.alike.findClass]; exact h1
  obtain ⟨vm', X', st⟩ := X.instanceofYes hexec hown hlink h2 h4 h1' (by rw [h3]; exact Jvm.Free.SB.assignable_self _ _) hg hstack hdg
  exact ⟨_, X', rfl, st⟩
theorem cself {p : Program} {l : Launch} {e : Env} {R : Room} {s : State} {m : MethodId} {args : Array Value} {below : List Frame} {meth : Method} {c : Code} {T : State} {locs : List Loc} {cells slots : Nat} (X : Stand p l e R s m args below meth c T locs cells slots) (hexec : p.tables.exec = Jvm.exec) {own C : String} {index : Nat} (hown : s.vm.findClass own = some m.cls) (hlink : (Cond.classLink own index C).before args s = true) {a : Addr} (hE : Exact C a T)
    {g : JFrame} (hg : g.method = m) {rest : List Value} (hstack : g.stack = .ref a :: rest) (hdg : decode c.code g.pc = .ok (.checkcast index, 3)) :
    ∃ T', Stand p l e R s m args below meth c T' locs cells slots ∧ T'.heap = T.heap ∧ ∀ target, Steps p.tables e below (T'.setTop { g with pc := g.pc + 3, stack := .ref a :: rest }) target → Steps p.tables e below (T.setTop g) target := by
  obtain ⟨cB, h1, D, h2, h3, h4⟩ := hE
  have h1' : s.vm.findClass C = some cB := by rw [← X.warmed.alike.findClass]; exact h1
  obtain ⟨vm', X', st⟩ := X.checkcastYes hexec hown hlink h2 h4 h1' (by rw [h3]; exact Jvm.Free.SB.assignable_self _ _) hg hstack hdg
  exact ⟨_, X', rfl, fun t h => st t (by rw [← hstack] at h; exact h)⟩
namespace SEq
def yN : MethodName := ⟨"java/lang/String", "equals", "(Ljava/lang/Object;)Z"⟩
abbrev yB : ByteArray := jdk_42_method_66_code
theorem d0 : decode yB 0 = .ok (.aload_n 0, 1) := by decide +kernel
theorem d1 : decode yB 1 = .ok (.aload_n 1, 1) := by decide +kernel
theorem d2 : decode yB 2 = .ok (.if_acmp (.ne) 5, 3) := by decide +kernel
theorem d5 : decode yB 5 = .ok (.iconst 1, 1) := by decide +kernel
theorem d6 : decode yB 6 = .ok (.ireturn, 1) := by decide +kernel
theorem d7 : decode yB 7 = .ok (.aload_n 1, 1) := by decide +kernel
theorem d8 : decode yB 8 = .ok (.instanceof 10, 3) := by decide +kernel
theorem d11 : decode yB 11 = .ok (.ifCond (.eq) 43, 3) := by decide +kernel
theorem d14 : decode yB 14 = .ok (.aload_n 1, 1) := by decide +kernel
theorem d15 : decode yB 15 = .ok (.checkcast 10, 3) := by decide +kernel
theorem d18 : decode yB 18 = .ok (.astore_n 2, 1) := by decide +kernel
theorem d19 : decode yB 19 = .ok (.getstatic 38, 3) := by decide +kernel
theorem d22 : decode yB 22 = .ok (.ifCond (.eq) 14, 3) := by decide +kernel
theorem d25 : decode yB 25 = .ok (.aload_n 0, 1) := by decide +kernel
theorem d26 : decode yB 26 = .ok (.getfield 15, 3) := by decide +kernel
theorem d29 : decode yB 29 = .ok (.aload_n 2, 1) := by decide +kernel
theorem d30 : decode yB 30 = .ok (.getfield 15, 3) := by decide +kernel
theorem d33 : decode yB 33 = .ok (.if_icmp (.ne) 21, 3) := by decide +kernel
theorem d36 : decode yB 36 = .ok (.aload_n 0, 1) := by decide +kernel
theorem d37 : decode yB 37 = .ok (.getfield 9, 3) := by decide +kernel
theorem d40 : decode yB 40 = .ok (.aload_n 2, 1) := by decide +kernel
theorem d41 : decode yB 41 = .ok (.getfield 9, 3) := by decide +kernel
theorem d44 : decode yB 44 = .ok (.invokestatic 541, 3) := by decide +kernel
theorem d47 : decode yB 47 = .ok (.ifCond (.eq) 7, 3) := by decide +kernel
theorem d50 : decode yB 50 = .ok (.iconst 1, 1) := by decide +kernel
theorem d51 : decode yB 51 = .ok (.goto 4, 3) := by decide +kernel
theorem d54 : decode yB 54 = .ok (.iconst 0, 1) := by decide +kernel
theorem d55 : decode yB 55 = .ok (.ireturn, 1) := by decide +kernel
def site : List Cond := [.classLink "java/lang/String" 10 "java/lang/String", .fieldLink "java/lang/String" 38 "java/lang/String" "COMPACT_STRINGS" "Z", .fieldLink "java/lang/String" 15 "java/lang/String" "coder" "B", .fieldLink "java/lang/String" 9 "java/lang/String" "value" "[B", LEq.tab] ++ staticW "java/lang/String" 541 LEq.yN
def tab : Cond := tabOf yN yB 3 (some .boolean) site
def P (x t : Addr) (V : Cell) (cd : Int32) (n : Nat) (f : Nat → Int32) (y t' : Addr) (V' : Cell) (cd' : Int32) (k : Nat) (g : Nat → Int32) (z : Int32) (args : Array Value) (s : State) : Prop := args = #[.ref x, .ref y] ∧ Txt x t V cd n f s ∧ Txt y t' V' cd' k g s ∧ StaticIs s "java/lang/String" "COMPACT_STRINGS" "Z" (.int z) ∧ ¬ z = 0
/-- equals(Object) of two Strings: whether the texts are the same -/
theorem law (l : Launch) (x t : Addr) (V : Cell) (cd : Int32) (n : Nat) (f : Nat → Int32) (y t' : Addr) (V' : Cell) (cd' : Int32) (k : Nat) (g : Nat → Int32) (z : Int32) : Law l yN 2 1 1 14 yB 3 (some .boolean) site (P x t V cd n f y t' V' cd' k g z) (Says01 (SameT n f k g)) [] 0 0 := by
  refine Law.of_walk (plainFor_of_name (by decide +kernel)) (by decide +kernel) (by decide +kernel) (by decide) (fun _ _ h => by rw [h.1]; rfl) (fun _ U U' hal hh h => ⟨h.1, h.2.1.mv hal hh, h.2.2.1.mv hal hh, h.2.2.2.1.there hal hh, h.2.2.2.2⟩) (fun r U U' V V' h1 hal h2 h => Says01.mv r U U' V V' h1 hal h2 h) ?_
  intro p e s m args below meth c s₁ X0 hexec hbytes hml hret hlk hnm hown hh0 W hP
  obtain ⟨rfl, hx, hy, s1, hz⟩ := hP
  have c1 : Steps p.tables e below (s₁.setTop (entryFrame m #[.ref x, .ref y] 3)) (s₁.setTop (mkF m 2 #[.val (.ref x), .val (.ref y), .unset] [.ref y, .ref x])) := Steps.trans (entry rfl) (by
    show Steps p.tables e below (s₁.setTop (mkF m 0 #[.val (.ref x), .val (.ref y), .unset] [])) _
    refine XS.aloadN X0.here hexec rfl (hb hbytes d0) rfl rfl ?_
    refine XS.aloadN X0.here hexec rfl (hb hbytes d1) rfl rfl ?_
    exact Steps.refl _)
  by_cases hxy : x = y
  · have c2 : Steps p.tables e below (s₁.setTop (entryFrame m #[.ref x, .ref y] 3)) (s₁.setTop (mkF m 6 #[.val (.ref x), .val (.ref y), .unset] [.int 1])) := c1.trans (by
      refine acmpNo X0.here hexec rfl (hb hbytes d2) rfl rfl rfl (by simp [acmp, hxy]) ?_
      refine iconstV X0.here hexec rfl 1 (hb hbytes d5) (by decide) ?_
      exact Steps.refl _)
    subst hxy
    have ec : cd = cd' := by
      obtain ⟨D, fd, a1, a2, a3⟩ := hx.2.2.1
      obtain ⟨D', fd', b1, b2, b3⟩ := hy.2.2.1
      cases a1.symm.trans b1
      obtain ⟨q1, q2, q3, q4⟩ := a2.1
      obtain ⟨r1, r2, r3, r4⟩ := b2.1
      cases q4.symm.trans r4
      cases a3.symm.trans b3; rfl
    have et : t = t' := by
      obtain ⟨D, fd, a1, a2, a3⟩ := hx.2.1
      obtain ⟨D', fd', b1, b2, b3⟩ := hy.2.1
      cases a1.symm.trans b1
      obtain ⟨q1, q2, q3, q4⟩ := a2.1
      obtain ⟨r1, r2, r3, r4⟩ := b2.1
      cases q4.symm.trans r4
      cases a3.symm.trans b3; rfl
    subst ec et
    have ev : V = V' := by cases hx.2.2.2.1.1.symm.trans hy.2.2.2.1.1; rfl
    subst ev
    have hs : SameT n f k g := (Cod.eqv hx.2.2.2.2.1 hy.2.2.2.2.1 hx.2.2.2.2.2 hy.2.2.2.2.2).mp ⟨rfl, fun _ _ => rfl⟩
    exact ⟨s₁, some (.int 1), _, _, _, X0, rfl, rfl, rfl, (fun h => by cases h), ⟨1, rfl, hh0, Or.inl ⟨rfl, hs⟩⟩, fun fs hl => c2.trans (X0.ireturnOut hexec hret rfl (Or.inr (Or.inl rfl)) (hb hbytes d6) hl)⟩
  · have c2 : Steps p.tables e below (s₁.setTop (entryFrame m #[.ref x, .ref y] 3)) (s₁.setTop (mkF m 8 #[.val (.ref x), .val (.ref y), .unset] [.ref y])) := c1.trans (by
      refine acmpYes X0.here hexec rfl (pc0 := 2) rfl (hb hbytes d2) rfl rfl rfl (by simp [acmp, hxy]) (by decide) rfl ?_
      refine XS.aloadN X0.here hexec rfl (hb hbytes d7) rfl rfl ?_
      exact Steps.refl _)
    obtain ⟨T3, X3, q3, st3⟩ := cinst X0 hexec hown (wk W (.classLink "java/lang/String" 10 "java/lang/String")) (hy.mv X0.warmed.alike hh0).1 (g := (mkF m 8 #[.val (.ref x), .val (.ref y), .unset] [.ref y])) rfl (rest := []) rfl (hb hbytes d8)
    have hh3 := q3.trans hh0
    have c4 : Steps p.tables e below (s₁.setTop (entryFrame m #[.ref x, .ref y] 3)) (T3.setTop (mkF m 15 #[.val (.ref x), .val (.ref y), .unset] [.ref y])) := (c2.trans (st3 _ (Steps.refl _))).trans (by
      refine XS.ifNo X3.here hexec rfl (hb hbytes d11) rfl (i0_eq_f (by decide)) ?_
      refine XS.aloadN X3.here hexec rfl (hb hbytes d14) rfl rfl ?_
      exact Steps.refl _)
    obtain ⟨T5, X5, q5, st5⟩ := cself X3 hexec hown (wk W (.classLink "java/lang/String" 10 "java/lang/String")) (hy.mv X3.warmed.alike hh3).1 (g := (mkF m 15 #[.val (.ref x), .val (.ref y), .unset] [.ref y])) rfl (rest := []) rfl (hb hbytes d15)
    have hh5 := q5.trans hh3
    have c6 : Steps p.tables e below (s₁.setTop (entryFrame m #[.ref x, .ref y] 3)) (T5.setTop (mkF m 19 #[.val (.ref x), .val (.ref y), .val (.ref y)] [])) := (c4.trans (st5 _ (Steps.refl _))).trans (by
      refine XS.astoreN X5.here hexec rfl (hb hbytes d18) rfl rfl rfl ?_
      exact Steps.refl _)
    obtain ⟨T7, X7, q7, st7⟩ := X5.sget hexec hown (wk W (.fieldLink "java/lang/String" 38 "java/lang/String" "COMPACT_STRINGS" "Z")) s1 (fun _ _ h => by rw [hh5]; exact h) (g := (mkF m 19 #[.val (.ref x), .val (.ref y), .val (.ref y)] [])) rfl (hb hbytes d19)
    have hh7 := q7.trans hh5
    have c8 : Steps p.tables e below (s₁.setTop (entryFrame m #[.ref x, .ref y] 3)) (T7.setTop (mkF m 26 #[.val (.ref x), .val (.ref y), .val (.ref y)] [.ref x])) := (c6.trans (st7 _ (Steps.refl _))).trans (by
      refine XS.ifNo X7.here hexec rfl (hb hbytes d22) rfl (i0_eq_f hz) ?_
      refine XS.aloadN X7.here hexec rfl (hb hbytes d25) rfl rfl ?_
      exact Steps.refl _)
    obtain ⟨T9, X9, q9, st9⟩ := X7.hget hexec hown (wk W (.fieldLink "java/lang/String" 15 "java/lang/String" "coder" "B")) (hx.mv X7.warmed.alike hh7).2.2.1 (g := (mkF m 26 #[.val (.ref x), .val (.ref y), .val (.ref y)] [.ref x])) rfl (rest := []) rfl (hb hbytes d26)
    have hh9 := q9.trans hh7
    have c10 : Steps p.tables e below (s₁.setTop (entryFrame m #[.ref x, .ref y] 3)) (T9.setTop (mkF m 30 #[.val (.ref x), .val (.ref y), .val (.ref y)] [.ref y, .int cd])) := (c8.trans (st9 _ (Steps.refl _))).trans (by
      refine XS.aloadN X9.here hexec rfl (hb hbytes d29) rfl rfl ?_
      exact Steps.refl _)
    obtain ⟨T11, X11, q11, st11⟩ := X9.hget hexec hown (wk W (.fieldLink "java/lang/String" 15 "java/lang/String" "coder" "B")) (hy.mv X9.warmed.alike hh9).2.2.1 (g := (mkF m 30 #[.val (.ref x), .val (.ref y), .val (.ref y)] [.ref y, .int cd])) rfl (rest := [.int cd]) rfl (hb hbytes d30)
    have hh11 := q11.trans hh9
    have c12 : Steps p.tables e below (s₁.setTop (entryFrame m #[.ref x, .ref y] 3)) (T11.setTop (mkF m 33 #[.val (.ref x), .val (.ref y), .val (.ref y)] [.int cd', .int cd])) := c10.trans (st11 _ (Steps.refl _))
    by_cases hcd : cd = cd'
    · subst hcd
      have c13 : Steps p.tables e below (s₁.setTop (entryFrame m #[.ref x, .ref y] 3)) (T11.setTop (mkF m 37 #[.val (.ref x), .val (.ref y), .val (.ref y)] [.ref x])) := c12.trans (by
        refine XS.icmpNo X11.here hexec rfl (hb hbytes d33) rfl (ii_ne_f rfl) ?_
        refine XS.aloadN X11.here hexec rfl (hb hbytes d36) rfl rfl ?_
        exact Steps.refl _)
      obtain ⟨T14, X14, q14, st14⟩ := X11.hget hexec hown (wk W (.fieldLink "java/lang/String" 9 "java/lang/String" "value" "[B")) (hx.mv X11.warmed.alike hh11).2.1 (g := (mkF m 37 #[.val (.ref x), .val (.ref y), .val (.ref y)] [.ref x])) rfl (rest := []) rfl (hb hbytes d37)
      have hh14 := q14.trans hh11
      have c15 : Steps p.tables e below (s₁.setTop (entryFrame m #[.ref x, .ref y] 3)) (T14.setTop (mkF m 41 #[.val (.ref x), .val (.ref y), .val (.ref y)] [.ref y, .ref t])) := (c13.trans (st14 _ (Steps.refl _))).trans (by
        refine XS.aloadN X14.here hexec rfl (hb hbytes d40) rfl rfl ?_
        exact Steps.refl _)
      obtain ⟨T16, X16, q16, st16⟩ := X14.hget hexec hown (wk W (.fieldLink "java/lang/String" 9 "java/lang/String" "value" "[B")) (hy.mv X14.warmed.alike hh14).2.1 (g := (mkF m 41 #[.val (.ref x), .val (.ref y), .val (.ref y)] [.ref y, .ref t])) rfl (rest := [.ref t]) rfl (hb hbytes d41)
      have hh16 := q16.trans hh14
      have c17 : Steps p.tables e below (s₁.setTop (entryFrame m #[.ref x, .ref y] 3)) (T16.setTop (mkF m 44 #[.val (.ref x), .val (.ref y), .val (.ref y)] [.ref t', .ref t])) := c15.trans (st16 _ (Steps.refl _))
      obtain ⟨v18, T18, X18, E18, g18⟩ := X16.callS hexec (LEq.law l t V t' V') hown (wks W (staticW "java/lang/String" 541 LEq.yN)) (wk W LEq.tab) (W := 0) (Nat.le_of_ble_eq_true rfl) (Nat.le_of_ble_eq_true rfl) (Nat.le_refl _) (Nat.le_refl _) (g := (mkF m 44 #[.val (.ref x), .val (.ref y), .val (.ref y)] [.ref t', .ref t])) rfl (by rw [hml]; rfl) c17 (argsL := [.ref t, .ref t']) (rest := []) rfl rfl (by show 2 * 0 + 0 ≤ _; decide) (hb hbytes d44) (⟨rfl, hx.2.2.2.1.mv X16.warmed.alike hh16, hx.2.2.2.2.1.ty, hy.2.2.2.1.mv X16.warmed.alike hh16, hy.2.2.2.2.1.ty⟩)
      obtain ⟨v, rfl, q18, hv⟩ := E18
      have iff := Cod.eqv hx.2.2.2.2.1 hy.2.2.2.2.1 hx.2.2.2.2.2 hy.2.2.2.2.2
      rcases hv with ⟨rfl, he⟩ | ⟨rfl, he⟩
      · have c19 : Steps p.tables e below (s₁.setTop (entryFrame m #[.ref x, .ref y] 3)) (T18.setTop (mkF m 55 #[.val (.ref x), .val (.ref y), .val (.ref y)] [.int 1])) := Steps.trans g18 (by
          refine XS.ifNo X18.here hexec rfl (hb hbytes d47) rfl (i0_eq_f (by decide)) ?_
          refine iconstV X18.here hexec rfl 1 (hb hbytes d50) (by decide) ?_
          refine XS.goto X18.here hexec rfl (pc0 := 51) rfl (hb hbytes d51) (by decide) rfl ?_
          exact Steps.refl _)
        exact ⟨T18, some (.int 1), _, _, _, X18, rfl, rfl, rfl, (fun h => by cases h), ⟨1, rfl, q18.trans hh16, Or.inl ⟨rfl, iff.mp he⟩⟩, fun fs hl => c19.trans (X18.ireturnOut hexec hret rfl (Or.inr (Or.inl rfl)) (hb hbytes d55) hl)⟩
      · have c19 : Steps p.tables e below (s₁.setTop (entryFrame m #[.ref x, .ref y] 3)) (T18.setTop (mkF m 55 #[.val (.ref x), .val (.ref y), .val (.ref y)] [.int 0])) := Steps.trans g18 (by
          refine XS.ifYes X18.here hexec rfl (pc0 := 47) rfl (hb hbytes d47) rfl (i0_eq_t rfl) (by decide) rfl ?_
          refine iconstV X18.here hexec rfl 0 (hb hbytes d54) (by decide) ?_
          exact Steps.refl _)
        exact ⟨T18, some (.int 0), _, _, _, X18, rfl, rfl, rfl, (fun h => by cases h), ⟨0, rfl, q18.trans hh16, Or.inr ⟨rfl, fun q => he (iff.mpr q)⟩⟩, fun fs hl => c19.trans (X18.ireturnOut hexec hret rfl (Or.inr (Or.inl rfl)) (hb hbytes d55) hl)⟩
    · have c13 : Steps p.tables e below (s₁.setTop (entryFrame m #[.ref x, .ref y] 3)) (T11.setTop (mkF m 55 #[.val (.ref x), .val (.ref y), .val (.ref y)] [.int 0])) := c12.trans (by
        refine XS.icmpYes X11.here hexec rfl (pc0 := 33) rfl (hb hbytes d33) rfl (ii_ne_t hcd) (by decide) rfl ?_
        refine iconstV X11.here hexec rfl 0 (hb hbytes d54) (by decide) ?_
        exact Steps.refl _)
      exact ⟨T11, some (.int 0), _, _, _, X11, rfl, rfl, rfl, (fun h => by cases h), ⟨0, rfl, hh11, Or.inr ⟨rfl, Cod.dif hx.2.2.2.2.1 hy.2.2.2.2.1 hcd⟩⟩, fun fs hl => c13.trans (X11.ireturnOut hexec hret rfl (Or.inr (Or.inl rfl)) (hb hbytes d55) hl)⟩
theorem pays {l : Launch} {R : Room} {p : Program} {e : Env} {below : List Frame} {s : State} {sargs : Array Value} {len W : Nat} (x t : Addr) (V : Cell) (cd : Int32) (n : Nat) (f : Nat → Int32) (y t' : Addr) (V' : Cell) (cd' : Int32) (k : Nat) (g : Nat → Int32) (z : Int32) (htab : tab.before sargs s = true) (hfr : 2 ≤ R.frames) (hlo : W + 28 ≤ R.locals) :
    Back l R p e below s sargs yN len W (fun A₁ a₁ => A₁.cells + 0 ≤ R.cells ∧ A₁.slots + 0 ≤ R.slots ∧ P x t V cd n f y t' V' cd' k g z a₁ A₁.U) (fun A₁ _ v₁ B₁ => Says01 (SameT n f k g) v₁ A₁.U B₁.U ∧ B₁.locs = A₁.locs ++ [] ∧ B₁.cells = A₁.cells + 0 ∧ B₁.slots = A₁.slots + 0) :=
  (law l x t V cd n f y t' V' cd' k g z).pays htab hfr (by omega)
end SEq
end StrChars
namespace StrChars.Road
open Jvm Sem ClassFile Op Lib Jvm.Stand Jvm.Free Jvm.Free.XT
open Jvm.Lib.Cold (StaticIs)
/-- the words of String.equals(Object) -/
abbrev wordsEq : List Jvm.Cond := [.code SEq.yN SEq.yB 3 (some .boolean), .initialized ST, .classLink ST 10 ST, .fieldLink ST 38 ST "COMPACT_STRINGS" "Z", .fieldLink ST 15 ST "coder" "B", .fieldLink ST 9 ST "value" "[B", .methodLink ST 541 LEq.yN, .static LEq.yN, .code LEq.yN LEq.yB 3 (some .boolean), .initialized "java/lang/StringLatin1"]
theorem tabEq_of {a : Array Value} {s : State} (h : ∀ w ∈ wordsEq, w.before a s = true) : SEq.tab.before a s = true := by
  have hl : LEq.tab.before a s = true := unparts (wk h (.code LEq.yN LEq.yB 3 (some .boolean))) (wks h (.initialized LEq.yN.cls :: LEq.site))
  have q := consq hl h
  exact unparts (wk q (.code SEq.yN SEq.yB 3 (some .boolean))) (wks q (.initialized SEq.yN.cls :: SEq.site))
theorem movedEq {Z s : State} {a0 args : Array Value} (hZ : Z.Warmed39 s.vm) (hw : ∀ d ∈ wordsEq, d.before a0 Z = true) : ∀ d ∈ wordsEq, d.before args s = true := fun d hd => by
  have t : ∀ d ∈ wordsEq, (d.onTables && d.keepsFace) = true := by decide +kernel
  exact RoadKit.mv hZ (hw d hd) (t d hd)
/-- the road's facts of a String, as the laws ask it -/
theorem txt_of {Z U : State} {a0 : Array Value} {kI : Nat} (wi : (Jvm.Cond.instantiable ST kI).before a0 Z = true) (al : Z.vm.Alike U.vm) {x t : Addr} {kb : ClassId} {cs : List Int32} {cd N2 : Int32} {vs : List Value} (E : RoadKit.Exa Z U.heap x ST) (V : RoadKit.Fld Z U.heap x ST "value" "[B" (.ref t)) (C : RoadKit.Fld Z U.heap x ST "coder" "B" (.int cd)) (K : RoadKit.Arv Z U.heap t kb .byte N2 vs (.int 0)) (hc : CodA cs cd N2 vs) (hb : ∀ c ∈ cs, ¬ c < 0 ∧ ¬ (65535 : Int32) < c) (l2 : cs.length ≤ 4000) :
    ∃ A, Txt x t A cd cs.length (fun j => cs.getD j 0) U := by
  obtain ⟨A, K1, K2, K3, K4, K5, K6⟩ := K
  have hcod := hc.cod (by omega) K3 K5
  obtain ⟨D, fV, fC, hB, F1, F2, g1, g2, -, -⟩ := strObj wi al E V C
  exact ⟨A, ⟨_, hB.2.2.1, D, hB.1, rfl, by cases q : D.vm <;> first | rfl | exact absurd q (hB.2.1.2 _)⟩, Has.of hB F1 g1, Has.of hB F2 g2, ⟨K1.1, State.isArrayOf_alike al K1.2.1, K1.2.2, by rcases hcod with ⟨-, q, -⟩ | ⟨-, q, -⟩ <;> omega⟩, hcod, fun j hj => by
    have e : cs.getD j 0 = cs[j] := by simp [List.getD_eq_getElem?_getD, hj]
    show ¬ cs.getD j 0 < 0 ∧ ¬ 65535 < cs.getD j 0
    rw [e]; exact hb _ (List.getElem_mem _)⟩
theorem same_list (cs ds : List Int32) : SameT cs.length (fun j => cs.getD j 0) ds.length (fun j => ds.getD j 0) ↔ cs = ds := by
  constructor
  · rintro ⟨e, q⟩
    refine List.ext_getElem e fun j h1 h2 => ?_
    have := q j h1
    simpa [List.getD_eq_getElem?_getD, h1, h2] using this
  · rintro rfl
    exact ⟨rfl, fun _ _ => rfl⟩
/-- **equals(Object) OF TWO SUCH STRINGS**: 1 just where the chars are the same -/
theorem eqW {p : Program} {l : Launch} {e : Env} {R : Room} {s : State} {args : Array Value} {below : List Frame} {len W : Nat} {Z : State} {a0 : Array Value} {h : Heap} (hZ : Z.Warmed39 s.vm) (hw : ∀ d ∈ wordsEq, d.before a0 Z = true) {kI : Nat} (wi : (Jvm.Cond.instantiable ST kI).before a0 Z = true)
    {x t : Addr} {kb : ClassId} {cs : List Int32} {cd N2 : Int32} {vs : List Value} (E : RoadKit.Exa Z h x ST) (V : RoadKit.Fld Z h x ST "value" "[B" (.ref t)) (C : RoadKit.Fld Z h x ST "coder" "B" (.int cd)) (K : RoadKit.Arv Z h t kb .byte N2 vs (.int 0)) (hc : CodA cs cd N2 vs) (hb : ∀ c ∈ cs, ¬ c < 0 ∧ ¬ (65535 : Int32) < c) (l2 : cs.length ≤ 4000)
    {y t' : Addr} {kb' : ClassId} {ds : List Int32} {cd' N2' : Int32} {vs' : List Value} (E' : RoadKit.Exa Z h y ST) (V' : RoadKit.Fld Z h y ST "value" "[B" (.ref t')) (C' : RoadKit.Fld Z h y ST "coder" "B" (.int cd')) (K' : RoadKit.Arv Z h t' kb' .byte N2' vs' (.int 0)) (hc' : CodA ds cd' N2' vs') (hb' : ∀ c ∈ ds, ¬ c < 0 ∧ ¬ (65535 : Int32) < c) (l2' : ds.length ≤ 4000)
    {z : Int32} (S : RoadKit.Sta Z h ST "COMPACT_STRINGS" "Z" (.int z)) (hz : ¬ z = 0) (hfr : 2 ≤ R.frames) (hlo : W + 28 ≤ R.locals) :
    Back l R p e below s args (⟨"java/lang/String", "equals", "(Ljava/lang/Object;)Z"⟩ : MethodName) len W (fun P a => a = #[.ref x, .ref y] ∧ P.U.heap = h ∧ P.cells + 0 ≤ R.cells ∧ P.slots + 0 ≤ R.slots)
      (fun P _ v B => ∃ L, (((v = some (.int 1) ∧ cs = ds) ∨ (v = some (.int 0) ∧ ¬ cs = ds)) ∧ L = [] ∧ B.U.heap = h) ∧ B.locs = P.locs ++ L ∧ B.cells = P.cells + 0 ∧ B.slots = P.slots + 0) := by
  intro m meth c P g ig mk a X hg hsize hdg hW hn hp'
  obtain ⟨rfl, rfl, r1, r2⟩ := hp'
  have al : Z.vm.Alike P.U.vm := hZ.alike.trans X.warmed.alike
  obtain ⟨A, hx⟩ := txt_of wi al E V C K hc hb l2
  obtain ⟨A', hy⟩ := txt_of wi al E' V' C' K' hc' hb' l2'
  obtain ⟨v, B, X', ⟨⟨w, hv, hh, hq⟩, hl, hk, hs⟩, st⟩ := SEq.pays x t A cd cs.length (fun j => cs.getD j 0) y t' A' cd' ds.length (fun j => ds.getD j 0) z (tabEq_of (movedEq hZ hw)) hfr hlo m meth c P g ig mk _ X hg hsize hdg hW hn ⟨r1, r2, rfl, hx, hy, sta_is al S, hz⟩
  refine ⟨v, B, X', ⟨[], ⟨?_, rfl, hh⟩, hl, hk, hs⟩, st⟩
  rcases hq with ⟨rfl, q⟩ | ⟨rfl, q⟩
  · exact Or.inl ⟨hv, (same_list cs ds).mp q⟩
  · exact Or.inr ⟨hv, fun e => q ((same_list cs ds).mpr e)⟩
end StrChars.Road
namespace StrChars.Road
open Jvm Sem ClassFile Op Lib Jvm.Stand Jvm.Free Jvm.Free.XT
open Jvm.Lib.Cold (StaticIs)
/-- what backV says of its String, as the contracts of this text ask it: cs's low bytes, coder 0 -/
theorem codOf {cs : List Int32} {n : Nat} (hn : cs.length = n) (hb : ∀ c ∈ cs, ¬ 255 < c) : CodA cs 0 (Int32.ofNat n) ((cs.map lo8).map Value.int) := Or.inl ⟨rfl, by rw [hn], by simp [List.map_map, Function.comp_def], hb⟩
end StrChars.Road
end Jvm.Pilot.@@N@@
namespace Jvm.Pilot.@@N@@
open Jvm Jvm.ClassFile Sem Op Lib Jvm.Free Jvm.Stand Jvm.LawKit Jvm.RoadKit Bundle Jvm.Pilot.@@N@@.Jvm.D

namespace Own
open Jvm Jvm.ClassFile Sem Op Lib Jvm.Free Jvm.Stand Jvm.LawKit Jvm.RoadKit Bundle
abbrev Cx : Type := Program × Launch × Env × State × MethodId × Array Value × List Frame × Method × Code
abbrev Cx.p (X : Cx) : Program := X.1
abbrev Cx.l (X : Cx) : Launch := X.2.1
abbrev Cx.e (X : Cx) : Env := X.2.2.1
abbrev Cx.s (X : Cx) : State := X.2.2.2.1
abbrev Cx.m (X : Cx) : MethodId := X.2.2.2.2.1
abbrev Cx.args (X : Cx) : Array Value := X.2.2.2.2.2.1
abbrev Cx.below (X : Cx) : List Frame := X.2.2.2.2.2.2.1
abbrev Cx.meth (X : Cx) : Method := X.2.2.2.2.2.2.2.1
abbrev Cx.c (X : Cx) : Code := X.2.2.2.2.2.2.2.2
abbrev Rm (f k s l : Nat) : Room := { frames := f, cells := k, slots := s, locals := l }
/-- what never changes in one activation -/
def Fix (X : Cx) (Z : State) (a0 : Array Value) (EL : List (String × Nat)) (y : MethodName) (bs : ByteArray) (ml : Nat) (rt : Option FieldType) : Prop :=
  X.p.tables.exec = Jvm.exec ∧ X.c.code = bs ∧ X.c.maxLocals = ml ∧ X.meth.sig.returnType = rt ∧ X.meth.name = y.name ∧ X.meth.locks = false ∧ EW Z a0 EL
/-- where the walk stands: heap h, at most k cells and n slots made; sf: addresses that no booked literal lives at -/
def Spot (X : Cx) (R : Room) (Z : State) (a0 : Array Value) (EL : List (String × Nat)) (nw : Bool) (y : MethodName) (bs : ByteArray) (ml : Nat) (rt : Option FieldType) (sf : List Addr) (T : State) (h : Heap) (k n : Nat) : Prop :=
  Fix X Z a0 EL y bs ml rt ∧
  ∃ (vm0 : Vm) (L : List Loc), Stand X.p X.l X.e R (X.s.setVm vm0) X.m X.args X.below X.meth X.c T L k n ∧ T.heap = h ∧ X.s.Since vm0 h.size ∧ Z.Warmed39 vm0 ∧ vm0.findClass y.cls = some X.m.cls ∧ CHr Z EL X.s.vm X.s.heap vm0 h ∧ Fr Z.heap.size L ∧ Ext Z.heap h ∧ (∀ x ∈ sf, x < h.size ∧ Safe Z EL vm0 h x) ∧ (nw = true → X.s.WarmedH vm0)
def Done (X : Cx) (Z : State) (EL : List (String × Nat)) (nw : Bool) (Q : Option Value → Heap → Prop) (kc ks : Nat) (T : State) (g : JFrame) : Prop :=
  ∃ s₂ o, Steps X.p.tables X.e X.below (T.setTop g) s₂ ∧ s₂.status = .running ∧ Ended s₂ X.below o ∧ ∃ v L, o = .returned v ∧ (Q v s₂.heap ∧ Fr Z.heap.size L ∧ Ext Z.heap s₂.heap) ∧ CHr Z EL X.s.vm X.s.heap s₂.vm s₂.heap ∧ (nw = true → X.s.WarmedH s₂.vm) ∧ ReturnedEndW X.s o s₂ L kc ks
/-- from every state that stands so, the frame g runs to a return that Q allows -/
def Go (X : Cx) (R : Room) (Z : State) (a0 : Array Value) (EL : List (String × Nat)) (nw : Bool) (y : MethodName) (bs : ByteArray) (ml : Nat) (rt : Option FieldType) (Q : Option Value → Heap → Prop) (kc ks : Nat) (sf : List Addr) (h : Heap) (k n : Nat) (g : JFrame) : Prop :=
  ∀ T, Spot X R Z a0 EL nw y bs ml rt sf T h k n → Done X Z EL nw Q kc ks T g
section Kit
variable {X : Cx} {R : Room} {Z : State} {a0 : Array Value} {EL : List (String × Nat)} {nw : Bool} {y : MethodName} {bs : ByteArray} {ml : Nat} {rt : Option FieldType} {Q : Option Value → Heap → Prop} {kc ks : Nat} {sf sf' : List Addr} {h h' : Heap} {k n k' n' : Nat} {pc pc' pc2 : Nat} {Ls Ls' : Array Slot} {st : List Value} {g g' : JFrame} {T T' : State}
theorem acmp_eq (v w : Value) : XT.acmp .eq v w = decide (v = w) := rfl
theorem acmp_ne (v w : Value) : XT.acmp .ne v w = decide (v ≠ w) := rfl
theorem ble {a b : Nat} (q : Nat.ble a b = true) : a ≤ b := Nat.le_of_ble_eq_true q
theorem Done.back (st : ∀ t, Steps X.p.tables X.e X.below (T'.setTop g') t → Steps X.p.tables X.e X.below (T.setTop g) t) (D : Done X Z EL nw Q kc ks T' g') : Done X Z EL nw Q kc ks T g := by
  obtain ⟨s₂, o, h1, r⟩ := D
  exact ⟨s₂, o, st _ h1, r⟩
theorem Spot.mono (S : Spot X R Z a0 EL nw y bs ml rt sf T h k n) (hk : k ≤ k') (hn : n ≤ n') (hs : ∀ x ∈ sf', x ∈ sf) : Spot X R Z a0 EL nw y bs ml rt sf' T h k' n' := by
  obtain ⟨F, vm0, L, X1, r1, r2, r3, r4, r5, r6, r7, r8, r9⟩ := S
  exact ⟨F, vm0, L, X1.mono hk hn, r1, r2, r3, r4, r5, r6, r7, fun x hx => r8 x (hs x hx), r9⟩
theorem Go.mono (k' n' : Nat) (hk : Nat.ble k k' = true) (hn : Nat.ble n n' = true) (G : Go X R Z a0 EL nw y bs ml rt Q kc ks sf h k' n' g) : Go X R Z a0 EL nw y bs ml rt Q kc ks sf h k n g := fun T S => G T (S.mono (ble hk) (ble hn) fun _ q => q)
theorem Go.drop (G : Go X R Z a0 EL nw y bs ml rt Q kc ks [] h k n g) : Go X R Z a0 EL nw y bs ml rt Q kc ks sf h k n g := fun T S => G T (S.mono (Nat.le_refl _) (Nat.le_refl _) fun _ q => nomatch q)
theorem Go.step (st : ∀ T t, At T X.m X.c X.below → X.p.tables.exec = Jvm.exec → X.c.code = bs → Steps X.p.tables X.e X.below (T.setTop g') t → Steps X.p.tables X.e X.below (T.setTop g) t) (G : Go X R Z a0 EL nw y bs ml rt Q kc ks sf h k n g') : Go X R Z a0 EL nw y bs ml rt Q kc ks sf h k n g := fun T S => by
  have S' := S
  obtain ⟨⟨hx, hc, -⟩, vm0, L, X1, -⟩ := S'
  exact (G T S).back fun t q => st T t X1.here hx hc q
/-- what is known of the tables at hand, for a step that wants more -/
theorem Go.look (G : ∀ vm0, Z.Warmed39 vm0 → CHv Z EL vm0 h → Ext Z.heap h → (∀ x ∈ sf, x < h.size ∧ Safe Z EL vm0 h x) → Go X R Z a0 EL nw y bs ml rt Q kc ks sf h k n g) : Go X R Z a0 EL nw y bs ml rt Q kc ks sf h k n g := fun T S => by
  have S' := S
  obtain ⟨-, vm0, L, -, -, -, hZ, -, hC, -, hE, hs, -⟩ := S'
  exact G vm0 hZ hC.1 hE hs T S
/-- the statics and the old cells stand -/
theorem Go.old (G : Ext Z.heap h → Go X R Z a0 EL nw y bs ml rt Q kc ks sf h k n g) : Go X R Z a0 EL nw y bs ml rt Q kc ks sf h k n g := Go.look fun _ _ _ E _ => G E
theorem g_aloadN {i : Fin 4} {v : Value} (hd : decode bs pc = .ok (.aload_n i, 1)) (hp : pc + 1 = pc') (hv : Ls[i.val]? = some (.val v)) (hr : v.isRef = true) (G : Go X R Z a0 EL nw y bs ml rt Q kc ks sf h k n (mkF X.m pc' Ls (v :: st))) : Go X R Z a0 EL nw y bs ml rt Q kc ks sf h k n (mkF X.m pc Ls (st)) := by
  subst hp
  exact Go.step (fun T t hT hx hc q => XS.aloadN hT hx rfl (hb hc hd) hv hr q) G
theorem g_aload {i : Nat} {v : Value} (hd : decode bs pc = .ok (.aload i, 2)) (hp : pc + 2 = pc') (hv : Ls[i]? = some (.val v)) (hr : v.isRef = true) (G : Go X R Z a0 EL nw y bs ml rt Q kc ks sf h k n (mkF X.m pc' Ls (v :: st))) : Go X R Z a0 EL nw y bs ml rt Q kc ks sf h k n (mkF X.m pc Ls (st)) := by
  subst hp
  exact Go.step (fun T t hT hx hc q => XS.aload hT hx rfl (hb hc hd) hv hr q) G
theorem g_iloadN {i : Fin 4} {v : Int32} (hd : decode bs pc = .ok (.iload_n i, 1)) (hp : pc + 1 = pc') (hv : Ls[i.val]? = some (.val (.int v))) (G : Go X R Z a0 EL nw y bs ml rt Q kc ks sf h k n (mkF X.m pc' Ls (.int v :: st))) : Go X R Z a0 EL nw y bs ml rt Q kc ks sf h k n (mkF X.m pc Ls (st)) := by
  subst hp
  exact Go.step (fun T t hT hx hc q => XS.iloadN hT hx rfl (hb hc hd) hv q) G
theorem g_iload {i : Nat} {v : Int32} (hd : decode bs pc = .ok (.iload i, 2)) (hp : pc + 2 = pc') (hv : Ls[i]? = some (.val (.int v))) (G : Go X R Z a0 EL nw y bs ml rt Q kc ks sf h k n (mkF X.m pc' Ls (.int v :: st))) : Go X R Z a0 EL nw y bs ml rt Q kc ks sf h k n (mkF X.m pc Ls (st)) := by
  subst hp
  exact Go.step (fun T t hT hx hc q => XS.iload hT hx rfl (hb hc hd) hv q) G
theorem g_lloadN {i : Fin 4} {v : Int64} (hd : decode bs pc = .ok (.lload_n i, 1)) (hp : pc + 1 = pc') (hv : Ls[i.val]? = some (.val (.long v))) (G : Go X R Z a0 EL nw y bs ml rt Q kc ks sf h k n (mkF X.m pc' Ls (.long v :: st))) : Go X R Z a0 EL nw y bs ml rt Q kc ks sf h k n (mkF X.m pc Ls (st)) := by
  subst hp
  exact Go.step (fun T t hT hx hc q => XS.lloadN hT hx rfl (hb hc hd) hv q) G
theorem g_lload {i : Nat} {v : Int64} (hd : decode bs pc = .ok (.lload i, 2)) (hp : pc + 2 = pc') (hv : Ls[i]? = some (.val (.long v))) (G : Go X R Z a0 EL nw y bs ml rt Q kc ks sf h k n (mkF X.m pc' Ls (.long v :: st))) : Go X R Z a0 EL nw y bs ml rt Q kc ks sf h k n (mkF X.m pc Ls (st)) := by
  subst hp
  exact Go.step (fun T t hT hx hc q => XS.lload hT hx rfl (hb hc hd) hv q) G
theorem g_iconst {i : Int} {w : Int32} (hd : decode bs pc = .ok (.iconst i, 1)) (hp : pc + 1 = pc') (hw : Int32.ofInt i = w) (G : Go X R Z a0 EL nw y bs ml rt Q kc ks sf h k n (mkF X.m pc' Ls (.int w :: st))) : Go X R Z a0 EL nw y bs ml rt Q kc ks sf h k n (mkF X.m pc Ls st) := by
  subst hp hw
  exact Go.step (fun T t hT hx hc q => XS.iconst hT hx rfl (hb hc hd) q) G
theorem g_bipush {i : Int} {w : Int32} (hd : decode bs pc = .ok (.bipush i, 2)) (hp : pc + 2 = pc') (hw : (Int8.ofInt i).toInt32 = w) (G : Go X R Z a0 EL nw y bs ml rt Q kc ks sf h k n (mkF X.m pc' Ls (.int w :: st))) : Go X R Z a0 EL nw y bs ml rt Q kc ks sf h k n (mkF X.m pc Ls st) := by
  subst hp hw
  exact Go.step (fun T t hT hx hc q => XS.bipush hT hx rfl (hb hc hd) q) G
theorem g_sipush {i : Int} {w : Int32} (hd : decode bs pc = .ok (.sipush i, 3)) (hp : pc + 3 = pc') (hw : (Int16.ofInt i).toInt32 = w) (G : Go X R Z a0 EL nw y bs ml rt Q kc ks sf h k n (mkF X.m pc' Ls (.int w :: st))) : Go X R Z a0 EL nw y bs ml rt Q kc ks sf h k n (mkF X.m pc Ls st) := by
  subst hp hw
  exact Go.step (fun T t hT hx hc q => XS.sipush hT hx rfl (hb hc hd) q) G
theorem g_lconst {i : Fin 2} {w : Int64} (hd : decode bs pc = .ok (.lconst i, 1)) (hp : pc + 1 = pc') (hw : Int64.ofNat i = w) (G : Go X R Z a0 EL nw y bs ml rt Q kc ks sf h k n (mkF X.m pc' Ls (.long w :: st))) : Go X R Z a0 EL nw y bs ml rt Q kc ks sf h k n (mkF X.m pc Ls st) := by
  subst hp hw
  exact Go.step (fun T t hT hx hc q => XS.lconst hT hx rfl (hb hc hd) q) G
theorem g_aconst_null  (hd : decode bs pc = .ok (.aconst_null, 1)) (hp : pc + 1 = pc')  (G : Go X R Z a0 EL nw y bs ml rt Q kc ks sf h k n (mkF X.m pc' Ls (.null :: st))) : Go X R Z a0 EL nw y bs ml rt Q kc ks sf h k n (mkF X.m pc Ls (st)) := by
  subst hp
  exact Go.step (fun T t hT hx hc q => XS.aconstNull hT hx rfl (hb hc hd)  q) G
theorem g_iadd {x1 x2 : Int32} (hd : decode bs pc = .ok (.iadd, 1)) (hp : pc + 1 = pc')  (G : Go X R Z a0 EL nw y bs ml rt Q kc ks sf h k n (mkF X.m pc' Ls (.int (x1 + x2) :: st))) : Go X R Z a0 EL nw y bs ml rt Q kc ks sf h k n (mkF X.m pc Ls (.int x2 :: .int x1 :: st)) := by
  subst hp
  exact Go.step (fun T t hT hx hc q => XS.iadd hT hx rfl (hb hc hd) rfl  q) G
theorem g_isub {x1 x2 : Int32} (hd : decode bs pc = .ok (.isub, 1)) (hp : pc + 1 = pc')  (G : Go X R Z a0 EL nw y bs ml rt Q kc ks sf h k n (mkF X.m pc' Ls (.int (x1 - x2) :: st))) : Go X R Z a0 EL nw y bs ml rt Q kc ks sf h k n (mkF X.m pc Ls (.int x2 :: .int x1 :: st)) := by
  subst hp
  exact Go.step (fun T t hT hx hc q => XS.isub hT hx rfl (hb hc hd) rfl  q) G
theorem g_imul {x1 x2 : Int32} (hd : decode bs pc = .ok (.imul, 1)) (hp : pc + 1 = pc')  (G : Go X R Z a0 EL nw y bs ml rt Q kc ks sf h k n (mkF X.m pc' Ls (.int (x1 * x2) :: st))) : Go X R Z a0 EL nw y bs ml rt Q kc ks sf h k n (mkF X.m pc Ls (.int x2 :: .int x1 :: st)) := by
  subst hp
  exact Go.step (fun T t hT hx hc q => XS.imul hT hx rfl (hb hc hd) rfl  q) G
theorem g_iand {x1 x2 : Int32} (hd : decode bs pc = .ok (.iand, 1)) (hp : pc + 1 = pc')  (G : Go X R Z a0 EL nw y bs ml rt Q kc ks sf h k n (mkF X.m pc' Ls (.int (x1 &&& x2) :: st))) : Go X R Z a0 EL nw y bs ml rt Q kc ks sf h k n (mkF X.m pc Ls (.int x2 :: .int x1 :: st)) := by
  subst hp
  exact Go.step (fun T t hT hx hc q => XS.iand hT hx rfl (hb hc hd) rfl  q) G
theorem g_ior {x1 x2 : Int32} (hd : decode bs pc = .ok (.ior, 1)) (hp : pc + 1 = pc')  (G : Go X R Z a0 EL nw y bs ml rt Q kc ks sf h k n (mkF X.m pc' Ls (.int (x1 ||| x2) :: st))) : Go X R Z a0 EL nw y bs ml rt Q kc ks sf h k n (mkF X.m pc Ls (.int x2 :: .int x1 :: st)) := by
  subst hp
  exact Go.step (fun T t hT hx hc q => XS.ior hT hx rfl (hb hc hd) rfl  q) G
theorem g_ixor {x1 x2 : Int32} (hd : decode bs pc = .ok (.ixor, 1)) (hp : pc + 1 = pc')  (G : Go X R Z a0 EL nw y bs ml rt Q kc ks sf h k n (mkF X.m pc' Ls (.int (x1 ^^^ x2) :: st))) : Go X R Z a0 EL nw y bs ml rt Q kc ks sf h k n (mkF X.m pc Ls (.int x2 :: .int x1 :: st)) := by
  subst hp
  exact Go.step (fun T t hT hx hc q => XS.ixor hT hx rfl (hb hc hd) rfl  q) G
theorem g_ishl {x1 x2 : Int32} (hd : decode bs pc = .ok (.ishl, 1)) (hp : pc + 1 = pc')  (G : Go X R Z a0 EL nw y bs ml rt Q kc ks sf h k n (mkF X.m pc' Ls (.int (x1 <<< (x2 &&& 31)) :: st))) : Go X R Z a0 EL nw y bs ml rt Q kc ks sf h k n (mkF X.m pc Ls (.int x2 :: .int x1 :: st)) := by
  subst hp
  exact Go.step (fun T t hT hx hc q => XS.ishl hT hx rfl (hb hc hd) rfl  q) G
theorem g_ishr {x1 x2 : Int32} (hd : decode bs pc = .ok (.ishr, 1)) (hp : pc + 1 = pc')  (G : Go X R Z a0 EL nw y bs ml rt Q kc ks sf h k n (mkF X.m pc' Ls (.int (x1 >>> (x2 &&& 31)) :: st))) : Go X R Z a0 EL nw y bs ml rt Q kc ks sf h k n (mkF X.m pc Ls (.int x2 :: .int x1 :: st)) := by
  subst hp
  exact Go.step (fun T t hT hx hc q => XS.ishr hT hx rfl (hb hc hd) rfl  q) G
theorem g_iushr {x1 x2 : Int32} (hd : decode bs pc = .ok (.iushr, 1)) (hp : pc + 1 = pc')  (G : Go X R Z a0 EL nw y bs ml rt Q kc ks sf h k n (mkF X.m pc' Ls (.int (x1.toUInt32 >>> (x2 &&& 31).toUInt32).toInt32 :: st))) : Go X R Z a0 EL nw y bs ml rt Q kc ks sf h k n (mkF X.m pc Ls (.int x2 :: .int x1 :: st)) := by
  subst hp
  exact Go.step (fun T t hT hx hc q => XS.iushr hT hx rfl (hb hc hd) rfl  q) G
theorem g_idiv {x1 x2 : Int32} (hd : decode bs pc = .ok (.idiv, 1)) (hp : pc + 1 = pc') (hy : x2 ≠ 0) (G : Go X R Z a0 EL nw y bs ml rt Q kc ks sf h k n (mkF X.m pc' Ls (.int (x1 / x2) :: st))) : Go X R Z a0 EL nw y bs ml rt Q kc ks sf h k n (mkF X.m pc Ls (.int x2 :: .int x1 :: st)) := by
  subst hp
  exact Go.step (fun T t hT hx hc q => XS.idiv hT hx rfl (hb hc hd) rfl hy q) G
theorem g_ladd {x1 x2 : Int64} (hd : decode bs pc = .ok (.ladd, 1)) (hp : pc + 1 = pc')  (G : Go X R Z a0 EL nw y bs ml rt Q kc ks sf h k n (mkF X.m pc' Ls (.long (x1 + x2) :: st))) : Go X R Z a0 EL nw y bs ml rt Q kc ks sf h k n (mkF X.m pc Ls (.long x2 :: .long x1 :: st)) := by
  subst hp
  exact Go.step (fun T t hT hx hc q => XS.ladd hT hx rfl (hb hc hd) rfl  q) G
theorem g_lsub {x1 x2 : Int64} (hd : decode bs pc = .ok (.lsub, 1)) (hp : pc + 1 = pc')  (G : Go X R Z a0 EL nw y bs ml rt Q kc ks sf h k n (mkF X.m pc' Ls (.long (x1 - x2) :: st))) : Go X R Z a0 EL nw y bs ml rt Q kc ks sf h k n (mkF X.m pc Ls (.long x2 :: .long x1 :: st)) := by
  subst hp
  exact Go.step (fun T t hT hx hc q => XS.lsub hT hx rfl (hb hc hd) rfl  q) G
theorem g_lmul {x1 x2 : Int64} (hd : decode bs pc = .ok (.lmul, 1)) (hp : pc + 1 = pc')  (G : Go X R Z a0 EL nw y bs ml rt Q kc ks sf h k n (mkF X.m pc' Ls (.long (x1 * x2) :: st))) : Go X R Z a0 EL nw y bs ml rt Q kc ks sf h k n (mkF X.m pc Ls (.long x2 :: .long x1 :: st)) := by
  subst hp
  exact Go.step (fun T t hT hx hc q => XS.lmul hT hx rfl (hb hc hd) rfl  q) G
theorem g_land {x1 x2 : Int64} (hd : decode bs pc = .ok (.land, 1)) (hp : pc + 1 = pc')  (G : Go X R Z a0 EL nw y bs ml rt Q kc ks sf h k n (mkF X.m pc' Ls (.long (x1 &&& x2) :: st))) : Go X R Z a0 EL nw y bs ml rt Q kc ks sf h k n (mkF X.m pc Ls (.long x2 :: .long x1 :: st)) := by
  subst hp
  exact Go.step (fun T t hT hx hc q => XS.land hT hx rfl (hb hc hd) rfl  q) G
theorem g_lor {x1 x2 : Int64} (hd : decode bs pc = .ok (.lor, 1)) (hp : pc + 1 = pc')  (G : Go X R Z a0 EL nw y bs ml rt Q kc ks sf h k n (mkF X.m pc' Ls (.long (x1 ||| x2) :: st))) : Go X R Z a0 EL nw y bs ml rt Q kc ks sf h k n (mkF X.m pc Ls (.long x2 :: .long x1 :: st)) := by
  subst hp
  exact Go.step (fun T t hT hx hc q => XS.lor hT hx rfl (hb hc hd) rfl  q) G
theorem g_ldiv {x1 x2 : Int64} (hd : decode bs pc = .ok (.ldiv, 1)) (hp : pc + 1 = pc') (hy : x2 ≠ 0) (G : Go X R Z a0 EL nw y bs ml rt Q kc ks sf h k n (mkF X.m pc' Ls (.long (x1 / x2) :: st))) : Go X R Z a0 EL nw y bs ml rt Q kc ks sf h k n (mkF X.m pc Ls (.long x2 :: .long x1 :: st)) := by
  subst hp
  exact Go.step (fun T t hT hx hc q => XS.ldiv hT hx rfl (hb hc hd) rfl hy q) G
theorem g_lcmp {x1 x2 : Int64} (hd : decode bs pc = .ok (.lcmp, 1)) (hp : pc + 1 = pc')  (G : Go X R Z a0 EL nw y bs ml rt Q kc ks sf h k n (mkF X.m pc' Ls (.int (lcmpW x1 x2) :: st))) : Go X R Z a0 EL nw y bs ml rt Q kc ks sf h k n (mkF X.m pc Ls (.long x2 :: .long x1 :: st)) := by
  subst hp
  exact Go.step (fun T t hT hx hc q => XS.lcmp hT hx rfl (hb hc hd) rfl  q) G
theorem g_lshl {x1 : Int64} {x2 : Int32} (hd : decode bs pc = .ok (.lshl, 1)) (hp : pc + 1 = pc')  (G : Go X R Z a0 EL nw y bs ml rt Q kc ks sf h k n (mkF X.m pc' Ls (.long (x1 <<< (x2 &&& 63).toInt64) :: st))) : Go X R Z a0 EL nw y bs ml rt Q kc ks sf h k n (mkF X.m pc Ls (.int x2 :: .long x1 :: st)) := by
  subst hp
  exact Go.step (fun T t hT hx hc q => XS.lshl hT hx rfl (hb hc hd) rfl q) G
theorem g_lshr {x1 : Int64} {x2 : Int32} (hd : decode bs pc = .ok (.lshr, 1)) (hp : pc + 1 = pc')  (G : Go X R Z a0 EL nw y bs ml rt Q kc ks sf h k n (mkF X.m pc' Ls (.long (x1 >>> (x2 &&& 63).toInt64) :: st))) : Go X R Z a0 EL nw y bs ml rt Q kc ks sf h k n (mkF X.m pc Ls (.int x2 :: .long x1 :: st)) := by
  subst hp
  exact Go.step (fun T t hT hx hc q => XS.lshr hT hx rfl (hb hc hd) rfl q) G
theorem g_lushr {x1 : Int64} {x2 : Int32} (hd : decode bs pc = .ok (.lushr, 1)) (hp : pc + 1 = pc')  (G : Go X R Z a0 EL nw y bs ml rt Q kc ks sf h k n (mkF X.m pc' Ls (.long ((x1.toUInt64 >>> (x2 &&& 63).toInt64.toUInt64).toInt64) :: st))) : Go X R Z a0 EL nw y bs ml rt Q kc ks sf h k n (mkF X.m pc Ls (.int x2 :: .long x1 :: st)) := by
  subst hp
  exact Go.step (fun T t hT hx hc q => XS.lushr hT hx rfl (hb hc hd) rfl q) G
theorem g_irem {x1 x2 : Int32} (hd : decode bs pc = .ok (.irem, 1)) (hp : pc + 1 = pc') (hy : x2 ≠ 0) (G : Go X R Z a0 EL nw y bs ml rt Q kc ks sf h k n (mkF X.m pc' Ls (.int (x1 % x2) :: st))) : Go X R Z a0 EL nw y bs ml rt Q kc ks sf h k n (mkF X.m pc Ls (.int x2 :: .int x1 :: st)) := by
  subst hp
  exact Go.step (fun T t hT hx hc q => XS.irem hT hx rfl (hb hc hd) rfl hy (by rw [irem_eq_mod]; exact q)) G
theorem g_lrem {x1 x2 : Int64} (hd : decode bs pc = .ok (.lrem, 1)) (hp : pc + 1 = pc') (hy : x2 ≠ 0) (G : Go X R Z a0 EL nw y bs ml rt Q kc ks sf h k n (mkF X.m pc' Ls (.long (x1 - (x1 / x2) * x2) :: st))) : Go X R Z a0 EL nw y bs ml rt Q kc ks sf h k n (mkF X.m pc Ls (.long x2 :: .long x1 :: st)) := by
  subst hp
  exact Go.step (fun T t hT hx hc q => XS.lrem hT hx rfl (hb hc hd) rfl hy q) G
theorem g_ineg {x1 : Int32} (hd : decode bs pc = .ok (.ineg, 1)) (hp : pc + 1 = pc')  (G : Go X R Z a0 EL nw y bs ml rt Q kc ks sf h k n (mkF X.m pc' Ls (.int (-x1) :: st))) : Go X R Z a0 EL nw y bs ml rt Q kc ks sf h k n (mkF X.m pc Ls (.int x1 :: st)) := by
  subst hp
  exact Go.step (fun T t hT hx hc q => XS.ineg hT hx rfl (hb hc hd) rfl q) G
theorem g_lneg {x1 : Int64} (hd : decode bs pc = .ok (.lneg, 1)) (hp : pc + 1 = pc')  (G : Go X R Z a0 EL nw y bs ml rt Q kc ks sf h k n (mkF X.m pc' Ls (.long (-x1) :: st))) : Go X R Z a0 EL nw y bs ml rt Q kc ks sf h k n (mkF X.m pc Ls (.long x1 :: st)) := by
  subst hp
  exact Go.step (fun T t hT hx hc q => XS.lneg hT hx rfl (hb hc hd) rfl q) G
theorem g_i2l {x1 : Int32} (hd : decode bs pc = .ok (.i2l, 1)) (hp : pc + 1 = pc')  (G : Go X R Z a0 EL nw y bs ml rt Q kc ks sf h k n (mkF X.m pc' Ls (.long (x1.toInt64) :: st))) : Go X R Z a0 EL nw y bs ml rt Q kc ks sf h k n (mkF X.m pc Ls (.int x1 :: st)) := by
  subst hp
  exact Go.step (fun T t hT hx hc q => XS.i2l hT hx rfl (hb hc hd) rfl q) G
theorem g_l2i {x1 : Int64} (hd : decode bs pc = .ok (.l2i, 1)) (hp : pc + 1 = pc')  (G : Go X R Z a0 EL nw y bs ml rt Q kc ks sf h k n (mkF X.m pc' Ls (.int (x1.toInt32) :: st))) : Go X R Z a0 EL nw y bs ml rt Q kc ks sf h k n (mkF X.m pc Ls (.long x1 :: st)) := by
  subst hp
  exact Go.step (fun T t hT hx hc q => XS.l2i hT hx rfl (hb hc hd) rfl q) G
theorem g_i2b {x1 : Int32} (hd : decode bs pc = .ok (.i2b, 1)) (hp : pc + 1 = pc')  (G : Go X R Z a0 EL nw y bs ml rt Q kc ks sf h k n (mkF X.m pc' Ls (.int (x1.toInt8.toInt32) :: st))) : Go X R Z a0 EL nw y bs ml rt Q kc ks sf h k n (mkF X.m pc Ls (.int x1 :: st)) := by
  subst hp
  exact Go.step (fun T t hT hx hc q => XS.i2b hT hx rfl (hb hc hd) rfl q) G
theorem g_i2c {x1 : Int32} (hd : decode bs pc = .ok (.i2c, 1)) (hp : pc + 1 = pc')  (G : Go X R Z a0 EL nw y bs ml rt Q kc ks sf h k n (mkF X.m pc' Ls (.int (x1.toUInt32.toUInt16.toUInt32.toInt32) :: st))) : Go X R Z a0 EL nw y bs ml rt Q kc ks sf h k n (mkF X.m pc Ls (.int x1 :: st)) := by
  subst hp
  exact Go.step (fun T t hT hx hc q => XS.i2c hT hx rfl (hb hc hd) rfl q) G
theorem g_i2s {x1 : Int32} (hd : decode bs pc = .ok (.i2s, 1)) (hp : pc + 1 = pc')  (G : Go X R Z a0 EL nw y bs ml rt Q kc ks sf h k n (mkF X.m pc' Ls (.int (x1.toInt16.toInt32) :: st))) : Go X R Z a0 EL nw y bs ml rt Q kc ks sf h k n (mkF X.m pc Ls (.int x1 :: st)) := by
  subst hp
  exact Go.step (fun T t hT hx hc q => XS.i2s hT hx rfl (hb hc hd) rfl q) G
theorem g_dup {x1 : Value} (hd : decode bs pc = .ok (.dup, 1)) (hp : pc + 1 = pc') (hc1 : x1.category = 1) (G : Go X R Z a0 EL nw y bs ml rt Q kc ks sf h k n (mkF X.m pc' Ls (x1 :: x1 :: st))) : Go X R Z a0 EL nw y bs ml rt Q kc ks sf h k n (mkF X.m pc Ls (x1 :: st)) := by
  subst hp
  exact Go.step (fun T t hT hx hc q => XS.dup hT hx rfl (hb hc hd) rfl hc1 q) G
theorem g_pop {x1 : Value} (hd : decode bs pc = .ok (.pop, 1)) (hp : pc + 1 = pc') (hc1 : x1.category = 1) (G : Go X R Z a0 EL nw y bs ml rt Q kc ks sf h k n (mkF X.m pc' Ls (st))) : Go X R Z a0 EL nw y bs ml rt Q kc ks sf h k n (mkF X.m pc Ls (x1 :: st)) := by
  subst hp
  exact Go.step (fun T t hT hx hc q => XS.pop hT hx rfl (hb hc hd) rfl hc1 q) G
theorem g_dup_x1 {x1 x2 : Value} (hd : decode bs pc = .ok (.dup_x1, 1)) (hp : pc + 1 = pc') (hc1 : x1.category = 1) (hc2 : x2.category = 1) (G : Go X R Z a0 EL nw y bs ml rt Q kc ks sf h k n (mkF X.m pc' Ls (x1 :: x2 :: x1 :: st))) : Go X R Z a0 EL nw y bs ml rt Q kc ks sf h k n (mkF X.m pc Ls (x1 :: x2 :: st)) := by
  subst hp
  exact Go.step (fun T t hT hx hc q => XT.dupX1 hT hx rfl (hb hc hd) rfl hc1 hc2 q) G
theorem g_dup2 {x1 x2 : Value} (hd : decode bs pc = .ok (.dup2, 1)) (hp : pc + 1 = pc') (hc1 : x1.category = 1) (hc2 : x2.category = 1) (G : Go X R Z a0 EL nw y bs ml rt Q kc ks sf h k n (mkF X.m pc' Ls (x1 :: x2 :: x1 :: x2 :: st))) : Go X R Z a0 EL nw y bs ml rt Q kc ks sf h k n (mkF X.m pc Ls (x1 :: x2 :: st)) := by
  subst hp
  exact Go.step (fun T t hT hx hc q => XT.dup2 hT hx rfl (hb hc hd) rfl hc1 hc2 q) G
theorem g_istoreN {i : Fin 4} {x1 : Int32} (hd : decode bs pc = .ok (.istore_n i, 1)) (hp : pc + 1 = pc') (hl : storeLocals Ls i.val (.int x1) = some Ls') (G : Go X R Z a0 EL nw y bs ml rt Q kc ks sf h k n (mkF X.m pc' Ls' (st))) : Go X R Z a0 EL nw y bs ml rt Q kc ks sf h k n (mkF X.m pc Ls (.int x1 :: st)) := by
  subst hp
  exact Go.step (fun T t hT hx hc q => XS.istoreN hT hx rfl (hb hc hd) rfl hl q) G
theorem g_istore {i : Nat} {x1 : Int32} (hd : decode bs pc = .ok (.istore i, 2)) (hp : pc + 2 = pc') (hl : storeLocals Ls i (.int x1) = some Ls') (G : Go X R Z a0 EL nw y bs ml rt Q kc ks sf h k n (mkF X.m pc' Ls' (st))) : Go X R Z a0 EL nw y bs ml rt Q kc ks sf h k n (mkF X.m pc Ls (.int x1 :: st)) := by
  subst hp
  exact Go.step (fun T t hT hx hc q => XS.istore hT hx rfl (hb hc hd) rfl hl q) G
theorem g_lstoreN {i : Fin 4} {x1 : Int64} (hd : decode bs pc = .ok (.lstore_n i, 1)) (hp : pc + 1 = pc') (hl : storeLocals Ls i.val (.long x1) = some Ls') (G : Go X R Z a0 EL nw y bs ml rt Q kc ks sf h k n (mkF X.m pc' Ls' (st))) : Go X R Z a0 EL nw y bs ml rt Q kc ks sf h k n (mkF X.m pc Ls (.long x1 :: st)) := by
  subst hp
  exact Go.step (fun T t hT hx hc q => XS.lstoreN hT hx rfl (hb hc hd) rfl hl q) G
theorem g_lstore {i : Nat} {x1 : Int64} (hd : decode bs pc = .ok (.lstore i, 2)) (hp : pc + 2 = pc') (hl : storeLocals Ls i (.long x1) = some Ls') (G : Go X R Z a0 EL nw y bs ml rt Q kc ks sf h k n (mkF X.m pc' Ls' (st))) : Go X R Z a0 EL nw y bs ml rt Q kc ks sf h k n (mkF X.m pc Ls (.long x1 :: st)) := by
  subst hp
  exact Go.step (fun T t hT hx hc q => XS.lstore hT hx rfl (hb hc hd) rfl hl q) G
theorem g_astoreN {i : Fin 4} {x1 : Value} (hd : decode bs pc = .ok (.astore_n i, 1)) (hp : pc + 1 = pc') (hr : x1.isRef = true) (hl : storeLocals Ls i.val x1 = some Ls') (G : Go X R Z a0 EL nw y bs ml rt Q kc ks sf h k n (mkF X.m pc' Ls' (st))) : Go X R Z a0 EL nw y bs ml rt Q kc ks sf h k n (mkF X.m pc Ls (x1 :: st)) := by
  subst hp
  exact Go.step (fun T t hT hx hc q => XS.astoreN hT hx rfl (hb hc hd) rfl hr hl q) G
theorem g_astore {i : Nat} {x1 : Value} (hd : decode bs pc = .ok (.astore i, 2)) (hp : pc + 2 = pc') (hr : x1.isRef = true) (hl : storeLocals Ls i x1 = some Ls') (G : Go X R Z a0 EL nw y bs ml rt Q kc ks sf h k n (mkF X.m pc' Ls' (st))) : Go X R Z a0 EL nw y bs ml rt Q kc ks sf h k n (mkF X.m pc Ls (x1 :: st)) := by
  subst hp
  exact Go.step (fun T t hT hx hc q => XS.astore hT hx rfl (hb hc hd) rfl hr hl q) G
theorem g_iinc {i : Nat} {cst : Int} {x1 : Int32} (hd : decode bs pc = .ok (.iinc i cst, 3)) (hp : pc + 3 = pc') (hv : Ls[i]? = some (.val (.int x1))) (hl : storeLocals Ls i (.int (x1 + Int32.ofInt cst)) = some Ls') (G : Go X R Z a0 EL nw y bs ml rt Q kc ks sf h k n (mkF X.m pc' Ls' st)) : Go X R Z a0 EL nw y bs ml rt Q kc ks sf h k n (mkF X.m pc Ls st) := by
  subst hp
  exact Go.step (fun T t hT hx hc q => XS.iinc hT hx rfl (hb hc hd) hv hl q) G
theorem g_goto {o : Int} (hd : decode bs pc = .ok (.goto o, 3)) (ho : 0 ≤ (pc : Int) + o) (hp : ((pc : Int) + o).toNat = pc') (G : Go X R Z a0 EL nw y bs ml rt Q kc ks sf h k n (mkF X.m pc' Ls st)) : Go X R Z a0 EL nw y bs ml rt Q kc ks sf h k n (mkF X.m pc Ls st) :=
  Go.step (fun T t hT hx hc q => XS.goto hT hx rfl rfl (hb hc hd) ho hp q) G
theorem g_icmpeq {o : Int} {x1 x2 : Int32} (hd : decode bs pc = .ok (.if_icmp .eq o, 3)) (hp : pc + 3 = pc') (ho : 0 ≤ (pc : Int) + o) (hp2 : ((pc : Int) + o).toNat = pc2) (Gn : ¬ x1 = x2 → Go X R Z a0 EL nw y bs ml rt Q kc ks sf h k n (mkF X.m pc' Ls st)) (Gy : x1 = x2 → Go X R Z a0 EL nw y bs ml rt Q kc ks sf h k n (mkF X.m pc2 Ls st)) : Go X R Z a0 EL nw y bs ml rt Q kc ks sf h k n (mkF X.m pc Ls (.int x2 :: .int x1 :: st)) := by
  subst hp
  by_cases q : x1 = x2
  · exact Go.step (fun T t hT hx hc r => XS.icmpYes hT hx rfl rfl (hb hc hd) rfl ((teq q).1) ho hp2 r) (Gy q)
  · have q : ¬ x1 = x2 := q
    exact Go.step (fun T t hT hx hc r => XS.icmpNo hT hx rfl (hb hc hd) rfl ((feq q).1) r) (Gn q)
theorem g_ifeq {o : Int} {x1 : Int32} (hd : decode bs pc = .ok (.ifCond .eq o, 3)) (hp : pc + 3 = pc') (ho : 0 ≤ (pc : Int) + o) (hp2 : ((pc : Int) + o).toNat = pc2) (Gn : ¬ x1 = 0 → Go X R Z a0 EL nw y bs ml rt Q kc ks sf h k n (mkF X.m pc' Ls st)) (Gy : x1 = 0 → Go X R Z a0 EL nw y bs ml rt Q kc ks sf h k n (mkF X.m pc2 Ls st)) : Go X R Z a0 EL nw y bs ml rt Q kc ks sf h k n (mkF X.m pc Ls (.int x1 :: st)) := by
  subst hp
  by_cases q : x1 = 0
  · exact Go.step (fun T t hT hx hc r => XS.ifYes hT hx rfl rfl (hb hc hd) rfl (by rw [if0]; exact (teq q).1) ho hp2 r) (Gy q)
  · have q : ¬ x1 = 0 := q
    exact Go.step (fun T t hT hx hc r => XS.ifNo hT hx rfl (hb hc hd) rfl (by rw [if0]; exact (feq q).1) r) (Gn q)
theorem g_icmpne {o : Int} {x1 x2 : Int32} (hd : decode bs pc = .ok (.if_icmp .ne o, 3)) (hp : pc + 3 = pc') (ho : 0 ≤ (pc : Int) + o) (hp2 : ((pc : Int) + o).toNat = pc2) (Gn : x1 = x2 → Go X R Z a0 EL nw y bs ml rt Q kc ks sf h k n (mkF X.m pc' Ls st)) (Gy : ¬ x1 = x2 → Go X R Z a0 EL nw y bs ml rt Q kc ks sf h k n (mkF X.m pc2 Ls st)) : Go X R Z a0 EL nw y bs ml rt Q kc ks sf h k n (mkF X.m pc Ls (.int x2 :: .int x1 :: st)) := by
  subst hp
  by_cases q : ¬ x1 = x2
  · exact Go.step (fun T t hT hx hc r => XS.icmpYes hT hx rfl rfl (hb hc hd) rfl ((feq q).2) ho hp2 r) (Gy q)
  · have q : x1 = x2 := Decidable.not_not.mp q
    exact Go.step (fun T t hT hx hc r => XS.icmpNo hT hx rfl (hb hc hd) rfl ((teq q).2) r) (Gn q)
theorem g_ifne {o : Int} {x1 : Int32} (hd : decode bs pc = .ok (.ifCond .ne o, 3)) (hp : pc + 3 = pc') (ho : 0 ≤ (pc : Int) + o) (hp2 : ((pc : Int) + o).toNat = pc2) (Gn : x1 = 0 → Go X R Z a0 EL nw y bs ml rt Q kc ks sf h k n (mkF X.m pc' Ls st)) (Gy : ¬ x1 = 0 → Go X R Z a0 EL nw y bs ml rt Q kc ks sf h k n (mkF X.m pc2 Ls st)) : Go X R Z a0 EL nw y bs ml rt Q kc ks sf h k n (mkF X.m pc Ls (.int x1 :: st)) := by
  subst hp
  by_cases q : ¬ x1 = 0
  · exact Go.step (fun T t hT hx hc r => XS.ifYes hT hx rfl rfl (hb hc hd) rfl (by rw [if0]; exact (feq q).2) ho hp2 r) (Gy q)
  · have q : x1 = 0 := Decidable.not_not.mp q
    exact Go.step (fun T t hT hx hc r => XS.ifNo hT hx rfl (hb hc hd) rfl (by rw [if0]; exact (teq q).2) r) (Gn q)
theorem g_icmplt {o : Int} {x1 x2 : Int32} (hd : decode bs pc = .ok (.if_icmp .lt o, 3)) (hp : pc + 3 = pc') (ho : 0 ≤ (pc : Int) + o) (hp2 : ((pc : Int) + o).toNat = pc2) (Gn : ¬ x1 < x2 → Go X R Z a0 EL nw y bs ml rt Q kc ks sf h k n (mkF X.m pc' Ls st)) (Gy : x1 < x2 → Go X R Z a0 EL nw y bs ml rt Q kc ks sf h k n (mkF X.m pc2 Ls st)) : Go X R Z a0 EL nw y bs ml rt Q kc ks sf h k n (mkF X.m pc Ls (.int x2 :: .int x1 :: st)) := by
  subst hp
  by_cases q : x1 < x2
  · exact Go.step (fun T t hT hx hc r => XS.icmpYes hT hx rfl rfl (hb hc hd) rfl ((tlt q).1) ho hp2 r) (Gy q)
  · have q : ¬ x1 < x2 := q
    exact Go.step (fun T t hT hx hc r => XS.icmpNo hT hx rfl (hb hc hd) rfl ((flt q).1) r) (Gn q)
theorem g_iflt {o : Int} {x1 : Int32} (hd : decode bs pc = .ok (.ifCond .lt o, 3)) (hp : pc + 3 = pc') (ho : 0 ≤ (pc : Int) + o) (hp2 : ((pc : Int) + o).toNat = pc2) (Gn : ¬ x1 < 0 → Go X R Z a0 EL nw y bs ml rt Q kc ks sf h k n (mkF X.m pc' Ls st)) (Gy : x1 < 0 → Go X R Z a0 EL nw y bs ml rt Q kc ks sf h k n (mkF X.m pc2 Ls st)) : Go X R Z a0 EL nw y bs ml rt Q kc ks sf h k n (mkF X.m pc Ls (.int x1 :: st)) := by
  subst hp
  by_cases q : x1 < 0
  · exact Go.step (fun T t hT hx hc r => XS.ifYes hT hx rfl rfl (hb hc hd) rfl (by rw [if0]; exact (tlt q).1) ho hp2 r) (Gy q)
  · have q : ¬ x1 < 0 := q
    exact Go.step (fun T t hT hx hc r => XS.ifNo hT hx rfl (hb hc hd) rfl (by rw [if0]; exact (flt q).1) r) (Gn q)
theorem g_icmpge {o : Int} {x1 x2 : Int32} (hd : decode bs pc = .ok (.if_icmp .ge o, 3)) (hp : pc + 3 = pc') (ho : 0 ≤ (pc : Int) + o) (hp2 : ((pc : Int) + o).toNat = pc2) (Gn : x1 < x2 → Go X R Z a0 EL nw y bs ml rt Q kc ks sf h k n (mkF X.m pc' Ls st)) (Gy : ¬ x1 < x2 → Go X R Z a0 EL nw y bs ml rt Q kc ks sf h k n (mkF X.m pc2 Ls st)) : Go X R Z a0 EL nw y bs ml rt Q kc ks sf h k n (mkF X.m pc Ls (.int x2 :: .int x1 :: st)) := by
  subst hp
  by_cases q : ¬ x1 < x2
  · exact Go.step (fun T t hT hx hc r => XS.icmpYes hT hx rfl rfl (hb hc hd) rfl ((flt q).2.1) ho hp2 r) (Gy q)
  · have q : x1 < x2 := Decidable.not_not.mp q
    exact Go.step (fun T t hT hx hc r => XS.icmpNo hT hx rfl (hb hc hd) rfl ((tlt q).2.1) r) (Gn q)
theorem g_ifge {o : Int} {x1 : Int32} (hd : decode bs pc = .ok (.ifCond .ge o, 3)) (hp : pc + 3 = pc') (ho : 0 ≤ (pc : Int) + o) (hp2 : ((pc : Int) + o).toNat = pc2) (Gn : x1 < 0 → Go X R Z a0 EL nw y bs ml rt Q kc ks sf h k n (mkF X.m pc' Ls st)) (Gy : ¬ x1 < 0 → Go X R Z a0 EL nw y bs ml rt Q kc ks sf h k n (mkF X.m pc2 Ls st)) : Go X R Z a0 EL nw y bs ml rt Q kc ks sf h k n (mkF X.m pc Ls (.int x1 :: st)) := by
  subst hp
  by_cases q : ¬ x1 < 0
  · exact Go.step (fun T t hT hx hc r => XS.ifYes hT hx rfl rfl (hb hc hd) rfl (by rw [if0]; exact (flt q).2.1) ho hp2 r) (Gy q)
  · have q : x1 < 0 := Decidable.not_not.mp q
    exact Go.step (fun T t hT hx hc r => XS.ifNo hT hx rfl (hb hc hd) rfl (by rw [if0]; exact (tlt q).2.1) r) (Gn q)
theorem g_icmpgt {o : Int} {x1 x2 : Int32} (hd : decode bs pc = .ok (.if_icmp .gt o, 3)) (hp : pc + 3 = pc') (ho : 0 ≤ (pc : Int) + o) (hp2 : ((pc : Int) + o).toNat = pc2) (Gn : ¬ x2 < x1 → Go X R Z a0 EL nw y bs ml rt Q kc ks sf h k n (mkF X.m pc' Ls st)) (Gy : x2 < x1 → Go X R Z a0 EL nw y bs ml rt Q kc ks sf h k n (mkF X.m pc2 Ls st)) : Go X R Z a0 EL nw y bs ml rt Q kc ks sf h k n (mkF X.m pc Ls (.int x2 :: .int x1 :: st)) := by
  subst hp
  by_cases q : x2 < x1
  · exact Go.step (fun T t hT hx hc r => XS.icmpYes hT hx rfl rfl (hb hc hd) rfl ((tlt q).2.2.1) ho hp2 r) (Gy q)
  · have q : ¬ x2 < x1 := q
    exact Go.step (fun T t hT hx hc r => XS.icmpNo hT hx rfl (hb hc hd) rfl ((flt q).2.2.1) r) (Gn q)
theorem g_ifgt {o : Int} {x1 : Int32} (hd : decode bs pc = .ok (.ifCond .gt o, 3)) (hp : pc + 3 = pc') (ho : 0 ≤ (pc : Int) + o) (hp2 : ((pc : Int) + o).toNat = pc2) (Gn : ¬ 0 < x1 → Go X R Z a0 EL nw y bs ml rt Q kc ks sf h k n (mkF X.m pc' Ls st)) (Gy : 0 < x1 → Go X R Z a0 EL nw y bs ml rt Q kc ks sf h k n (mkF X.m pc2 Ls st)) : Go X R Z a0 EL nw y bs ml rt Q kc ks sf h k n (mkF X.m pc Ls (.int x1 :: st)) := by
  subst hp
  by_cases q : 0 < x1
  · exact Go.step (fun T t hT hx hc r => XS.ifYes hT hx rfl rfl (hb hc hd) rfl (by rw [if0]; exact (tlt q).2.2.1) ho hp2 r) (Gy q)
  · have q : ¬ 0 < x1 := q
    exact Go.step (fun T t hT hx hc r => XS.ifNo hT hx rfl (hb hc hd) rfl (by rw [if0]; exact (flt q).2.2.1) r) (Gn q)
theorem g_icmple {o : Int} {x1 x2 : Int32} (hd : decode bs pc = .ok (.if_icmp .le o, 3)) (hp : pc + 3 = pc') (ho : 0 ≤ (pc : Int) + o) (hp2 : ((pc : Int) + o).toNat = pc2) (Gn : x2 < x1 → Go X R Z a0 EL nw y bs ml rt Q kc ks sf h k n (mkF X.m pc' Ls st)) (Gy : ¬ x2 < x1 → Go X R Z a0 EL nw y bs ml rt Q kc ks sf h k n (mkF X.m pc2 Ls st)) : Go X R Z a0 EL nw y bs ml rt Q kc ks sf h k n (mkF X.m pc Ls (.int x2 :: .int x1 :: st)) := by
  subst hp
  by_cases q : ¬ x2 < x1
  · exact Go.step (fun T t hT hx hc r => XS.icmpYes hT hx rfl rfl (hb hc hd) rfl ((flt q).2.2.2) ho hp2 r) (Gy q)
  · have q : x2 < x1 := Decidable.not_not.mp q
    exact Go.step (fun T t hT hx hc r => XS.icmpNo hT hx rfl (hb hc hd) rfl ((tlt q).2.2.2) r) (Gn q)
theorem g_ifle {o : Int} {x1 : Int32} (hd : decode bs pc = .ok (.ifCond .le o, 3)) (hp : pc + 3 = pc') (ho : 0 ≤ (pc : Int) + o) (hp2 : ((pc : Int) + o).toNat = pc2) (Gn : 0 < x1 → Go X R Z a0 EL nw y bs ml rt Q kc ks sf h k n (mkF X.m pc' Ls st)) (Gy : ¬ 0 < x1 → Go X R Z a0 EL nw y bs ml rt Q kc ks sf h k n (mkF X.m pc2 Ls st)) : Go X R Z a0 EL nw y bs ml rt Q kc ks sf h k n (mkF X.m pc Ls (.int x1 :: st)) := by
  subst hp
  by_cases q : ¬ 0 < x1
  · exact Go.step (fun T t hT hx hc r => XS.ifYes hT hx rfl rfl (hb hc hd) rfl (by rw [if0]; exact (flt q).2.2.2) ho hp2 r) (Gy q)
  · have q : 0 < x1 := Decidable.not_not.mp q
    exact Go.step (fun T t hT hx hc r => XS.ifNo hT hx rfl (hb hc hd) rfl (by rw [if0]; exact (tlt q).2.2.2) r) (Gn q)
theorem g_ifnullY {o : Int} (hd : decode bs pc = .ok (.ifnull o, 3)) (ho : 0 ≤ (pc : Int) + o) (hp2 : ((pc : Int) + o).toNat = pc2) (G : Go X R Z a0 EL nw y bs ml rt Q kc ks sf h k n (mkF X.m pc2 Ls st)) : Go X R Z a0 EL nw y bs ml rt Q kc ks sf h k n (mkF X.m pc Ls (.null :: st)) :=
  Go.step (fun T t hT hx hc r => XS.ifnullYes hT hx rfl rfl (hb hc hd) rfl ho hp2 r) G
theorem g_ifnullN {o : Int} {b : Addr} (hd : decode bs pc = .ok (.ifnull o, 3)) (hp : pc + 3 = pc') (G : Go X R Z a0 EL nw y bs ml rt Q kc ks sf h k n (mkF X.m pc' Ls st)) : Go X R Z a0 EL nw y bs ml rt Q kc ks sf h k n (mkF X.m pc Ls (.ref b :: st)) := by
  subst hp
  exact Go.step (fun T t hT hx hc r => XS.ifnullNo hT hx rfl (hb hc hd) rfl r) G
theorem g_ifnonnullY {o : Int} {b : Addr} (hd : decode bs pc = .ok (.ifnonnull o, 3)) (ho : 0 ≤ (pc : Int) + o) (hp2 : ((pc : Int) + o).toNat = pc2) (G : Go X R Z a0 EL nw y bs ml rt Q kc ks sf h k n (mkF X.m pc2 Ls st)) : Go X R Z a0 EL nw y bs ml rt Q kc ks sf h k n (mkF X.m pc Ls (.ref b :: st)) :=
  Go.step (fun T t hT hx hc r => XS.ifnonnullYes hT hx rfl rfl (hb hc hd) rfl ho hp2 r) G
theorem g_ifnonnullN {o : Int} (hd : decode bs pc = .ok (.ifnonnull o, 3)) (hp : pc + 3 = pc') (G : Go X R Z a0 EL nw y bs ml rt Q kc ks sf h k n (mkF X.m pc' Ls st)) : Go X R Z a0 EL nw y bs ml rt Q kc ks sf h k n (mkF X.m pc Ls (.null :: st)) := by
  subst hp
  exact Go.step (fun T t hT hx hc r => XS.ifnonnullNo hT hx rfl (hb hc hd) rfl r) G
theorem g_acmp {cd : ClassFile.ACond} {o : Int} {x1 x2 : Value} (hd : decode bs pc = .ok (.if_acmp cd o, 3)) (hp : pc + 3 = pc') (ho : 0 ≤ (pc : Int) + o) (hp2 : ((pc : Int) + o).toNat = pc2) (hr1 : x1.isRef = true) (hr2 : x2.isRef = true) (Gn : XT.acmp cd x1 x2 = false → Go X R Z a0 EL nw y bs ml rt Q kc ks sf h k n (mkF X.m pc' Ls st)) (Gy : XT.acmp cd x1 x2 = true → Go X R Z a0 EL nw y bs ml rt Q kc ks sf h k n (mkF X.m pc2 Ls st)) : Go X R Z a0 EL nw y bs ml rt Q kc ks sf h k n (mkF X.m pc Ls (x2 :: x1 :: st)) := by
  subst hp
  cases q : XT.acmp cd x1 x2 with
  | true => exact Go.step (fun T t hT hx hc r => XT.acmpYes hT hx rfl rfl (hb hc hd) rfl hr1 hr2 q ho hp2 r) (Gy q)
  | false => exact Go.step (fun T t hT hx hc r => XT.acmpNo hT hx rfl (hb hc hd) rfl hr1 hr2 q r) (Gn q)
/-! returns -/
theorem Go.out {v : Option Value} (hv : rt = none → v = none) (hk : Nat.ble k kc = true) (hn : Nat.ble n ks = true) (hQ : Q v h)
    (stp : ∀ {s0 : State} {L : List Loc} {T : State} {fs : List Frame}, Stand X.p X.l X.e R s0 X.m X.args X.below X.meth X.c T L k n → X.p.tables.exec = Jvm.exec → X.c.code = bs → X.meth.sig.returnType = rt → (∀ (f : JFrame) (acts : List Action), f.method = X.m → f.locked = none → f.entered = [] → (doReturn X.e (T.setTop f) acts v).1 = T.setFrames fs) → Steps X.p.tables X.e X.below (T.setTop g) (T.setFrames fs)) : Go X R Z a0 EL nw y bs ml rt Q kc ks sf h k n g := fun T S => by
  obtain ⟨⟨hx, hc, hml, hrt, hnm, hlk, hEL⟩, vm0, L, X1, rfl, hS, hZ, hown, hC, hF, hE, hs, hN⟩ := S
  obtain ⟨fs, hr, hrun, hended, hW, hsame⟩ := X1.leave (v := v) (fun q => hv (hrt ▸ q)) hlk
  refine ⟨_, _, stp X1 hx hc hrt hr, hrun, hended, v, L, rfl, ⟨hQ, hF, hE⟩, hC.trans (show CHr Z EL vm0 T.heap T.vm T.heap from CHv.at X1 hZ hEL hC.1), fun q => State.WarmedH.trans (hN q) hW, ⟨v, rfl⟩, State.Warmed39.trans (t := X.s.setVm vm0) hS.1 hW.wide, fun j q hj hp => ?_, (hsame.setVm X.s.vm).mono (ble hk) (ble hn)⟩
  exact hS.2 j q hj (by have := hW.interned_eq; rw [this] at hp; exact hp)
theorem g_ireturn {w : Int32} {t : FieldType} (hd : decode bs pc = .ok (.ireturn, 1)) (hrt : rt = some t) (ht : t = .int ∨ t = .boolean ∨ t = .byte ∨ t = .char ∨ t = .short) (hw : narrow t (.int w) = .int w) (hk : Nat.ble k kc = true) (hn : Nat.ble n ks = true) (hQ : Q (some (.int w)) h) : Go X R Z a0 EL nw y bs ml rt Q kc ks sf h k n (mkF X.m pc Ls (.int w :: st)) :=
  Go.out (fun q => by rw [hrt] at q; cases q) hk hn hQ fun X1 hx hc hr hl => retOut X1 hx (hr.trans hrt) hw (Or.inl ⟨rfl, ht, _, rfl⟩) (hb hc hd) hl
theorem g_lreturn {w : Int64} (hd : decode bs pc = .ok (.lreturn, 1)) (hrt : rt = some .long) (hk : Nat.ble k kc = true) (hn : Nat.ble n ks = true) (hQ : Q (some (.long w)) h) : Go X R Z a0 EL nw y bs ml rt Q kc ks sf h k n (mkF X.m pc Ls (.long w :: st)) :=
  Go.out (fun q => by rw [hrt] at q; cases q) hk hn hQ fun X1 hx hc hr hl => retOut X1 hx (hr.trans hrt) rfl (Or.inr (Or.inl ⟨rfl, rfl, _, rfl⟩)) (hb hc hd) hl
theorem g_areturn {w : Value} {t : FieldType} (hd : decode bs pc = .ok (.areturn, 1)) (hrt : rt = some t) (ht : t.isReference = true) (hw : w.isRef = true) (hnw : narrow t w = w) (hk : Nat.ble k kc = true) (hn : Nat.ble n ks = true) (hQ : Q (some w) h) : Go X R Z a0 EL nw y bs ml rt Q kc ks sf h k n (mkF X.m pc Ls (w :: st)) :=
  Go.out (fun q => by rw [hrt] at q; cases q) hk hn hQ fun X1 hx hc hr hl => retOut X1 hx (hr.trans hrt) hnw (Or.inr (Or.inr (Or.inr (Or.inr ⟨rfl, ht, hw⟩)))) (hb hc hd) hl
theorem g_return (hd : decode bs pc = .ok (.return_, 1)) (hrt : rt = none) (hk : Nat.ble k kc = true) (hn : Nat.ble n ks = true) (hQ : Q none h) : Go X R Z a0 EL nw y bs ml rt Q kc ks sf h k n (mkF X.m pc Ls []) :=
  Go.out (fun _ => rfl) hk hn hQ fun X1 hx hc hr hl => X1.returnOut hx (hr.trans hrt) (hb hc hd) hl
/-! steps that move the heap, the tables not interned anew -/
theorem Spot.next {vm0 : Vm} {L' : List Loc} (F : Fix X Z a0 EL y bs ml rt) (X1 : Stand X.p X.l X.e R (X.s.setVm vm0) X.m X.args X.below X.meth X.c T' L' k' n') (e : T'.heap = h') (hS : X.s.Since vm0 h.size) (hZ : Z.Warmed39 vm0) (hown : vm0.findClass y.cls = some X.m.cls) (hC : CHr Z EL X.s.vm X.s.heap vm0 h) (hC' : CHr Z EL vm0 h vm0 h') (hF : Fr Z.heap.size L') (hE : Ext Z.heap h') (hs : ∀ x ∈ sf, x < h.size ∧ Safe Z EL vm0 h x) (hN : nw = true → X.s.WarmedH vm0) : Spot X R Z a0 EL nw y bs ml rt sf T' h' k' n' :=
  ⟨F, vm0, L', X1, e, ⟨hS.1, hS.2.mono hC'.2.1⟩, hZ, hown, hC.trans hC', hF, hE, fun x hx => ⟨Nat.lt_of_lt_of_le (hs x hx).1 hC'.2.1, hC'.safe (hs x hx).1 (hs x hx).2⟩, hN⟩
theorem ext_trans {h1 h2 h3 : Heap} (E : Ext h1 h2) (E' : Ext h2 h3) : Ext h1 h3 := ⟨Nat.le_trans E.1 E'.1, fun a c q => E'.2 a c (E.2 a c q)⟩
theorem ext_refl (h1 : Heap) : Ext h1 h1 := ⟨Nat.le_refl _, fun _ _ q => q⟩
/-- what is written lies behind the first heap's end: the first heap stands -/
theorem ext_keep {h1 h2 h3 : Heap} {ws : List Addr} (E : Ext h1 h2) (K : Keep h2 h3 ws) (q : ∀ x ∈ ws, h1.size ≤ x) : Ext h1 h3 := ⟨Nat.le_trans E.1 K.1, fun a c r => K.2.1 a c (E.2 a c r) fun z => absurd (Array.getElem?_eq_some_iff.mp r).1 (Nat.not_lt.mpr (q a z))⟩
theorem keep_ext {h1 h2 : Heap} (E : Ext h1 h2) : Keep h1 h2 [] := (Keep.refl _ _).ext E
theorem g_new {C : String} {ix sz : Nat} (hd : decode bs pc = .ok (.new ix, 3)) (hp : pc + 3 = pc') (w : (Jvm.Cond.classLink y.cls ix C).before a0 Z = true) (wi : (Jvm.Cond.instantiable C sz).before a0 Z = true) (wz : (Jvm.Cond.initialized C).before a0 Z = true) (hk : Nat.ble (k + 1) R.cells = true) (hn : Nat.ble (n + sz) R.slots = true)
    (G : ∀ h' a, a = h.size → Ext h h' → Exa Z h' a C → (∀ {O nm d : String} {ty : FieldType}, Laid Z a0 C O nm d → parseFieldDescriptor d = some ty → Fld Z h' a O nm d (defaultValue ty)) → Go X R Z a0 EL nw y bs ml rt Q kc ks (a :: sf) h' (k + 1) (n + sz) (mkF X.m pc' Ls (.ref a :: st))) : Go X R Z a0 EL nw y bs ml rt Q kc ks sf h k n (mkF X.m pc Ls st) := fun T S => by
  subst hp
  obtain ⟨F, vm0, L, X1, eT, hS, hZ, hown, hC, hF, hE, hs, hN⟩ := S
  obtain ⟨T', h', X2, e2, E2, A2, D2, -, stp⟩ := newO X1 F.1 (Z := Z) hZ hown w wi wz eT (g := mkF X.m pc Ls st) rfl (hb F.2.1 hd) (ble hk) (ble hn)
  refine (G h' _ rfl E2 A2 D2 T' ?_).back stp
  exact ⟨F, vm0, _, X2, e2, ⟨hS.1, hS.2.mono E2.1⟩, hZ, hown, hC.trans (CHr.ext E2 hC.1), hF, ext_trans hE E2, fun x hx => by
    rcases List.mem_cons.mp hx with rfl | hx
    · exact ⟨A2.lt, Safe.ext E2 hC.1 (Safe.new (Nat.le_refl _))⟩
    · exact ⟨Nat.lt_of_lt_of_le (hs x hx).1 E2.1, Safe.ext E2 hC.1 (hs x hx).2⟩, hN⟩
theorem g_newarray {aty : ArrayType} {z : Int32} {cap : Nat} (hd : decode bs pc = .ok (.newarray aty, 2)) (hp : pc + 2 = pc') (w : (Jvm.Cond.arrayClass (newarray.typeOf aty)).before a0 Z = true) (hz : ¬ z < 0) (hcap : z.toNatClampNeg = cap) (h8 : Nat.ble (cap * 8) 536870912 = true) (hk : Nat.ble (k + 1) R.cells = true) (hn : Nat.ble (n + cap) R.slots = true)
    (G : ∀ h' a kA, a = h.size → Ext h h' → Arv Z h' a kA (newarray.typeOf aty) z (List.replicate cap (defaultValue (newarray.typeOf aty))) (defaultValue (newarray.typeOf aty)) → Go X R Z a0 EL nw y bs ml rt Q kc ks (a :: sf) h' (k + 1) (n + cap) (mkF X.m pc' Ls (.ref a :: st))) : Go X R Z a0 EL nw y bs ml rt Q kc ks sf h k n (mkF X.m pc Ls (.int z :: st)) := fun T S => by
  subst hp
  obtain ⟨F, vm0, L, X1, eT, hS, hZ, hown, hC, hF, hE, hs, hN⟩ := S
  obtain ⟨T', h', cA, X2, e2, E2, A2, stp⟩ := newP X1 F.1 (Z := Z) hZ w eT (g := mkF X.m pc Ls (.int z :: st)) rfl (hb F.2.1 hd) rfl hz (cap := cap) (Nat.le_of_eq hcap) (ble h8) (ble hk) (ble hn)
  have A3 := (Arv.new A2 hz).pad (vs' := List.replicate cap (defaultValue (newarray.typeOf aty))) (fun i => by have := pad_rep [] (defaultValue (newarray.typeOf aty)) cap i; simpa using this)
  refine (G h' _ cA rfl E2 A3 T' ?_).back stp
  exact ⟨F, vm0, _, X2, e2, ⟨hS.1, hS.2.mono E2.1⟩, hZ, hown, hC.trans (CHr.ext E2 hC.1), hF, ext_trans hE E2, fun x hx => by
    rcases List.mem_cons.mp hx with rfl | hx
    · exact ⟨A3.lt, Safe.ext E2 hC.1 (Safe.new (Nat.le_refl _))⟩
    · exact ⟨Nat.lt_of_lt_of_le (hs x hx).1 E2.1, Safe.ext E2 hC.1 (hs x hx).2⟩, hN⟩
/-- newarray again, with the array's class told by its name -/
theorem g_newarrayX {aty : ArrayType} {z : Int32} {cap : Nat} (hd : decode bs pc = .ok (.newarray aty, 2)) (hp : pc + 2 = pc') (w : (Jvm.Cond.arrayClass (newarray.typeOf aty)).before a0 Z = true) (hz : ¬ z < 0) (hcap : z.toNatClampNeg = cap) (h8 : Nat.ble (cap * 8) 536870912 = true) (hk : Nat.ble (k + 1) R.cells = true) (hn : Nat.ble (n + cap) R.slots = true)
    (G : ∀ h' a kA, a = h.size → Ext h h' → Z.vm.findClass ("[" ++ (newarray.typeOf aty).toString) = some kA → Arv Z h' a kA (newarray.typeOf aty) z (List.replicate cap (defaultValue (newarray.typeOf aty))) (defaultValue (newarray.typeOf aty)) → Go X R Z a0 EL nw y bs ml rt Q kc ks (a :: sf) h' (k + 1) (n + cap) (mkF X.m pc' Ls (.ref a :: st))) : Go X R Z a0 EL nw y bs ml rt Q kc ks sf h k n (mkF X.m pc Ls (.int z :: st)) := fun T S => by
  subst hp
  obtain ⟨F, vm0, L, X1, rfl, hS, hZ, hown, hC, hF, hE, hs, hN⟩ := S
  have hcb : componentBytes (newarray.typeOf aty) ≤ 8 := by cases aty <;> decide
  obtain ⟨cA, kA, comp, h1, h2, h3, X2, stp⟩ := X1.newarrayPrim F.1 (mvA hZ w) (g := mkF X.m pc Ls (.int z :: st)) rfl (hb F.2.1 hd) rfl hz (Nat.le_trans (Nat.mul_le_mul (Nat.le_of_eq hcap) hcb) (ble h8)) (ble hk) (by have := ble hn; omega)
  have h1 : vm0.findClass _ = some cA := h1
  rw [hZ.alike.findClass] at h1
  obtain ⟨kZ, z1, -⟩ := Vm.findClass_spec h1
  obtain ⟨k', z2, z3⟩ := hZ.alike.2.2 _ _ z1
  cases h2.symm.trans z2
  have E2 : Ext T.heap (T.heap.push (newA cA (newarray.typeOf aty) z)) := ⟨by simp, fun a c q => by rw [Array.getElem?_push_lt (Array.getElem?_eq_some_iff.mp q).1]; exact (Array.getElem?_eq_getElem _).symm.trans q⟩
  have A2 : Arr Z (T.heap.push (newA cA (newarray.typeOf aty) z)) T.heap.size (newA cA (newarray.typeOf aty) z) (newarray.typeOf aty) := ⟨by simp, ⟨by simp [newA], kZ, z1, comp, by rw [← h3, z3]⟩, by simp [newA]⟩
  have A3 := (Arv.new A2 hz).pad (vs' := List.replicate cap (defaultValue (newarray.typeOf aty))) (fun i => by have := pad_rep [] (defaultValue (newarray.typeOf aty)) cap i; simpa using this)
  refine (G _ _ cA rfl E2 h1 A3 _ ?_).back stp
  exact ⟨F, vm0, _, X2.more (Nat.le_refl _) (by omega), rfl, ⟨hS.1, hS.2.mono E2.1⟩, hZ, hown, hC.trans (CHr.ext E2 hC.1), hF, ext_trans hE E2, fun x hx => by
    rcases List.mem_cons.mp hx with rfl | hx
    · exact ⟨A3.lt, Safe.ext E2 hC.1 (Safe.new (Nat.le_refl _))⟩
    · exact ⟨Nat.lt_of_lt_of_le (hs x hx).1 E2.1, Safe.ext E2 hC.1 (hs x hx).2⟩, hN⟩
theorem Arv.exa {Z : State} {h : Heap} {a : Addr} {kA : ClassId} {ty : FieldType} {z : Int32} {vs : List Value} {d : Value} {C : String} (A : Arv Z h a kA ty z vs d) (q : Z.vm.findClass C = some kA) : Exa Z h a C := by
  obtain ⟨c, ⟨q1, ⟨q2, kz, q3, co, q4⟩, q5⟩, rfl, -⟩ := A
  exact ⟨c, kz, q1, q, q3, by cases hv : c.vm <;> first | rfl | exact absurd hv (q2 _), fun e => by rw [q4] at e; cases e⟩
theorem g_anewarray {C : String} {ix : Nat} {z : Int32} {cap : Nat} (hd : decode bs pc = .ok (.anewarray ix, 3)) (hp : pc + 3 = pc') (w : (Jvm.Cond.classLink y.cls ix C).before a0 Z = true) (w2 : (Jvm.Cond.arrayOver (.object C)).before a0 Z = true) (hz : ¬ z < 0) (hcap : z.toNatClampNeg = cap) (h8 : Nat.ble (cap * 8) 536870912 = true) (hk : Nat.ble (k + 1) R.cells = true) (hn : Nat.ble (n + cap) R.slots = true)
    (G : ∀ h' a kA, a = h.size → Ext h h' → Ovr Z kA C → Arv Z h' a kA (.object C) z (List.replicate cap .null) .null → Go X R Z a0 EL nw y bs ml rt Q kc ks (a :: sf) h' (k + 1) (n + cap) (mkF X.m pc' Ls (.ref a :: st))) : Go X R Z a0 EL nw y bs ml rt Q kc ks sf h k n (mkF X.m pc Ls (.int z :: st)) := fun T S => by
  subst hp
  obtain ⟨F, vm0, L, X1, eT, hS, hZ, hown, hC, hF, hE, hs, hN⟩ := S
  obtain ⟨T', h', cA, X2, e2, E2, A2, O2, stp⟩ := newR X1 F.1 (Z := Z) hZ hown w w2 eT (g := mkF X.m pc Ls (.int z :: st)) rfl (hb F.2.1 hd) rfl hz (cap := cap) (Nat.le_of_eq hcap) (ble h8) (ble hk) (ble hn)
  have A3 := (Arv.new A2 hz).pad (vs' := List.replicate cap (defaultValue (.object C))) (fun i => by have := pad_rep [] (defaultValue (.object C)) cap i; simpa using this)
  refine (G h' _ cA rfl E2 O2 A3 T' ?_).back stp
  exact ⟨F, vm0, _, X2, e2, ⟨hS.1, hS.2.mono E2.1⟩, hZ, hown, hC.trans (CHr.ext E2 hC.1), hF, ext_trans hE E2, fun x hx => by
    rcases List.mem_cons.mp hx with rfl | hx
    · exact ⟨A3.lt, Safe.ext E2 hC.1 (Safe.new (Nat.le_refl _))⟩
    · exact ⟨Nat.lt_of_lt_of_le (hs x hx).1 E2.1, Safe.ext E2 hC.1 (hs x hx).2⟩, hN⟩
/-- a step over one Stand that moves nothing but the tables (narrowly) -/
theorem Go.same (stp : ∀ {vm0 : Vm} {L : List Loc} {T : State}, Fix X Z a0 EL y bs ml rt → Stand X.p X.l X.e R (X.s.setVm vm0) X.m X.args X.below X.meth X.c T L k n → T.heap = h → Z.Warmed39 vm0 → vm0.findClass y.cls = some X.m.cls →
      ∃ T', Stand X.p X.l X.e R (X.s.setVm vm0) X.m X.args X.below X.meth X.c T' L k n ∧ T'.heap = h ∧ ∀ t, Steps X.p.tables X.e X.below (T'.setTop g') t → Steps X.p.tables X.e X.below (T.setTop g) t)
    (G : Go X R Z a0 EL nw y bs ml rt Q kc ks sf h k n g') : Go X R Z a0 EL nw y bs ml rt Q kc ks sf h k n g := fun T S => by
  obtain ⟨F, vm0, L, X1, eT, hS, hZ, hown, r⟩ := S
  obtain ⟨T', X2, e2, q⟩ := stp F X1 eT hZ hown
  exact (G T' ⟨F, vm0, L, X2, e2, hS, hZ, hown, r⟩).back q
theorem g_ldcI {ix : Nat} {v : Int32} (hd : decode bs pc = .ok (.ldc ix, 2)) (hp : pc + 2 = pc') (w : (Jvm.Cond.constant y.cls ix v).before a0 Z = true) (G : Go X R Z a0 EL nw y bs ml rt Q kc ks sf h k n (mkF X.m pc' Ls (.int v :: st))) : Go X R Z a0 EL nw y bs ml rt Q kc ks sf h k n (mkF X.m pc Ls st) := by
  subst hp
  exact Go.same (fun F X1 eT hZ hown => ⟨_, X1, eT, fun t q => X1.ldcI F.1 hown (mvT hZ w) rfl (hb F.2.1 hd) q⟩) G
theorem g_ldc2J {ix : Nat} {v : Int64} (hd : decode bs pc = .ok (.ldc2_w ix, 3)) (hp : pc + 3 = pc') (w : (Jvm.Cond.constantLong y.cls ix v).before a0 Z = true) (G : Go X R Z a0 EL nw y bs ml rt Q kc ks sf h k n (mkF X.m pc' Ls (.long v :: st))) : Go X R Z a0 EL nw y bs ml rt Q kc ks sf h k n (mkF X.m pc Ls st) := by
  subst hp
  exact Go.same (fun F X1 eT hZ hown => ⟨_, X1, eT, fun t q => X1.ldc2J F.1 hown (mvT hZ w) rfl (hb F.2.1 hd) q⟩) G
/-! arrays read -/
section Arrays
variable {a : Addr} {kA : ClassId} {z j : Int32} {vs : List Value} {d v : Value}
theorem g_arraylength {ty : FieldType} (hd : decode bs pc = .ok (.arraylength, 1)) (hp : pc + 1 = pc') (A : Arv Z h a kA ty z vs d) (G : Go X R Z a0 EL nw y bs ml rt Q kc ks sf h k n (mkF X.m pc' Ls (.int z :: st))) : Go X R Z a0 EL nw y bs ml rt Q kc ks sf h k n (mkF X.m pc Ls (.ref a :: st)) := by
  subst hp
  refine Go.same (fun F X1 eT hZ hown => ⟨_, X1, eT, fun t q => ?_⟩) G
  obtain ⟨c, Ar, -, s1, n1, -⟩ := A
  refine X1.arraylength F.1 (by rw [eT]; exact Ar.1) (State.isArrayOf_alike hZ.alike Ar.2.1) (g := mkF X.m pc Ls (.ref a :: st)) rfl rfl (hb F.2.1 hd) _ ?_
  rw [len_of s1 n1]
  exact q
theorem g_caload {w : Int32} (hd : decode bs pc = .ok (.caload, 1)) (hp : pc + 1 = pc') (A : Arv Z h a kA .char z vs d) (hj : ¬ j < 0 ∧ j < z) (hv : vs.getD j.toNatClampNeg d = .int w) (G : Go X R Z a0 EL nw y bs ml rt Q kc ks sf h k n (mkF X.m pc' Ls (.int w :: st))) : Go X R Z a0 EL nw y bs ml rt Q kc ks sf h k n (mkF X.m pc Ls (.int j :: .ref a :: st)) := by
  subst hp
  refine Go.same (fun F X1 eT hZ hown => ⟨_, X1, eT, fun t q => ?_⟩) G
  obtain ⟨c, Ar, -, s1, n1, H, -⟩ := A
  exact X1.caload F.1 (by rw [eT]; exact Ar.1) (State.isArrayOf_alike hZ.alike Ar.2.1) Ar.2.2 (inb_of s1 hj) (H.at (inb_of s1 hj) hv) (g := mkF X.m pc Ls (.int j :: .ref a :: st)) rfl rfl (hb F.2.1 hd) _ q
theorem g_iaload {w : Int32} (hd : decode bs pc = .ok (.iaload, 1)) (hp : pc + 1 = pc') (A : Arv Z h a kA .int z vs d) (hj : ¬ j < 0 ∧ j < z) (hv : vs.getD j.toNatClampNeg d = .int w) (G : Go X R Z a0 EL nw y bs ml rt Q kc ks sf h k n (mkF X.m pc' Ls (.int w :: st))) : Go X R Z a0 EL nw y bs ml rt Q kc ks sf h k n (mkF X.m pc Ls (.int j :: .ref a :: st)) := by
  subst hp
  refine Go.same (fun F X1 eT hZ hown => ⟨_, X1, eT, fun t q => ?_⟩) G
  obtain ⟨c, Ar, -, s1, n1, H, -⟩ := A
  exact X1.iaload F.1 (by rw [eT]; exact Ar.1) (State.isArrayOf_alike hZ.alike Ar.2.1) Ar.2.2 (inb_of s1 hj) (H.at (inb_of s1 hj) hv) (g := mkF X.m pc Ls (.int j :: .ref a :: st)) rfl rfl (hb F.2.1 hd) _ q
theorem g_baload {w : Int32} (hd : decode bs pc = .ok (.baload, 1)) (hp : pc + 1 = pc') (A : Arv Z h a kA .byte z vs d) (hj : ¬ j < 0 ∧ j < z) (hv : vs.getD j.toNatClampNeg d = .int w) (G : Go X R Z a0 EL nw y bs ml rt Q kc ks sf h k n (mkF X.m pc' Ls (.int w :: st))) : Go X R Z a0 EL nw y bs ml rt Q kc ks sf h k n (mkF X.m pc Ls (.int j :: .ref a :: st)) := by
  subst hp
  refine Go.same (fun F X1 eT hZ hown => ⟨_, X1, eT, fun t q => ?_⟩) G
  obtain ⟨c, Ar, -, s1, n1, H, -⟩ := A
  exact X1.baloadBytes F.1 (by rw [eT]; exact Ar.1) (State.isArrayOf_alike hZ.alike Ar.2.1) Ar.2.2 (inb_of s1 hj) (H.at (inb_of s1 hj) hv) (g := mkF X.m pc Ls (.int j :: .ref a :: st)) rfl rfl (hb F.2.1 hd) _ q
theorem g_aaload {ty : FieldType} (hd : decode bs pc = .ok (.aaload, 1)) (hp : pc + 1 = pc') (A : Arv Z h a kA ty z vs d) (ht : ty.isReference = true) (hj : ¬ j < 0 ∧ j < z) (hv : vs.getD j.toNatClampNeg d = v) (G : Go X R Z a0 EL nw y bs ml rt Q kc ks sf h k n (mkF X.m pc' Ls (v :: st))) : Go X R Z a0 EL nw y bs ml rt Q kc ks sf h k n (mkF X.m pc Ls (.int j :: .ref a :: st)) := by
  subst hp
  refine Go.same (fun F X1 eT hZ hown => ⟨_, X1, eT, fun t q => ?_⟩) G
  obtain ⟨c, Ar, -, s1, n1, H, -⟩ := A
  exact X1.aaload F.1 (by rw [eT]; exact Ar.1) (State.isArrayOf_alike hZ.alike Ar.2.1) ht Ar.2.2 (inb_of s1 hj) (H.at (inb_of s1 hj) hv) (g := mkF X.m pc Ls (.int j :: .ref a :: st)) rfl rfl (hb F.2.1 hd) _ q
/-! writes: one place of one cell, made since the start, that is no literal's -/
theorem Go.write {sl : Nat} {v : Value} (ha : Z.heap.size ≤ a) (hsafe : ∀ vm, Z.Warmed39 vm → CHv Z EL vm h → (∀ x ∈ sf, x < h.size ∧ Safe Z EL vm h x) → Safe Z EL vm h a)
    (stp : ∀ {vm0 : Vm} {L : List Loc} {T : State}, Fix X Z a0 EL y bs ml rt → Stand X.p X.l X.e R (X.s.setVm vm0) X.m X.args X.below X.meth X.c T L k n → T.heap = h → Z.Warmed39 vm0 → vm0.findClass y.cls = some X.m.cls →
      ∃ T' h', Stand X.p X.l X.e R (X.s.setVm vm0) X.m X.args X.below X.meth X.c T' (L ++ [⟨a, sl⟩]) k n ∧ T'.heap = h' ∧ Wr h h' a sl v ∧ ∀ t, Steps X.p.tables X.e X.below (T'.setTop g') t → Steps X.p.tables X.e X.below (T.setTop g) t)
    (G : ∀ h', Wr h h' a sl v → Go X R Z a0 EL nw y bs ml rt Q kc ks sf h' k n g') : Go X R Z a0 EL nw y bs ml rt Q kc ks sf h k n g := fun T S => by
  obtain ⟨F, vm0, L, X1, eT, hS, hZ, hown, hC, hF, hE, hs, hN⟩ := S
  obtain ⟨T', h', X2, e2, W, q⟩ := stp F X1 eT hZ hown
  exact (G h' W T' (Spot.next F X2 e2 hS hZ hown hC (CHr.wr W (hsafe vm0 hZ hC.1 hs) hC.1) (Fr.snoc X2 hF ha) (ext_keep hE (Keep.of_wr W) (allS ha all0)) hs hN)).back q
theorem sfIn (hm : a ∈ sf) : ∀ vm, Z.Warmed39 vm → CHv Z EL vm h → (∀ x ∈ sf, x < h.size ∧ Safe Z EL vm h x) → Safe Z EL vm h a := fun _ _ _ q => (q a hm).2
theorem sfArv {ty : FieldType} (A : Arv Z h a kA ty z vs d) (ht : ty ≠ .byte) : ∀ vm, Z.Warmed39 vm → CHv Z EL vm h → (∀ x ∈ sf, x < h.size ∧ Safe Z EL vm h x) → Safe Z EL vm h a := fun _ hZ _ _ => Safe.arv hZ.alike A ht
theorem sfExa {C : String} (E : Exa Z h a C) (h1 : C ≠ "java/lang/String") (h2 : C ≠ "[B") : ∀ vm, Z.Warmed39 vm → CHv Z EL vm h → (∀ x ∈ sf, x < h.size ∧ Safe Z EL vm h x) → Safe Z EL vm h a := fun _ hZ _ _ => Safe.exa hZ.alike E h1 h2
theorem g_castore {x1 : Int32} {i : Nat} (hd : decode bs pc = .ok (.castore, 1)) (hp : pc + 1 = pc') (A : Arv Z h a kA .char z vs d) (ha : Z.heap.size ≤ a) (hj : ¬ j < 0 ∧ j < z) (hi : j.toNatClampNeg = i) (hl : i < vs.length)
    (G : ∀ h', Keep h h' [a] → Arv Z h' a kA .char z (vs.set i (.int (nar .char x1))) d → Go X R Z a0 EL nw y bs ml rt Q kc ks sf h' k n (mkF X.m pc' Ls st)) : Go X R Z a0 EL nw y bs ml rt Q kc ks sf h k n (mkF X.m pc Ls (.int x1 :: .int j :: .ref a :: st)) := by
  subst hp
  have A' := A
  obtain ⟨c, Ar, k1, s1, n1, H, G1⟩ := A'
  refine Go.write (v := .int (nar .char x1)) ha (sfArv A (by decide)) (fun F X1 eT hZ hown => stC X1 F.1 (Z := Z) hZ eT Ar (x := x1) (inb_of s1 hj) (g := mkF X.m pc Ls (.int x1 :: .int j :: .ref a :: st)) rfl rfl (hb F.2.1 hd)) (fun h' W => G h' (Keep.of_wr W) (Arv.set Ar k1 s1 n1 H G1 (fits_nar_char x1) W i hi hl))
theorem g_castoreX {x1 : Int32} {i : Nat} (hd : decode bs pc = .ok (.castore, 1)) (hp : pc + 1 = pc') (hx1 : nar .char x1 = x1) (A : Arv Z h a kA .char z vs d) (ha : Z.heap.size ≤ a) (hj : ¬ j < 0 ∧ j < z) (hi : j.toNatClampNeg = i) (hl : i < vs.length)
    (G : ∀ h', Keep h h' [a] → Arv Z h' a kA .char z (vs.set i (.int x1)) d → Go X R Z a0 EL nw y bs ml rt Q kc ks sf h' k n (mkF X.m pc' Ls st)) : Go X R Z a0 EL nw y bs ml rt Q kc ks sf h k n (mkF X.m pc Ls (.int x1 :: .int j :: .ref a :: st)) :=
  g_castore hd hp A ha hj hi hl fun h' K A' => G h' K (by rw [hx1] at A'; exact A')
theorem g_bastore {x1 : Int32} {i : Nat} (hd : decode bs pc = .ok (.bastore, 1)) (hp : pc + 1 = pc') (A : Arv Z h a kA .byte z vs d) (ha : Z.heap.size ≤ a) (hm : a ∈ sf) (hj : ¬ j < 0 ∧ j < z) (hi : j.toNatClampNeg = i) (hl : i < vs.length)
    (G : ∀ h', Keep h h' [a] → Arv Z h' a kA .byte z (vs.set i (.int (nar .byte x1))) d → Go X R Z a0 EL nw y bs ml rt Q kc ks sf h' k n (mkF X.m pc' Ls st)) : Go X R Z a0 EL nw y bs ml rt Q kc ks sf h k n (mkF X.m pc Ls (.int x1 :: .int j :: .ref a :: st)) := by
  subst hp
  obtain ⟨c, Ar, k1, s1, n1, H, G1⟩ := A
  refine Go.write (v := .int (nar .byte x1)) ha (sfIn hm) (fun F X1 eT hZ hown => stB X1 F.1 (Z := Z) hZ eT Ar (x := x1) (inb_of s1 hj) (g := mkF X.m pc Ls (.int x1 :: .int j :: .ref a :: st)) rfl rfl (hb F.2.1 hd)) (fun h' W => G h' (Keep.of_wr W) (Arv.set Ar k1 s1 n1 H G1 (fits_nar_byte x1) W i hi hl))
theorem g_iastore {x1 : Int32} {i : Nat} (hd : decode bs pc = .ok (.iastore, 1)) (hp : pc + 1 = pc') (A : Arv Z h a kA .int z vs d) (ha : Z.heap.size ≤ a) (hj : ¬ j < 0 ∧ j < z) (hi : j.toNatClampNeg = i) (hl : i < vs.length)
    (G : ∀ h', Keep h h' [a] → Arv Z h' a kA .int z (vs.set i (.int x1)) d → Go X R Z a0 EL nw y bs ml rt Q kc ks sf h' k n (mkF X.m pc' Ls st)) : Go X R Z a0 EL nw y bs ml rt Q kc ks sf h k n (mkF X.m pc Ls (.int x1 :: .int j :: .ref a :: st)) := by
  subst hp
  have A' := A
  obtain ⟨c, Ar, k1, s1, n1, H, G1⟩ := A'
  refine Go.write (v := .int x1) ha (sfArv A (by decide)) (fun F X1 eT hZ hown => stI X1 F.1 (Z := Z) hZ eT Ar (x := x1) (inb_of s1 hj) (g := mkF X.m pc Ls (.int x1 :: .int j :: .ref a :: st)) rfl rfl (hb F.2.1 hd)) (fun h' W => G h' (Keep.of_wr W) (Arv.set Ar k1 s1 n1 H G1 rfl W i hi hl))
theorem g_aastore {C : String} {w : Addr} {i : Nat} (hd : decode bs pc = .ok (.aastore, 1)) (hp : pc + 1 = pc') (A : Arv Z h a kA (.object C) z vs d) (O : Ovr Z kA C) (I : Ins Z h w C true) (ha : Z.heap.size ≤ a) (hj : ¬ j < 0 ∧ j < z) (hi : j.toNatClampNeg = i) (hl : i < vs.length)
    (G : ∀ h', Keep h h' [a] → Arv Z h' a kA (.object C) z (vs.set i (.ref w)) d → Go X R Z a0 EL nw y bs ml rt Q kc ks sf h' k n (mkF X.m pc' Ls st)) : Go X R Z a0 EL nw y bs ml rt Q kc ks sf h k n (mkF X.m pc Ls (.ref w :: .int j :: .ref a :: st)) := by
  subst hp
  have A' := A
  obtain ⟨c, Ar, k1, s1, n1, H, G1⟩ := A'
  refine Go.write (v := .ref w) ha (sfArv A (by intro q; cases q)) (fun F X1 eT hZ hown => stR X1 F.1 (Z := Z) hZ eT Ar (inb_of s1 hj) rfl (Sto.ofV Ar k1 O I) (g := mkF X.m pc Ls (.ref w :: .int j :: .ref a :: st)) rfl rfl (hb F.2.1 hd)) (fun h' W => G h' (Keep.of_wr W) (Arv.set Ar k1 s1 n1 H G1 rfl W i hi hl))
end Arrays
/-! fields -/
theorem g_getfield {O nm d : String} {ix : Nat} {a : Addr} {v : Value} (hd : decode bs pc = .ok (.getfield ix, 3)) (hp : pc + 3 = pc') (w : (Jvm.Cond.fieldLink y.cls ix O nm d).before a0 Z = true) (Fl : Fld Z h a O nm d v) (G : Go X R Z a0 EL nw y bs ml rt Q kc ks sf h k n (mkF X.m pc' Ls (v :: st))) : Go X R Z a0 EL nw y bs ml rt Q kc ks sf h k n (mkF X.m pc Ls (.ref a :: st)) := by
  subst hp
  exact Go.same (fun F X1 eT hZ hown => getF X1 F.1 (Z := Z) hZ hown (host := "") (Or.inl w) Via.refl eT Fl (g := mkF X.m pc Ls (.ref a :: st)) rfl rfl (hb F.2.1 hd)) G
theorem g_getstatic {O nm d : String} {ix : Nat} {v : Value} (hd : decode bs pc = .ok (.getstatic ix, 3)) (hp : pc + 3 = pc') (w : (Jvm.Cond.fieldLink y.cls ix O nm d).before a0 Z = true) (Fl : Sta Z Z.heap O nm d v) (G : Go X R Z a0 EL nw y bs ml rt Q kc ks sf h k n (mkF X.m pc' Ls (v :: st))) : Go X R Z a0 EL nw y bs ml rt Q kc ks sf h k n (mkF X.m pc Ls st) := by
  subst hp
  exact Go.old fun E => Go.same (fun F X1 eT hZ hown => getS X1 F.1 (Z := Z) hZ (host := "") hown w Via.refl eT (Fl.ext E) (g := mkF X.m pc Ls st) rfl (hb F.2.1 hd)) G
theorem g_putfield {O nm d C : String} {ix kk : Nat} {ty : FieldType} {a : Addr} {v old : Value} (hd : decode bs pc = .ok (.putfield ix, 3)) (hp : pc + 3 = pc') (w : (Jvm.Cond.fieldLink y.cls ix O nm d).before a0 Z = true) (Fl : Fld Z h a O nm d old) (E : Exa Z h a C)
    (L : (Jvm.Cond.lays C O nm d).before a0 Z = true ∨ ((Jvm.Cond.laysFinal C O nm d).before a0 Z = true ∧ y.cls = O ∧ y.name = "<init>")) (wi : (Jvm.Cond.instantiable C kk).before a0 Z = true) (hty : parseFieldDescriptor d = some ty) (hn : narrow ty v = v) (hf : fits ty v = true) (ha : Z.heap.size ≤ a) (hm : a ∈ sf)
    (G : ∀ h', Wr h h' a (RoadKit.slotOf Z O nm d) v → Go X R Z a0 EL nw y bs ml rt Q kc ks sf h' k n (mkF X.m pc' Ls st)) : Go X R Z a0 EL nw y bs ml rt Q kc ks sf h k n (mkF X.m pc Ls (v :: .ref a :: st)) := by
  subst hp
  exact Go.write (v := v) ha (sfIn hm) (fun F X1 eT hZ hown => putF X1 F.1 (Z := Z) hZ hown (host := "") (Or.inl w) Via.refl eT Fl E (L.imp id fun q => ⟨q.1, q.2.1, F.2.2.2.2.1.trans q.2.2⟩) wi hty hn hf (g := mkF X.m pc Ls (v :: .ref a :: st)) rfl rfl (hb F.2.1 hd)) G
theorem g_checkcast {K : String} {ix : Nat} {a : Addr} (hd : decode bs pc = .ok (.checkcast ix, 3)) (hp : pc + 3 = pc') (w : (Jvm.Cond.classLink y.cls ix K).before a0 Z = true) (I : Ins Z h a K true) (G : Go X R Z a0 EL nw y bs ml rt Q kc ks sf h k n (mkF X.m pc' Ls (.ref a :: st))) : Go X R Z a0 EL nw y bs ml rt Q kc ks sf h k n (mkF X.m pc Ls (.ref a :: st)) := by
  subst hp
  exact Go.same (fun F X1 eT hZ hown => castY X1 F.1 (Z := Z) hZ hown w eT I (g := mkF X.m pc Ls (.ref a :: st)) rfl rfl (hb F.2.1 hd)) G
theorem g_instanceofY {K : String} {ix : Nat} {a : Addr} (hd : decode bs pc = .ok (.instanceof ix, 3)) (hp : pc + 3 = pc') (w : (Jvm.Cond.classLink y.cls ix K).before a0 Z = true) (I : Ins Z h a K true) (G : Go X R Z a0 EL nw y bs ml rt Q kc ks sf h k n (mkF X.m pc' Ls (.int 1 :: st))) : Go X R Z a0 EL nw y bs ml rt Q kc ks sf h k n (mkF X.m pc Ls (.ref a :: st)) := by
  subst hp
  exact Go.same (fun F X1 eT hZ hown => instY X1 F.1 (Z := Z) hZ hown w eT I (g := mkF X.m pc Ls (.ref a :: st)) rfl rfl (hb F.2.1 hd)) G
/-- Object's constructor -/
theorem g_objinit {ix : Nat} {a : Addr} (hd : decode bs pc = .ok (.invokespecial ix, 3)) (hp : pc + 3 = pc') (w1 : (Jvm.Cond.methodLink y.cls ix Lib.objectInit).before a0 Z = true) (w2 : (Jvm.Cond.instanceMethod Lib.objectInit).before a0 Z = true) (w3 : (Jvm.Cond.code Lib.objectInit ⟨#[0xb1]⟩ 1 none).before a0 Z = true)
    (hz : Ls.size = ml) (hf : Nat.ble 1 R.frames = true) (hl : Nat.ble ((st.map fun v => v.category).sum + 12) R.locals = true) (G : Go X R Z a0 EL nw y bs ml rt Q kc ks sf h k n (mkF X.m pc' Ls st)) : Go X R Z a0 EL nw y bs ml rt Q kc ks sf h k n (mkF X.m pc Ls (.ref a :: st)) := by
  subst hp
  exact Go.same (fun F X1 eT hZ hown => initO X1 F.1 (Z := Z) hZ hown w1 w2 w3 eT (g := mkF X.m pc Ls (.ref a :: st)) rfl (by rw [F.2.2.1]; exact hz) rfl (hb F.2.1 hd) (ble hf) (W := (st.map fun v => v.category).sum) (by show 2 * 0 + _ ≤ _; omega) (ble hl)) G
/-- an array's clone() -/
theorem g_clone {ix cap : Nat} {ad : String} {a : Addr} {kA : ClassId} {ty : FieldType} {z : Int32} {vs : List Value} {d : Value} (hd : decode bs pc = .ok (.invokevirtual ix, 3)) (hp : pc + 3 = pc')
    (w1 : (Jvm.Cond.methodLink y.cls ix ⟨ad, "clone", "()Ljava/lang/Object;"⟩).before a0 Z = true) (w2 : (Jvm.Cond.sameMethod ad "java/lang/Object" "clone" "()Ljava/lang/Object;").before a0 Z = true) (w3 : (Jvm.Cond.native ⟨"java/lang/Object", "clone", "()Ljava/lang/Object;"⟩).before a0 Z = true)
    (w4 : (Jvm.Cond.instanceMethod ⟨"java/lang/Object", "clone", "()Ljava/lang/Object;"⟩).before a0 Z = true) (w5 : (Jvm.Cond.selects ad ⟨ad, "clone", "()Ljava/lang/Object;"⟩ ⟨"java/lang/Object", "clone", "()Ljava/lang/Object;"⟩).before a0 Z = true) (w6 : (Jvm.Cond.castable ad "java/lang/Cloneable").before a0 Z = true)
    (A : Arv Z h a kA ty z vs d) (E : Exa Z h a ad) (hz : Ls.size = ml) (hf : Nat.ble 1 R.frames = true) (hl : Nat.ble ((st.map fun v => v.category).sum + 14) R.locals = true) (hcap : z.toNatClampNeg ≤ cap) (hk : Nat.ble (k + 1) R.cells = true) (hn : Nat.ble (n + cap) R.slots = true)
    (G : ∀ h' b, b = h.size → Ext h h' → Arv Z h' b kA ty z vs d → Exa Z h' b ad → Go X R Z a0 EL nw y bs ml rt Q kc ks (b :: sf) h' (k + 1) (n + cap) (mkF X.m pc' Ls (.ref b :: st))) : Go X R Z a0 EL nw y bs ml rt Q kc ks sf h k n (mkF X.m pc Ls (.ref a :: st)) := fun T S => by
  subst hp
  obtain ⟨F, vm0, L, X1, eT, hS, hZ, hown, hC, hF, hE, hs, hN⟩ := S
  obtain ⟨c, Ar, k1, s1, n1, H, G1⟩ := A
  have hfit : FitC Z c := fitC_of Ar fun i hi v hv => by
    have q := H i hi
    rw [hv] at q
    cases q
    exact G1 i hi
  obtain ⟨T', h', X2, e2, E2, A2, B2, stp⟩ := cloneA X1 F.1 (Z := Z) hZ hown w1 w2 w3 w4 w5 w6 eT Ar E hfit (g := mkF X.m pc Ls (.ref a :: st)) rfl (by rw [F.2.2.1]; exact hz) rfl (hb F.2.1 hd) (ble hf) (W := (st.map fun v => v.category).sum) (cap := cap) (by show 2 * 0 + _ ≤ _; omega) (ble hl) (by rw [s1]; exact hcap) (ble hk) (ble hn)
  have A3 : Arv Z h' h.size kA ty z vs d := ⟨cloneOf c, A2, k1, s1, n1, H, G1⟩
  refine (G h' _ rfl E2 A3 B2 T' ?_).back stp
  exact ⟨F, vm0, _, X2, e2, ⟨hS.1, hS.2.mono E2.1⟩, hZ, hown, hC.trans (CHr.ext E2 hC.1), hF, ext_trans hE E2, fun x hx => by
    rcases List.mem_cons.mp hx with rfl | hx
    · exact ⟨A3.lt, Safe.ext E2 hC.1 (Safe.new (Nat.le_refl _))⟩
    · exact ⟨Nat.lt_of_lt_of_le (hs x hx).1 E2.1, Safe.ext E2 hC.1 (hs x hx).2⟩, hN⟩
/-! a String constant -/
theorem g_ldcS (hnw : nw = false) {text : String} {ix nn : Nat} {vs : List Value} {z : Int32} (hd : decode bs pc = .ok (.ldc ix, 2)) (hp : pc + 2 = pc') (w : (Jvm.Cond.stringLink y.cls ix text).before a0 Z = true) (wS : ∀ a ∈ Bundle.stringAtoms, a.before a0 Z = true) (hm : (y.cls, ix) ∈ EL)
    (ht : (∀ c ∈ text.toList, c.toNat < 256) ∧ text.toList.map (fun c => Value.int (Jvm.Lit.byteI c.toNat.toUInt16)) = vs) (hz : ¬ z < 0) (hl : z.toNatClampNeg = vs.length) (h4 : Nat.ble (4 * text.toList.length) nn = true) (hbig : Nat.ble nn 536870912 = true) (hk : Nat.ble (k + 2) R.cells = true) (hn : Nat.ble (n + (nn + 4)) R.slots = true)
    (G : ∀ h' a b kb, Ext h h' → Exa Z h' a "java/lang/String" → Fld Z h' a "java/lang/String" "coder" "B" (.int 0) → Fld Z h' a "java/lang/String" "value" "[B" (.ref b) → Arv Z h' b kb .byte z vs (.int 0) → (∀ x ∈ sf, x ≠ a ∧ x ≠ b) → Go X R Z a0 EL nw y bs ml rt Q kc ks sf h' (k + 2) (n + (nn + 4)) (mkF X.m pc' Ls (.ref a :: st))) : Go X R Z a0 EL nw y bs ml rt Q kc ks sf h k n (mkF X.m pc Ls st) := fun T S => by
  subst hp
  obtain ⟨F, vm0, L, X1, eT, hS, hZ, hown, hC, hF, hE, hs, hN⟩ := S
  obtain ⟨a, T', h', k1, b, kb, X2, e2, E2, hS2, hk2, hZ2, hown2, A1, A2, A3, A4, l1, l2, hC2, -, hne, q⟩ := ldcCH X1 F.1 (Z := Z) hZ hown w wS eT hS (Nat.le_refl _) F.2.2.2.2.2.2 hm hC.1 ht hz hl (g := mkF X.m pc Ls st) rfl (hb F.2.1 hd) (ble h4) (ble hbig) (ble hk) (ble hn)
  have hs' : ∀ x ∈ sf, x < h'.size ∧ Safe Z EL T'.vm h' x := fun x hx => ⟨Nat.lt_of_lt_of_le (hs x hx).1 E2.1, hC2.safe (hs x hx).1 (hs x hx).2⟩
  exact (G h' a b kb E2 A1 A2 A3 A4 (fun x hx => hne x (hs' x hx).2) T' ⟨F, T'.vm, L, X2, e2, ⟨hS2.1, hS2.2.mono hk2⟩, hZ2, hown2, hC.trans hC2, hF, ext_trans hE E2, hs', fun q => by rw [hnw] at q; cases q⟩).back q
/-! calls -/
/-- whoever pays the call of y on the arguments as', from the heap h: at most kc cells and ks slots made; Q of what comes back -/
def Pay (l : Launch) (R : Room) (y : MethodName) (W : Nat) (as' : Array Value) (Z : State) (a0 : Array Value) (EL : List (String × Nat)) (nw : Bool) (sf : List Addr) (h : Heap) (kc ks : Nat) (Q : Option Value → Heap → Prop) : Prop :=
  ∀ (p : Program) (e : Env) (below : List Frame) (s : State) (args : Array Value) (len : Nat) (vm0 : Vm), Z.Warmed39 vm0 → CHv Z EL vm0 h → Ext Z.heap h → (∀ x ∈ sf, x < h.size ∧ Safe Z EL vm0 h x) → EW Z a0 EL →
    BackS l R p e below (s.setVm vm0) args y len W (fun A a => a = as' ∧ A.U.heap = h ∧ A.cells + kc ≤ R.cells ∧ A.slots + ks ≤ R.slots)
      (fun A _ v B => ∃ L, (Q v B.U.heap ∧ Fr Z.heap.size L ∧ Ext Z.heap B.U.heap) ∧ B.locs = A.locs ++ L ∧ B.cells = A.cells + kc ∧ B.slots = A.slots + ks ∧ CHr Z EL vm0 h B.U.vm B.U.heap ∧ (nw = true → (s.setVm vm0).WarmedH B.U.vm))
/-- the contract of a method: walked from its entry -/
def MetW (ws : List Jvm.Cond) (l : Launch) (y : MethodName) (bs : ByteArray) (ml : Nat) (rt : Option FieldType) (rm : Room) (as' : Array Value) (Z : State) (a0 : Array Value) (EL : List (String × Nat)) (nw : Bool) (sf : List Addr) (h : Heap) (Q : Option Value → Heap → Prop) : Prop :=
  MetFree l y (head1 (Jvm.Cond.code y bs ml rt :: ws) rm) (fun a U => a = as' ∧ Z.Warmed39 U.vm ∧ U.heap = h ∧ CHv Z EL U.vm h ∧ Ext Z.heap h ∧ EW Z a0 EL ∧ ∀ x ∈ sf, x < h.size ∧ Safe Z EL U.vm h x) (fun _ _ _ _ _ => True)
    (fun _ U o U' => ∃ v L, o = .returned v ∧ (Q v U'.heap ∧ Fr Z.heap.size L ∧ Ext Z.heap U'.heap) ∧ CHr Z EL U.vm U.heap U'.vm U'.heap ∧ (nw = true → U.WarmedH U'.vm) ∧ ReturnedEndW U o U' L rm.cells rm.slots)
theorem MetW.of {ws : List Jvm.Cond} {l : Launch} {rm : Room} {as' : Array Value} (hpl : plainFor y = true)
    (H : ∀ X : Cx, X.l = l → Go X rm Z a0 EL nw y bs ml rt Q rm.cells rm.slots sf h 0 0 (entryFrame X.m as' ml)) : MetW ws l y bs ml rt rm as' Z a0 EL nw sf h Q := by
  refine MetFree.of_bodySF hpl hisR ?_
  intro p e s m args below meth c s₁ Bd hml0 hP hK
  obtain ⟨rfl, hZ, rfl, hC, hE, hEL, hs⟩ := hP
  have e0 : s₁.heap = s.heap := by rw [Bd.state]; rfl
  exact H (p, l, e, s, m, args, below, meth, c) rfl s₁ ⟨⟨Bd.exec, Bd.bytes, hml0, Bd.returns, (name_of_methodNamed Bd.named Bd.method).1, Bd.notSynchronized, hEL⟩, s.vm, [], Stand.of_body Bd, e0, (State.WarmedH.refl s).since _, hZ, findClass_of_methodNamed Bd.named, CHr.refl hC, Fr.nil _, hE, hs, fun _ => State.WarmedH.refl s⟩
theorem Pay.of_met {l : Launch} {rm : Room} {as' : Array Value} {W : Nat} (hM : MetW [] l y bs ml rt rm as' Z a0 EL nw sf h Q) (wc : (Jvm.Cond.code y bs ml rt).before a0 Z = true) (wz : (Jvm.Cond.initialized y.cls).before a0 Z = true) (hf : Nat.ble (rm.frames + 1) R.frames = true) (hl : Nat.ble (W + (ml + 11) + rm.locals) R.locals = true) :
    Pay l R y W as' Z a0 EL nw sf h rm.cells rm.slots Q := fun p e below s args len vm0 hZ H hE hs hEL =>
  BackS.of_freeW (bytes := bs) (maxL := ml) (ret := rt) (E := fun _ first o t L k n => k = rm.cells ∧ n = rm.slots ∧ (∃ v, o = .returned v ∧ Q v t.heap ∧ Fr Z.heap.size L ∧ Ext Z.heap t.heap) ∧ CHr Z EL first.vm first.heap t.vm t.heap ∧ (nw = true → first.WarmedH t.vm)) hM (ble hf) (ble hl)
    (fun m meth c A a Y hp => have hU : Z.Warmed39 A.U.vm := wtrans (s := s.setVm vm0) hZ Y.warmed
      ⟨by show (Jvm.Cond.and _ .tt).before a A.U = true; rw [Cond.before_and, mv hU wc]; rfl, mv hU wc, mv hU wz, hp.2.2.1, hp.2.2.2⟩)
    (fun m meth c A a g mk Y hp => ⟨hp.1, wtrans (s := s.setVm vm0) hZ Y.warmed, hp.2.1, (CHv.at Y hZ hEL H).1, hE, hEL, fun x hx => ⟨(hs x hx).1, (CHv.at Y hZ hEL H).safe (hs x hx).1 (hs x hx).2⟩⟩) (fun _ _ _ _ _ _ _ _ _ => trivial)
    (fun _ _ _ _ ⟨v, L, h1, h2, h3, h5, h4⟩ => ⟨L, _, _, h4, rfl, rfl, ⟨v, h1, h2⟩, h3, h5⟩)
    (fun m meth c A a g mk v t L k n Y hp _ _ ⟨e1, e2, ⟨v', e3, e4⟩, e5, e6⟩ => by
      cases e3; subst e1 e2
      refine ⟨L, e4, rfl, rfl, rfl, (CHv.at Y hZ hEL H).trans ?_, fun q => State.WarmedH.trans Y.warmed (e6 q)⟩
      rw [← hp.2.1]; exact e5)
/-- a law of the other texts, that interns nothing: what it writes are cells made since the start, no literal's -/
theorem Pay.of_back {l : Launch} {as' : Array Value} {W : Nat} {Q0 : Option Value → Heap → List Loc → Prop} (wsl : List Addr)
    (hB : ∀ (p : Program) (e : Env) (below : List Frame) (s : State) (args : Array Value) (len : Nat), Z.Warmed39 s.vm → Back l R p e below s args y len W (fun A a => a = as' ∧ A.U.heap = h ∧ A.cells + kc ≤ R.cells ∧ A.slots + ks ≤ R.slots) (fun A _ v B => ∃ L, Q0 v B.U.heap L ∧ B.locs = A.locs ++ L ∧ B.cells = A.cells + kc ∧ B.slots = A.slots + ks))
    (hw : ∀ x ∈ wsl, x ∈ sf ∧ Z.heap.size ≤ x) (hQ : ∀ v h' L, Q0 v h' L → Q v h' ∧ Keep h h' wsl ∧ Fr Z.heap.size L) : Pay l R y W as' Z a0 EL nw sf h kc ks Q := fun p e below s args len vm0 hZ H hE hs hEL m meth c A g ig mk a X1 hg hsize hdg hW hn hp => by
  obtain ⟨v, B, X2, ⟨L, hq, e1, e2, e3⟩, stp⟩ := hB p e below (s.setVm vm0) args len hZ m meth c A g ig mk a X1 hg hsize hdg hW hn hp
  obtain ⟨q1, q2, q3⟩ := hQ _ _ _ hq
  have hC2 : CHr Z EL vm0 h vm0 B.U.heap := CHr.keep q2 (fun x hx => (hs x (hw x hx).1).2) H
  have hsz : A.U.heap.size ≤ B.U.heap.size := by rw [hp.2.1]; exact q2.1
  exact ⟨v, B, X2.retabled X2.warmed.wide, X2.warmed.since _, hsz, ⟨L, ⟨q1, q3, ext_keep hE q2 fun x hx => (hw x hx).2⟩, e1, e2, e3, hC2.trans (CHv.at X2 hZ hEL hC2.1), fun _ => X2.warmed⟩, stp⟩
theorem Pay.pure {l : Launch} {as' : Array Value} {W : Nat} {P : Option Value → Prop}
    (hB : ∀ (p : Program) (e : Env) (below : List Frame) (s : State) (args : Array Value) (len : Nat), Z.Warmed39 s.vm → Back l R p e below s args y len W (fun A a => a = as' ∧ A.U.heap = h ∧ A.cells + 0 ≤ R.cells ∧ A.slots + 0 ≤ R.slots) (fun A _ v B => ∃ L, (P v ∧ L = [] ∧ B.U.heap = h) ∧ B.locs = A.locs ++ L ∧ B.cells = A.cells + 0 ∧ B.slots = A.slots + 0)) : Pay l R y W as' Z a0 EL nw sf h 0 0 (fun v h' => P v ∧ h' = h) :=
  Pay.of_back (Q0 := fun v h' L => P v ∧ L = [] ∧ h' = h) [] hB (fun _ q => nomatch q) fun v h' L q => by
    obtain ⟨q1, rfl, rfl⟩ := q
    exact ⟨⟨q1, rfl⟩, Keep.refl _ _, Fr.nil _⟩
theorem Pay.weak {l : Launch} {as' : Array Value} {W : Nat} {Q' : Option Value → Heap → Prop} (P : Pay l R y W as' Z a0 EL nw sf h kc ks Q) (hQ : ∀ v h', Q v h' → Q' v h') : Pay l R y W as' Z a0 EL nw sf h kc ks Q' := fun p e below s args len vm0 hZ H hE hs hEL m meth c A g ig mk a X1 hg hsize hdg hW hn hp => by
  obtain ⟨v, B, X2, h1, h2, ⟨L, ⟨q1, q2⟩, r⟩, stp⟩ := P p e below s args len vm0 hZ H hE hs hEL m meth c A g ig mk a X1 hg hsize hdg hW hn hp
  exact ⟨v, B, X2, h1, h2, ⟨L, ⟨hQ _ _ q1, q2⟩, r⟩, stp⟩
/-- more room than it needs -/
theorem Pay.up {l : Launch} {as' : Array Value} {W kc' ks' : Nat} (P : Pay l R y W as' Z a0 EL nw sf h kc ks Q) (hk : kc ≤ kc') (hs' : ks ≤ ks') : Pay l R y W as' Z a0 EL nw sf h kc' ks' Q := fun p e below s args len vm0 hZ H hE hs hEL m meth c A g ig mk a X1 hg hsize hdg hW hn hp => by
  obtain ⟨v, B, X2, h1, h2, ⟨L, q, e1, e2, e3, r⟩, stp⟩ := P p e below s args len vm0 hZ H hE hs hEL m meth c A g ig mk a X1 hg hsize hdg hW hn ⟨hp.1, hp.2.1, by have := hp.2.2.1; omega, by have := hp.2.2.2; omega⟩
  exact ⟨v, ⟨B.U, B.locs, A.cells + kc', A.slots + ks'⟩, X2.mono (by rw [e2]; show _ ≤ A.cells + kc'; omega) (by rw [e3]; show _ ≤ A.slots + ks'; omega), h1, h2, ⟨L, q, e1, rfl, rfl, r⟩, stp⟩
/-- behind any call -/
theorem Go.back {vm0 : Vm} {L : List Loc} {kc' ks' : Nat} {Q' : Option Value → Heap → Prop} {v : Option Value} {B : Pt} (F : Fix X Z a0 EL y bs ml rt) (eT : T.heap = h) (hS : X.s.Since vm0 h.size) (hZ : Z.Warmed39 vm0) (hown : vm0.findClass y.cls = some X.m.cls) (hC : CHr Z EL X.s.vm X.s.heap vm0 h) (hF : Fr Z.heap.size L) (hs : ∀ x ∈ sf, x < h.size ∧ Safe Z EL vm0 h x)
    (X2 : Stand X.p X.l X.e R ((X.s.setVm vm0).setVm B.U.vm) X.m X.args X.below X.meth X.c B.U B.locs B.cells B.slots) (hS2 : (X.s.setVm vm0).Since B.U.vm B.U.heap.size) (hle : T.heap.size ≤ B.U.heap.size)
    (hq : ∃ L', (Q' v B.U.heap ∧ Fr Z.heap.size L' ∧ Ext Z.heap B.U.heap) ∧ B.locs = L ++ L' ∧ B.cells = k + kc' ∧ B.slots = n + ks' ∧ CHr Z EL vm0 h B.U.vm B.U.heap ∧ (nw = true → (X.s.setVm vm0).WarmedH B.U.vm)) (hN : nw = true → X.s.WarmedH vm0)
    (G : ∀ v h', Q' v h' → h.size ≤ h'.size → Go X R Z a0 EL nw y bs ml rt Q kc ks sf h' (k + kc') (n + ks') (mkF X.m pc' Ls (v.toList ++ st))) : Done X Z EL nw Q kc ks B.U (mkF X.m pc' Ls (v.toList ++ st)) := by
  subst eT
  obtain ⟨L', ⟨q1, q2, q3⟩, e1, e2, e3, hC2, hN2⟩ := hq
  rw [e1, e2, e3] at X2
  exact G v B.U.heap q1 hle B.U ⟨F, B.U.vm, _, X2, rfl, hS.trans hS2 hle, State.Warmed39.trans (t := X.s.setVm vm0) hZ hS2.1, (hS2.1.alike.findClass _ _).trans hown, hC.trans hC2, hF.app q2, q3, fun x hx => ⟨Nat.lt_of_lt_of_le (hs x hx).1 hle, hC2.safe (hs x hx).1 (hs x hx).2⟩, fun q => State.WarmedH.trans (hN q) (hN2 q)⟩
/-- behind a call that interned nothing: what it made is no literal's -/
theorem Go.backB {vm0 : Vm} {L : List Loc} {kc' ks' : Nat} {Q' : Option Value → Heap → Prop} {v : Option Value} {B : Pt} (wsl : List Addr) (F : Fix X Z a0 EL y bs ml rt) (eT : T.heap = h) (hS : X.s.Since vm0 h.size) (hZ : Z.Warmed39 vm0) (hown : vm0.findClass y.cls = some X.m.cls) (hC : CHr Z EL X.s.vm X.s.heap vm0 h) (hF : Fr Z.heap.size L) (hs : ∀ x ∈ sf, x < h.size ∧ Safe Z EL vm0 h x)
    (X2 : Stand X.p X.l X.e R ((X.s.setVm vm0).setVm B.U.vm) X.m X.args X.below X.meth X.c B.U B.locs B.cells B.slots) (hS2 : (X.s.setVm vm0).Since B.U.vm B.U.heap.size) (hle : T.heap.size ≤ B.U.heap.size)
    (hq : ∃ L', (Q' v B.U.heap ∧ Fr Z.heap.size L' ∧ Ext Z.heap B.U.heap) ∧ B.locs = L ++ L' ∧ B.cells = k + kc' ∧ B.slots = n + ks' ∧ CHr Z EL vm0 h B.U.vm B.U.heap ∧ (true = true → (X.s.setVm vm0).WarmedH B.U.vm)) (hN : nw = true → X.s.WarmedH vm0)
    (hKp : ∀ v h', Q' v h' → Keep h h' wsl) (hws : ∀ x ∈ wsl, x ∈ sf)
    (G : ∀ v h', Q' v h' → h.size ≤ h'.size → ∃ nb : List Addr, (∀ x ∈ nb, h.size ≤ x ∧ x < h'.size) ∧ Go X R Z a0 EL nw y bs ml rt Q kc ks (nb ++ sf) h' (k + kc') (n + ks') (mkF X.m pc' Ls (v.toList ++ st))) : Done X Z EL nw Q kc ks B.U (mkF X.m pc' Ls (v.toList ++ st)) := by
  subst eT
  obtain ⟨L', ⟨q1, q2, q3⟩, e1, e2, e3, hC2, hN2⟩ := hq
  have hW : (X.s.setVm vm0).WarmedH B.U.vm := hN2 rfl
  have hlat := CHv.later (vm := vm0) (vm1 := B.U.vm) (h := T.heap) (h' := T.heap) hZ (show (Wst Z vm0 T.heap).Warmed39 B.U.vm from hW.wide) F.2.2.2.2.2.2 (ext_refl _) (Or.inl hW.interned_eq) hC.1
  have hsl : ∀ x ∈ wsl, Safe Z EL B.U.vm T.heap x := fun x hx bk => by
    have hx' := hs x (hws x hx)
    rcases hlat.2 x bk with q | q
    · exact hx'.2 q
    · exact absurd hx'.1 (Nat.not_lt.mpr q)
  obtain ⟨nb, hnb, G'⟩ := G v B.U.heap q1 hle
  rw [e1, e2, e3] at X2
  refine G' B.U ⟨F, B.U.vm, _, X2, rfl, hS.trans hS2 hle, State.Warmed39.trans (t := X.s.setVm vm0) hZ hS2.1, (hS2.1.alike.findClass _ _).trans hown, hC.trans hC2, hF.app q2, q3, fun x hx => ?_, fun q => State.WarmedH.trans (hN q) hW⟩
  rcases List.mem_append.mp hx with hx | hx
  · exact ⟨(hnb x hx).2, Safe.keep (hKp _ _ q1) hsl hlat.1 (Safe.new (hnb x hx).1)⟩
  · exact ⟨Nat.lt_of_lt_of_le (hs x hx).1 hle, hC2.safe (hs x hx).1 (hs x hx).2⟩
theorem g_invokestatic {ix : Nat} {y' : MethodName} {bs' : ByteArray} {ml' : Nat} {rt' : Option FieldType} {as' : Array Value} {kc' ks' : Nat} {Q' : Option Value → Heap → Prop} (sfc : List Addr) (argsL : List Value) {ps : List FieldType} {r : Option FieldType} (hd : decode bs pc = .ok (.invokestatic ix, 3)) (hp : pc + 3 = pc')
    (w1 : (Jvm.Cond.methodLink y.cls ix y').before a0 Z = true) (w2 : (Jvm.Cond.static y').before a0 Z = true) (w3 : (Jvm.Cond.initialized y'.cls).before a0 Z = true) (w4 : (Jvm.Cond.code y' bs' ml' rt').before a0 Z = true) (hy : y'.cls ≠ "java/lang/invoke/MethodHandle" ∧ y'.cls ≠ "java/lang/invoke/VarHandle")
    (P : Pay X.l R y' (st.map fun v => v.category).sum as' Z a0 EL nw sfc h kc' ks' Q') (hpd : parseMethodDescriptor y'.desc = some ⟨ps, r⟩) (hlen : argsL.length = ps.length) (hargs : argsL.toArray = as') (hz : Ls.size = ml) (hk : Nat.ble (k + kc') R.cells = true) (hn : Nat.ble (n + ks') R.slots = true) (hsf : ∀ x ∈ sfc, x ∈ sf)
    (G : ∀ v h', Q' v h' → h.size ≤ h'.size → Go X R Z a0 EL nw y bs ml rt Q kc ks sf h' (k + kc') (n + ks') (mkF X.m pc' Ls (v.toList ++ st))) : Go X R Z a0 EL nw y bs ml rt Q kc ks sf h k n (mkF X.m pc Ls (argsL.reverse ++ st)) := fun T S => by
  subst hp
  obtain ⟨F, vm0, L, X1, eT, hS, hZ, hown, hC, hF, hE, hs, hN⟩ := S
  obtain ⟨v, vm1, B, -, X2, hS2, hle, hq, stp⟩ := callSS X1 F.1 (y := y') hown (mvT (s := X.s.setVm vm0) hZ w1) (mvT (s := X.s.setVm vm0) hZ w2) (mvT (s := X.s.setVm vm0) hZ w3) (mvT (s := X.s.setVm vm0) hZ w4) hy (P _ _ _ _ _ _ vm0 hZ hC.1 hE (fun x hx => hs x (hsf x hx)) F.2.2.2.2.2.2) (g := mkF X.m pc Ls (argsL.reverse ++ st)) rfl (by rw [F.2.2.1]; exact hz) (argsL := argsL) (rest := st) (lenOf hpd hlen) rfl (by show 2 * 0 + _ ≤ _; omega) (hb F.2.1 hd) (fun _ _ => ⟨hargs, eT, ble hk, ble hn⟩)
  exact (Go.back F eT hS hZ hown hC hF hs X2 hS2 hle hq hN G).back fun t q => stp.trans q
theorem g_invokestaticB (nb : Option Value → List Addr) {ix : Nat} {y' : MethodName} {bs' : ByteArray} {ml' : Nat} {rt' : Option FieldType} {as' : Array Value} {kc' ks' : Nat} {Q' : Option Value → Heap → Prop} (sfc : List Addr) (argsL : List Value) {ps : List FieldType} {r : Option FieldType} (hd : decode bs pc = .ok (.invokestatic ix, 3)) (hp : pc + 3 = pc')
    (w1 : (Jvm.Cond.methodLink y.cls ix y').before a0 Z = true) (w2 : (Jvm.Cond.static y').before a0 Z = true) (w3 : (Jvm.Cond.initialized y'.cls).before a0 Z = true) (w4 : (Jvm.Cond.code y' bs' ml' rt').before a0 Z = true) (hy : y'.cls ≠ "java/lang/invoke/MethodHandle" ∧ y'.cls ≠ "java/lang/invoke/VarHandle")
    (P : Pay X.l R y' (st.map fun v => v.category).sum as' Z a0 EL true sfc h kc' ks' Q') (hE' : ∀ v h', Q' v h' → Ext h h') (hnb : ∀ v h', Q' v h' → ∀ x ∈ nb v, h.size ≤ x ∧ x < h'.size) (hpd : parseMethodDescriptor y'.desc = some ⟨ps, r⟩) (hlen : argsL.length = ps.length) (hargs : argsL.toArray = as') (hz : Ls.size = ml) (hk : Nat.ble (k + kc') R.cells = true) (hn : Nat.ble (n + ks') R.slots = true) (hsf : ∀ x ∈ sfc, x ∈ sf)
    (G : ∀ v h', Q' v h' → h.size ≤ h'.size → Go X R Z a0 EL nw y bs ml rt Q kc ks (nb v ++ sf) h' (k + kc') (n + ks') (mkF X.m pc' Ls (v.toList ++ st))) : Go X R Z a0 EL nw y bs ml rt Q kc ks sf h k n (mkF X.m pc Ls (argsL.reverse ++ st)) := fun T S => by
  subst hp
  obtain ⟨F, vm0, L, X1, eT, hS, hZ, hown, hC, hF, hE, hs, hN⟩ := S
  obtain ⟨v, vm1, B, -, X2, hS2, hle, hq, stp⟩ := callSS X1 F.1 (y := y') hown (mvT (s := X.s.setVm vm0) hZ w1) (mvT (s := X.s.setVm vm0) hZ w2) (mvT (s := X.s.setVm vm0) hZ w3) (mvT (s := X.s.setVm vm0) hZ w4) hy (P _ _ _ _ _ _ vm0 hZ hC.1 hE (fun x hx => hs x (hsf x hx)) F.2.2.2.2.2.2) (g := mkF X.m pc Ls (argsL.reverse ++ st)) rfl (by rw [F.2.2.1]; exact hz) (argsL := argsL) (rest := st) (lenOf hpd hlen) rfl (by show 2 * 0 + _ ≤ _; omega) (hb F.2.1 hd) (fun _ _ => ⟨hargs, eT, ble hk, ble hn⟩)
  refine Done.back (T' := B.U) (g' := mkF X.m (pc + 3) Ls (v.toList ++ st)) (fun t q => stp.trans q) ?_
  subst eT
  obtain ⟨L', ⟨q1, q2, q3⟩, e1, e2, e3, hC2, hN2⟩ := hq
  have hW : (X.s.setVm vm0).WarmedH B.U.vm := hN2 rfl
  have hlat := CHv.later (vm := vm0) (vm1 := B.U.vm) (h := T.heap) (h' := T.heap) hZ (show (Wst Z vm0 T.heap).Warmed39 B.U.vm from hW.wide) F.2.2.2.2.2.2 (ext_refl _) (Or.inl hW.interned_eq) hC.1
  rw [e1, e2, e3] at X2
  refine G v B.U.heap q1 hle B.U ⟨F, B.U.vm, _, X2, rfl, hS.trans hS2 hle, State.Warmed39.trans (t := X.s.setVm vm0) hZ hS2.1, (hS2.1.alike.findClass _ _).trans hown, hC.trans hC2, hF.app q2, q3, fun x hx => ?_, fun q => State.WarmedH.trans (hN q) hW⟩
  rcases List.mem_append.mp hx with hx | hx
  · exact ⟨(hnb _ _ q1 x hx).2, Safe.ext (hE' _ _ q1) hlat.1 (Safe.new (hnb _ _ q1 x hx).1)⟩
  · exact ⟨Nat.lt_of_lt_of_le (hs x hx).1 hle, hC2.safe (hs x hx).1 (hs x hx).2⟩
theorem g_invokespecial {ix : Nat} {y' : MethodName} {bs' : ByteArray} {ml' : Nat} {as' : Array Value} {kc' ks' : Nat} {Q' : Option Value → Heap → Prop} (sfc : List Addr) {a : Addr} (argsL : List Value) {ps : List FieldType} {r : Option FieldType} (hd : decode bs pc = .ok (.invokespecial ix, 3)) (hp : pc + 3 = pc') (hi : y'.name = "<init>")
    (w1 : (Jvm.Cond.methodLink y.cls ix y').before a0 Z = true) (w2 : (Jvm.Cond.instanceMethod y').before a0 Z = true) (w4 : (Jvm.Cond.code y' bs' ml' none).before a0 Z = true) (hy : y'.cls ≠ "java/lang/invoke/MethodHandle" ∧ y'.cls ≠ "java/lang/invoke/VarHandle")
    (P : Pay X.l R y' (st.map fun v => v.category).sum as' Z a0 EL nw sfc h kc' ks' Q') (hpd : parseMethodDescriptor y'.desc = some ⟨ps, r⟩) (hlen : argsL.length = ps.length) (hargs : (Value.ref a :: argsL).toArray = as') (hz : Ls.size = ml) (hk : Nat.ble (k + kc') R.cells = true) (hn : Nat.ble (n + ks') R.slots = true) (hsf : ∀ x ∈ sfc, x ∈ sf)
    (G : ∀ v h', Q' v h' → h.size ≤ h'.size → Go X R Z a0 EL nw y bs ml rt Q kc ks sf h' (k + kc') (n + ks') (mkF X.m pc' Ls (v.toList ++ st))) : Go X R Z a0 EL nw y bs ml rt Q kc ks sf h k n (mkF X.m pc Ls (argsL.reverse ++ .ref a :: st)) := fun T S => by
  subst hp
  obtain ⟨F, vm0, L, X1, eT, hS, hZ, hown, hC, hF, hE, hs, hN⟩ := S
  obtain ⟨v, vm1, B, -, X2, hS2, hle, hq, stp⟩ := X1.specialBackS F.1 (y := y') hi hown (mvT (s := X.s.setVm vm0) hZ w1) (mvT (s := X.s.setVm vm0) hZ w2) (mvT (s := X.s.setVm vm0) hZ w4) hy (P _ _ _ _ _ _ vm0 hZ hC.1 hE (fun x hx => hs x (hsf x hx)) F.2.2.2.2.2.2) (g := mkF X.m pc Ls (argsL.reverse ++ .ref a :: st)) rfl (by rw [F.2.2.1]; exact hz) (Steps.refl _) (a := a) (argsL := argsL) (rest := st) (lenOf hpd hlen) rfl (by show 2 * 0 + _ ≤ _; omega) (hb F.2.1 hd) (fun _ _ => ⟨hargs, eT, ble hk, ble hn⟩)
  exact (Go.back F eT hS hZ hown hC hF hs X2 hS2 hle hq hN G).back fun t q => stp.trans q
def NF (Z : State) (y : MethodName) : Prop := ∀ s : State, Z.Warmed39 s.vm → NotFace s y
theorem g_invokevirtualN {ix : Nat} {C : String} {y' z' : MethodName} {as' : Array Value} {kc' ks' : Nat} {Q' : Option Value → Heap → Prop} (sfc : List Addr) {a : Addr} (argsL : List Value) {ps : List FieldType} {r : Option FieldType} (hd : decode bs pc = .ok (.invokevirtual ix, 3)) (hp : pc + 3 = pc')
    (w1 : (Jvm.Cond.methodLink y.cls ix y').before a0 Z = true) (w2 : (Jvm.Cond.declares y').before a0 Z = true) (w3 : (Jvm.Cond.selects C y' z').before a0 Z = true) (w4 : (Jvm.Cond.instanceMethod z').before a0 Z = true) (hy : y'.cls ≠ "java/lang/invoke/MethodHandle" ∧ y'.cls ≠ "java/lang/invoke/VarHandle")
    (hnf : NF Z y') (E : Exa Z h a C) (P : Pay X.l R z' (st.map fun v => v.category).sum as' Z a0 EL nw sfc h kc' ks' Q') (hpd : parseMethodDescriptor y'.desc = some ⟨ps, r⟩) (hlen : argsL.length = ps.length) (hargs : (Value.ref a :: argsL).toArray = as') (hz : Ls.size = ml) (hk : Nat.ble (k + kc') R.cells = true) (hn : Nat.ble (n + ks') R.slots = true) (hsf : ∀ x ∈ sfc, x ∈ sf)
    (G : ∀ v h', Q' v h' → h.size ≤ h'.size → Go X R Z a0 EL nw y bs ml rt Q kc ks sf h' (k + kc') (n + ks') (mkF X.m pc' Ls (v.toList ++ st))) : Go X R Z a0 EL nw y bs ml rt Q kc ks sf h k n (mkF X.m pc Ls (argsL.reverse ++ .ref a :: st)) := fun T S => by
  subst hp
  obtain ⟨F, vm0, L, X1, eT, hS, hZ, hown, hC, hF, hE, hs, hN⟩ := S
  obtain ⟨cq, kq, qa, qb, qc⟩ := isOf (s := X.s.setVm vm0) hZ eT E
  obtain ⟨v, vm1, B, -, X2, hS2, hle, hq, stp⟩ := X1.virtualBackS F.1 (y := y') (z := z') hown (mvT (s := X.s.setVm vm0) hZ w1) (mvT (s := X.s.setVm vm0) hZ w2) (hnf (X.s.setVm vm0) hZ) (mvT (s := X.s.setVm vm0) hZ w3) (mvT (s := X.s.setVm vm0) hZ w4) hy (P _ _ _ _ _ _ vm0 hZ hC.1 hE (fun x hx => hs x (hsf x hx)) F.2.2.2.2.2.2) qa qc (g := mkF X.m pc Ls (argsL.reverse ++ .ref a :: st)) rfl (by rw [F.2.2.1]; exact hz) (Steps.refl _) (argsL := argsL) (rest := st) (lenOf hpd hlen) rfl (by show 2 * 0 + _ ≤ _; omega) (hb F.2.1 hd) (fun _ _ => ⟨hargs, eT, ble hk, ble hn⟩)
  exact (Go.back F eT hS hZ hown hC hF hs X2 hS2 hle hq hN G).back fun t q => stp.trans q
theorem g_invokeinterface {ix cnt : Nat} {C : String} {y' z' : MethodName} {as' : Array Value} {kc' ks' : Nat} {Q' : Option Value → Heap → Prop} (sfc : List Addr) {a : Addr} (argsL : List Value) {ps : List FieldType} {r : Option FieldType} (hd : decode bs pc = .ok (.invokeinterface ix cnt, 5)) (hp : pc + 5 = pc')
    (w1 : (Jvm.Cond.methodLink y.cls ix y').before a0 Z = true) (w2 : (Jvm.Cond.declares y').before a0 Z = true) (w3 : (Jvm.Cond.selects C y' z').before a0 Z = true) (w4 : (Jvm.Cond.instanceMethod z').before a0 Z = true) (w5 : (Jvm.Cond.interfaceMethod y'.cls y'.cls y'.name y'.desc).before a0 Z = true) (d5 : ((Jvm.Cond.interfaceMethod y'.cls y'.cls y'.name y'.desc).onTables && (Jvm.Cond.interfaceMethod y'.cls y'.cls y'.name y'.desc).keepsFace) = true) (w6 : (Jvm.Cond.publicMethod z').before a0 Z = true) (w7 : (Jvm.Cond.unhidden C y'.name y'.desc).before a0 Z = true) (w8 : (Jvm.Cond.castable C y'.cls).before a0 Z = true) (hy : y'.cls ≠ "java/lang/invoke/MethodHandle" ∧ y'.cls ≠ "java/lang/invoke/VarHandle")
    (E : Exa Z h a C) (P : Pay X.l R z' (st.map fun v => v.category).sum as' Z a0 EL nw sfc h kc' ks' Q') (hpd : parseMethodDescriptor y'.desc = some ⟨ps, r⟩) (hlen : argsL.length = ps.length) (hargs : (Value.ref a :: argsL).toArray = as') (hz : Ls.size = ml) (hk : Nat.ble (k + kc') R.cells = true) (hn : Nat.ble (n + ks') R.slots = true) (hsf : ∀ x ∈ sfc, x ∈ sf)
    (G : ∀ v h', Q' v h' → h.size ≤ h'.size → Go X R Z a0 EL nw y bs ml rt Q kc ks sf h' (k + kc') (n + ks') (mkF X.m pc' Ls (v.toList ++ st))) : Go X R Z a0 EL nw y bs ml rt Q kc ks sf h k n (mkF X.m pc Ls (argsL.reverse ++ .ref a :: st)) := fun T S => by
  subst hp
  obtain ⟨F, vm0, L, X1, eT, hS, hZ, hown, hC, hF, hE, hs, hN⟩ := S
  obtain ⟨cq, kq, qa, qb, qc⟩ := isOf (s := X.s.setVm vm0) hZ eT E
  obtain ⟨v, vm1, B, -, X2, hS2, hle, hq, stp⟩ := X1.interfaceBackS F.1 (xi := y') (y := z') hown (mvT (s := X.s.setVm vm0) hZ w1) (mvT (s := X.s.setVm vm0) hZ w2) (mvT (s := X.s.setVm vm0) hZ w5 d5) (mvT (s := X.s.setVm vm0) hZ w3) (mvT (s := X.s.setVm vm0) hZ w4) (mvT (s := X.s.setVm vm0) hZ w6) (mvT (s := X.s.setVm vm0) hZ w7) (mvT (s := X.s.setVm vm0) hZ w8) hy (P _ _ _ _ _ _ vm0 hZ hC.1 hE (fun x hx => hs x (hsf x hx)) F.2.2.2.2.2.2) qa qb qc (g := mkF X.m pc Ls (argsL.reverse ++ .ref a :: st)) rfl (by rw [F.2.2.1]; exact hz) (Steps.refl _) (argsL := argsL) (rest := st) (lenOf hpd hlen) rfl (by show 2 * 0 + _ ≤ _; omega) (hb F.2.1 hd) (fun _ _ => ⟨hargs, eT, ble hk, ble hn⟩)
  exact (Go.back F eT hS hZ hown hC hF hs X2 hS2 hle hq hN G).back fun t q => stp.trans q
theorem NF.sel {C : String} {y' : MethodName} (w3 : (Jvm.Cond.selects C y' y').before a0 Z = true) : NF Z y' := fun s hZ => notFace_of_selects (args := #[]) (mvT (s := s) hZ w3)
theorem g_invokevirtual {ix : Nat} {C : String} {y' : MethodName} {as' : Array Value} {kc' ks' : Nat} {Q' : Option Value → Heap → Prop} (sfc : List Addr) {a : Addr} (argsL : List Value) {ps : List FieldType} {r : Option FieldType} (hd : decode bs pc = .ok (.invokevirtual ix, 3)) (hp : pc + 3 = pc')
    (w1 : (Jvm.Cond.methodLink y.cls ix y').before a0 Z = true) (w2 : (Jvm.Cond.declares y').before a0 Z = true) (w3 : (Jvm.Cond.selects C y' y').before a0 Z = true) (w4 : (Jvm.Cond.instanceMethod y').before a0 Z = true) (hy : y'.cls ≠ "java/lang/invoke/MethodHandle" ∧ y'.cls ≠ "java/lang/invoke/VarHandle")
    (E : Exa Z h a C) (P : Pay X.l R y' (st.map fun v => v.category).sum as' Z a0 EL nw sfc h kc' ks' Q') (hpd : parseMethodDescriptor y'.desc = some ⟨ps, r⟩) (hlen : argsL.length = ps.length) (hargs : (Value.ref a :: argsL).toArray = as') (hz : Ls.size = ml) (hk : Nat.ble (k + kc') R.cells = true) (hn : Nat.ble (n + ks') R.slots = true) (hsf : ∀ x ∈ sfc, x ∈ sf)
    (G : ∀ v h', Q' v h' → h.size ≤ h'.size → Go X R Z a0 EL nw y bs ml rt Q kc ks sf h' (k + kc') (n + ks') (mkF X.m pc' Ls (v.toList ++ st))) : Go X R Z a0 EL nw y bs ml rt Q kc ks sf h k n (mkF X.m pc Ls (argsL.reverse ++ .ref a :: st)) :=
  g_invokevirtualN sfc argsL hd hp w1 w2 w3 w4 hy (NF.sel w3) E P hpd hlen hargs hz hk hn hsf G
theorem g_staticB (wsl : List Addr) {ix : Nat} {y' : MethodName} {bs' : ByteArray} {ml' : Nat} {rt' : Option FieldType} {as' : Array Value} {kc' ks' : Nat} {Q' : Option Value → Heap → Prop} (sfc : List Addr) (argsL : List Value) {ps : List FieldType} {r : Option FieldType} (hd : decode bs pc = .ok (.invokestatic ix, 3)) (hp : pc + 3 = pc')
    (w1 : (Jvm.Cond.methodLink y.cls ix y').before a0 Z = true) (w2 : (Jvm.Cond.static y').before a0 Z = true) (w3 : (Jvm.Cond.initialized y'.cls).before a0 Z = true) (w4 : (Jvm.Cond.code y' bs' ml' rt').before a0 Z = true) (hy : y'.cls ≠ "java/lang/invoke/MethodHandle" ∧ y'.cls ≠ "java/lang/invoke/VarHandle")
    (P : Pay X.l R y' (st.map fun v => v.category).sum as' Z a0 EL true sfc h kc' ks' Q') (hKp : ∀ v h', Q' v h' → Keep h h' wsl) (hws : ∀ x ∈ wsl, x ∈ sf) (hpd : parseMethodDescriptor y'.desc = some ⟨ps, r⟩) (hlen : argsL.length = ps.length) (hargs : argsL.toArray = as') (hz : Ls.size = ml) (hk : Nat.ble (k + kc') R.cells = true) (hn : Nat.ble (n + ks') R.slots = true) (hsf : ∀ x ∈ sfc, x ∈ sf)
    (G : ∀ v h', Q' v h' → h.size ≤ h'.size → ∃ nb : List Addr, (∀ x ∈ nb, h.size ≤ x ∧ x < h'.size) ∧ Go X R Z a0 EL nw y bs ml rt Q kc ks (nb ++ sf) h' (k + kc') (n + ks') (mkF X.m pc' Ls (v.toList ++ st))) : Go X R Z a0 EL nw y bs ml rt Q kc ks sf h k n (mkF X.m pc Ls (argsL.reverse ++ st)) := fun T S => by
  subst hp
  obtain ⟨F, vm0, L, X1, eT, hS, hZ, hown, hC, hF, hE, hs, hN⟩ := S
  obtain ⟨v, vm1, B, -, X2, hS2, hle, hq, stp⟩ := callSS X1 F.1 (y := y') hown (mvT (s := X.s.setVm vm0) hZ w1) (mvT (s := X.s.setVm vm0) hZ w2) (mvT (s := X.s.setVm vm0) hZ w3) (mvT (s := X.s.setVm vm0) hZ w4) hy (P _ _ _ _ _ _ vm0 hZ hC.1 hE (fun x hx => hs x (hsf x hx)) F.2.2.2.2.2.2) (g := mkF X.m pc Ls (argsL.reverse ++ st)) rfl (by rw [F.2.2.1]; exact hz) (argsL := argsL) (rest := st) (lenOf hpd hlen) rfl (by show 2 * 0 + _ ≤ _; omega) (hb F.2.1 hd) (fun _ _ => ⟨hargs, eT, ble hk, ble hn⟩)
  exact (Go.backB wsl F eT hS hZ hown hC hF hs X2 hS2 hle hq hN hKp hws G).back fun t q => stp.trans q
theorem g_specialB (wsl : List Addr) {ix : Nat} {y' : MethodName} {bs' : ByteArray} {ml' : Nat} {as' : Array Value} {kc' ks' : Nat} {Q' : Option Value → Heap → Prop} (sfc : List Addr) {a : Addr} (argsL : List Value) {ps : List FieldType} {r : Option FieldType} (hd : decode bs pc = .ok (.invokespecial ix, 3)) (hp : pc + 3 = pc') (hi : y'.name = "<init>")
    (w1 : (Jvm.Cond.methodLink y.cls ix y').before a0 Z = true) (w2 : (Jvm.Cond.instanceMethod y').before a0 Z = true) (w4 : (Jvm.Cond.code y' bs' ml' none).before a0 Z = true) (hy : y'.cls ≠ "java/lang/invoke/MethodHandle" ∧ y'.cls ≠ "java/lang/invoke/VarHandle")
    (P : Pay X.l R y' (st.map fun v => v.category).sum as' Z a0 EL true sfc h kc' ks' Q') (hKp : ∀ v h', Q' v h' → Keep h h' wsl) (hws : ∀ x ∈ wsl, x ∈ sf) (hpd : parseMethodDescriptor y'.desc = some ⟨ps, r⟩) (hlen : argsL.length = ps.length) (hargs : (Value.ref a :: argsL).toArray = as') (hz : Ls.size = ml) (hk : Nat.ble (k + kc') R.cells = true) (hn : Nat.ble (n + ks') R.slots = true) (hsf : ∀ x ∈ sfc, x ∈ sf)
    (G : ∀ v h', Q' v h' → h.size ≤ h'.size → ∃ nb : List Addr, (∀ x ∈ nb, h.size ≤ x ∧ x < h'.size) ∧ Go X R Z a0 EL nw y bs ml rt Q kc ks (nb ++ sf) h' (k + kc') (n + ks') (mkF X.m pc' Ls (v.toList ++ st))) : Go X R Z a0 EL nw y bs ml rt Q kc ks sf h k n (mkF X.m pc Ls (argsL.reverse ++ .ref a :: st)) := fun T S => by
  subst hp
  obtain ⟨F, vm0, L, X1, eT, hS, hZ, hown, hC, hF, hE, hs, hN⟩ := S
  obtain ⟨v, vm1, B, -, X2, hS2, hle, hq, stp⟩ := X1.specialBackS F.1 (y := y') hi hown (mvT (s := X.s.setVm vm0) hZ w1) (mvT (s := X.s.setVm vm0) hZ w2) (mvT (s := X.s.setVm vm0) hZ w4) hy (P _ _ _ _ _ _ vm0 hZ hC.1 hE (fun x hx => hs x (hsf x hx)) F.2.2.2.2.2.2) (g := mkF X.m pc Ls (argsL.reverse ++ .ref a :: st)) rfl (by rw [F.2.2.1]; exact hz) (Steps.refl _) (a := a) (argsL := argsL) (rest := st) (lenOf hpd hlen) rfl (by show 2 * 0 + _ ≤ _; omega) (hb F.2.1 hd) (fun _ _ => ⟨hargs, eT, ble hk, ble hn⟩)
  exact (Go.backB wsl F eT hS hZ hown hC hF hs X2 hS2 hle hq hN hKp hws G).back fun t q => stp.trans q
theorem g_virtualB (wsl : List Addr) {ix : Nat} {C : String} {y' z' : MethodName} {as' : Array Value} {kc' ks' : Nat} {Q' : Option Value → Heap → Prop} (sfc : List Addr) {a : Addr} (argsL : List Value) {ps : List FieldType} {r : Option FieldType} (hd : decode bs pc = .ok (.invokevirtual ix, 3)) (hp : pc + 3 = pc')
    (w1 : (Jvm.Cond.methodLink y.cls ix y').before a0 Z = true) (w2 : (Jvm.Cond.declares y').before a0 Z = true) (w3 : (Jvm.Cond.selects C y' z').before a0 Z = true) (w4 : (Jvm.Cond.instanceMethod z').before a0 Z = true) (hy : y'.cls ≠ "java/lang/invoke/MethodHandle" ∧ y'.cls ≠ "java/lang/invoke/VarHandle")
    (hnf : NF Z y') (E : Exa Z h a C) (P : Pay X.l R z' (st.map fun v => v.category).sum as' Z a0 EL true sfc h kc' ks' Q') (hKp : ∀ v h', Q' v h' → Keep h h' wsl) (hws : ∀ x ∈ wsl, x ∈ sf) (hpd : parseMethodDescriptor y'.desc = some ⟨ps, r⟩) (hlen : argsL.length = ps.length) (hargs : (Value.ref a :: argsL).toArray = as') (hz : Ls.size = ml) (hk : Nat.ble (k + kc') R.cells = true) (hn : Nat.ble (n + ks') R.slots = true) (hsf : ∀ x ∈ sfc, x ∈ sf)
    (G : ∀ v h', Q' v h' → h.size ≤ h'.size → ∃ nb : List Addr, (∀ x ∈ nb, h.size ≤ x ∧ x < h'.size) ∧ Go X R Z a0 EL nw y bs ml rt Q kc ks (nb ++ sf) h' (k + kc') (n + ks') (mkF X.m pc' Ls (v.toList ++ st))) : Go X R Z a0 EL nw y bs ml rt Q kc ks sf h k n (mkF X.m pc Ls (argsL.reverse ++ .ref a :: st)) := fun T S => by
  subst hp
  obtain ⟨F, vm0, L, X1, eT, hS, hZ, hown, hC, hF, hE, hs, hN⟩ := S
  obtain ⟨cq, kq, qa, qb, qc⟩ := isOf (s := X.s.setVm vm0) hZ eT E
  obtain ⟨v, vm1, B, -, X2, hS2, hle, hq, stp⟩ := X1.virtualBackS F.1 (y := y') (z := z') hown (mvT (s := X.s.setVm vm0) hZ w1) (mvT (s := X.s.setVm vm0) hZ w2) (hnf (X.s.setVm vm0) hZ) (mvT (s := X.s.setVm vm0) hZ w3) (mvT (s := X.s.setVm vm0) hZ w4) hy (P _ _ _ _ _ _ vm0 hZ hC.1 hE (fun x hx => hs x (hsf x hx)) F.2.2.2.2.2.2) qa qc (g := mkF X.m pc Ls (argsL.reverse ++ .ref a :: st)) rfl (by rw [F.2.2.1]; exact hz) (Steps.refl _) (argsL := argsL) (rest := st) (lenOf hpd hlen) rfl (by show 2 * 0 + _ ≤ _; omega) (hb F.2.1 hd) (fun _ _ => ⟨hargs, eT, ble hk, ble hn⟩)
  exact (Go.backB wsl F eT hS hZ hown hC hF hs X2 hS2 hle hq hN hKp hws G).back fun t q => stp.trans q
theorem g_private {ix : Nat} {C : String} {y' : MethodName} {bs' : ByteArray} {ml' : Nat} {rt' : Option FieldType} {as' : Array Value} {kc' ks' : Nat} {Q' : Option Value → Heap → Prop} (sfc : List Addr) {a : Addr} (argsL : List Value) {ps : List FieldType} {r : Option FieldType} (hd : decode bs pc = .ok (.invokevirtual ix, 3)) (hp : pc + 3 = pc')
    (w1 : (Jvm.Cond.methodLink y.cls ix y').before a0 Z = true) (w2 : (Jvm.Cond.privateMethod y').before a0 Z = true) (w3 : (Jvm.Cond.selects C y' y').before a0 Z = true) (w4 : (Jvm.Cond.instanceMethod y').before a0 Z = true) (hy : y'.cls ≠ "java/lang/invoke/MethodHandle" ∧ y'.cls ≠ "java/lang/invoke/VarHandle")
    (w5 : (Jvm.Cond.code y' bs' ml' rt').before a0 Z = true) (E : Exa Z h a C) (P : Pay X.l R y' (st.map fun v => v.category).sum as' Z a0 EL nw sfc h kc' ks' Q') (hpd : parseMethodDescriptor y'.desc = some ⟨ps, r⟩) (hlen : argsL.length = ps.length) (hargs : (Value.ref a :: argsL).toArray = as') (hz : Ls.size = ml) (hk : Nat.ble (k + kc') R.cells = true) (hn : Nat.ble (n + ks') R.slots = true) (hsf : ∀ x ∈ sfc, x ∈ sf)
    (G : ∀ v h', Q' v h' → h.size ≤ h'.size → Go X R Z a0 EL nw y bs ml rt Q kc ks sf h' (k + kc') (n + ks') (mkF X.m pc' Ls (v.toList ++ st))) : Go X R Z a0 EL nw y bs ml rt Q kc ks sf h k n (mkF X.m pc Ls (argsL.reverse ++ .ref a :: st)) := fun T S => by
  subst hp
  obtain ⟨F, vm0, L, X1, eT, hS, hZ, hown, hC, hF, hE, hs, hN⟩ := S
  have hsel3 := mvT (s := X.s.setVm vm0) (args := X.args) hZ w3
  have hpr : (X.s.setVm vm0).PrivateAt y' := Cond.privateMethod_at (args := X.args) (mvP (s := X.s.setVm vm0) hZ w2)
  obtain ⟨c2, r2, m2, -, -, q3, -, kP, hkP, hkPi⟩ := Cond.selects_spec hsel3
  have hself := selects_self_of_private (s := X.s.setVm vm0) (args := X.args) (findClass_of_methodNamed q3) hkP hkPi hpr (mvT (s := X.s.setVm vm0) hZ w4) hy
  obtain ⟨cell, hcell, hobj⟩ := E.cell
  obtain ⟨v, vm1, B, -, X2, hS2, hle, hq, stp⟩ := X1.privateBackS F.1 (y := y') hown (mvT (s := X.s.setVm vm0) hZ w1) (mvT (s := X.s.setVm vm0) hZ w4) hself hpr (mvT (s := X.s.setVm vm0) hZ w5) hy (P _ _ _ _ _ _ vm0 hZ hC.1 hE (fun x hx => hs x (hsf x hx)) F.2.2.2.2.2.2) (g := mkF X.m pc Ls (argsL.reverse ++ .ref a :: st)) rfl (by rw [F.2.2.1]; exact hz) (Steps.refl _) (a := a) (cell := cell) (by rw [eT]; exact hcell) hobj (argsL := argsL) (rest := st) (lenOf hpd hlen) rfl (by show 2 * 0 + _ ≤ _; omega) (hb F.2.1 hd) (fun _ _ => ⟨hargs, eT, ble hk, ble hn⟩)
  exact (Go.back F eT hS hZ hown hC hF hs X2 hS2 hle hq hN G).back fun t q => stp.trans q
theorem g_privateB (wsl : List Addr) {ix : Nat} {C : String} {y' : MethodName} {bs' : ByteArray} {ml' : Nat} {rt' : Option FieldType} {as' : Array Value} {kc' ks' : Nat} {Q' : Option Value → Heap → Prop} (sfc : List Addr) {a : Addr} (argsL : List Value) {ps : List FieldType} {r : Option FieldType} (hd : decode bs pc = .ok (.invokevirtual ix, 3)) (hp : pc + 3 = pc')
    (w1 : (Jvm.Cond.methodLink y.cls ix y').before a0 Z = true) (w2 : (Jvm.Cond.privateMethod y').before a0 Z = true) (w3 : (Jvm.Cond.selects C y' y').before a0 Z = true) (w4 : (Jvm.Cond.instanceMethod y').before a0 Z = true) (hy : y'.cls ≠ "java/lang/invoke/MethodHandle" ∧ y'.cls ≠ "java/lang/invoke/VarHandle")
    (w5 : (Jvm.Cond.code y' bs' ml' rt').before a0 Z = true) (E : Exa Z h a C) (P : Pay X.l R y' (st.map fun v => v.category).sum as' Z a0 EL true sfc h kc' ks' Q') (hKp : ∀ v h', Q' v h' → Keep h h' wsl) (hws : ∀ x ∈ wsl, x ∈ sf) (hpd : parseMethodDescriptor y'.desc = some ⟨ps, r⟩) (hlen : argsL.length = ps.length) (hargs : (Value.ref a :: argsL).toArray = as') (hz : Ls.size = ml) (hk : Nat.ble (k + kc') R.cells = true) (hn : Nat.ble (n + ks') R.slots = true) (hsf : ∀ x ∈ sfc, x ∈ sf)
    (G : ∀ v h', Q' v h' → h.size ≤ h'.size → ∃ nb : List Addr, (∀ x ∈ nb, h.size ≤ x ∧ x < h'.size) ∧ Go X R Z a0 EL nw y bs ml rt Q kc ks (nb ++ sf) h' (k + kc') (n + ks') (mkF X.m pc' Ls (v.toList ++ st))) : Go X R Z a0 EL nw y bs ml rt Q kc ks sf h k n (mkF X.m pc Ls (argsL.reverse ++ .ref a :: st)) := fun T S => by
  subst hp
  obtain ⟨F, vm0, L, X1, eT, hS, hZ, hown, hC, hF, hE, hs, hN⟩ := S
  have hsel3 := mvT (s := X.s.setVm vm0) (args := X.args) hZ w3
  have hpr : (X.s.setVm vm0).PrivateAt y' := Cond.privateMethod_at (args := X.args) (mvP (s := X.s.setVm vm0) hZ w2)
  obtain ⟨c2, r2, m2, -, -, q3, -, kP, hkP, hkPi⟩ := Cond.selects_spec hsel3
  have hself := selects_self_of_private (s := X.s.setVm vm0) (args := X.args) (findClass_of_methodNamed q3) hkP hkPi hpr (mvT (s := X.s.setVm vm0) hZ w4) hy
  obtain ⟨cell, hcell, hobj⟩ := E.cell
  obtain ⟨v, vm1, B, -, X2, hS2, hle, hq, stp⟩ := X1.privateBackS F.1 (y := y') hown (mvT (s := X.s.setVm vm0) hZ w1) (mvT (s := X.s.setVm vm0) hZ w4) hself hpr (mvT (s := X.s.setVm vm0) hZ w5) hy (P _ _ _ _ _ _ vm0 hZ hC.1 hE (fun x hx => hs x (hsf x hx)) F.2.2.2.2.2.2) (g := mkF X.m pc Ls (argsL.reverse ++ .ref a :: st)) rfl (by rw [F.2.2.1]; exact hz) (Steps.refl _) (a := a) (cell := cell) (by rw [eT]; exact hcell) hobj (argsL := argsL) (rest := st) (lenOf hpd hlen) rfl (by show 2 * 0 + _ ≤ _; omega) (hb F.2.1 hd) (fun _ _ => ⟨hargs, eT, ble hk, ble hn⟩)
  exact (Go.backB wsl F eT hS hZ hown hC hF hs X2 hS2 hle hq hN hKp hws G).back fun t q => stp.trans q
/-- the class is there and no interface -/
def NI (Z : State) (C : String) : Prop := ∃ (c : ClassId) (k : Class), Z.vm.findClass C = some c ∧ Z.vm.classes[c]? = some k ∧ k.isInterface = false
theorem NI.sel {C : String} {y1 y2 : MethodName} (w : (Jvm.Cond.selects C y1 y2).before a0 Z = true) : NI Z y2.cls := by
  obtain ⟨c2, r2, m2, -, -, q3, -, kP, hkP, hkPi⟩ := Cond.selects_spec w
  exact ⟨m2.cls, kP, findClass_of_methodNamed q3, hkP, hkPi⟩
theorem sameM_self {y' : MethodName} (w : (Jvm.Cond.instanceMethod y').before a0 Z = true) (hy : y'.cls ≠ "java/lang/invoke/MethodHandle" ∧ y'.cls ≠ "java/lang/invoke/VarHandle") (hni : NI Z y'.cls) : (Jvm.Cond.sameMethod y'.cls y'.cls y'.name y'.desc).before a0 Z = true := by
  obtain ⟨mk, methM, hnamed, -, -, -⟩ := Cond.instanceMethod_spec w
  have hf := State.methodFound?_of_named hnamed hy
  obtain ⟨c, k, q1, q2, q3⟩ := hni
  have hnamed' : Z.methodNamed? { cls := y'.cls, name := y'.name, desc := y'.desc } = some mk := hnamed
  simp [Cond.before, Cond.holds, Cond.value, hf, hnamed', q1, q2, q3]
theorem g_super {ix : Nat} {K : String} {rt' : Option FieldType} {y' : MethodName} {bs' : ByteArray} {ml' : Nat} {as' : Array Value} {kc' ks' : Nat} {Q' : Option Value → Heap → Prop} (sfc : List Addr) {a : Addr} (argsL : List Value) {ps : List FieldType} {r : Option FieldType} (hd : decode bs pc = .ok (.invokespecial ix, 3)) (hp : pc + 3 = pc') (hi : y'.name ≠ "<init>")
    (w1 : (Jvm.Cond.methodLink y.cls ix y').before a0 Z = true) (w2 : (Jvm.Cond.instanceMethod y').before a0 Z = true) (w3 : (Jvm.Cond.superclass y.cls y'.cls).before a0 Z = true) (hni : NI Z y'.cls) (I : Ins Z h a K true) (w4 : (Jvm.Cond.code y' bs' ml' rt').before a0 Z = true) (hy : y'.cls ≠ "java/lang/invoke/MethodHandle" ∧ y'.cls ≠ "java/lang/invoke/VarHandle")
    (P : Pay X.l R y' (st.map fun v => v.category).sum as' Z a0 EL nw sfc h kc' ks' Q') (hpd : parseMethodDescriptor y'.desc = some ⟨ps, r⟩) (hlen : argsL.length = ps.length) (hargs : (Value.ref a :: argsL).toArray = as') (hz : Ls.size = ml) (hk : Nat.ble (k + kc') R.cells = true) (hn : Nat.ble (n + ks') R.slots = true) (hsf : ∀ x ∈ sfc, x ∈ sf)
    (G : ∀ v h', Q' v h' → h.size ≤ h'.size → Go X R Z a0 EL nw y bs ml rt Q kc ks sf h' (k + kc') (n + ks') (mkF X.m pc' Ls (v.toList ++ st))) : Go X R Z a0 EL nw y bs ml rt Q kc ks sf h k n (mkF X.m pc Ls (argsL.reverse ++ .ref a :: st)) := fun T S => by
  subst hp
  obtain ⟨F, vm0, L, X1, eT, hS, hZ, hown, hC, hF, hE, hs, hN⟩ := S
  have hsame : (Jvm.Cond.sameMethod y'.cls y'.cls y'.name y'.desc).before a0 Z = true := sameM_self w2 hy hni
  obtain ⟨v, vm1, B, -, X2, hS2, hle, hq, stp⟩ := superBackS X1 F.1 (Z := Z) hZ (y := y') hown w1 hsame w2 w3 hi (P _ _ _ _ _ _ vm0 hZ hC.1 hE (fun x hx => hs x (hsf x hx)) F.2.2.2.2.2.2) eT I (g := mkF X.m pc Ls (argsL.reverse ++ .ref a :: st)) rfl (by rw [F.2.2.1]; exact hz) w4 (argsL := argsL) (rest := st) (lenOf hpd hlen) rfl (by show 2 * 0 + _ ≤ _; omega) (hb F.2.1 hd) (fun _ _ => ⟨hargs, eT, ble hk, ble hn⟩)
  exact (Go.back F eT hS hZ hown hC hF hs X2 hS2 hle hq hN G).back fun t q => stp.trans q
theorem g_superB (wsl : List Addr) {ix : Nat} {K : String} {rt' : Option FieldType} {y' : MethodName} {bs' : ByteArray} {ml' : Nat} {as' : Array Value} {kc' ks' : Nat} {Q' : Option Value → Heap → Prop} (sfc : List Addr) {a : Addr} (argsL : List Value) {ps : List FieldType} {r : Option FieldType} (hd : decode bs pc = .ok (.invokespecial ix, 3)) (hp : pc + 3 = pc') (hi : y'.name ≠ "<init>")
    (w1 : (Jvm.Cond.methodLink y.cls ix y').before a0 Z = true) (w2 : (Jvm.Cond.instanceMethod y').before a0 Z = true) (w3 : (Jvm.Cond.superclass y.cls y'.cls).before a0 Z = true) (hni : NI Z y'.cls) (I : Ins Z h a K true) (w4 : (Jvm.Cond.code y' bs' ml' rt').before a0 Z = true) (hy : y'.cls ≠ "java/lang/invoke/MethodHandle" ∧ y'.cls ≠ "java/lang/invoke/VarHandle")
    (P : Pay X.l R y' (st.map fun v => v.category).sum as' Z a0 EL true sfc h kc' ks' Q') (hKp : ∀ v h', Q' v h' → Keep h h' wsl) (hws : ∀ x ∈ wsl, x ∈ sf) (hpd : parseMethodDescriptor y'.desc = some ⟨ps, r⟩) (hlen : argsL.length = ps.length) (hargs : (Value.ref a :: argsL).toArray = as') (hz : Ls.size = ml) (hk : Nat.ble (k + kc') R.cells = true) (hn : Nat.ble (n + ks') R.slots = true) (hsf : ∀ x ∈ sfc, x ∈ sf)
    (G : ∀ v h', Q' v h' → h.size ≤ h'.size → ∃ nb : List Addr, (∀ x ∈ nb, h.size ≤ x ∧ x < h'.size) ∧ Go X R Z a0 EL nw y bs ml rt Q kc ks (nb ++ sf) h' (k + kc') (n + ks') (mkF X.m pc' Ls (v.toList ++ st))) : Go X R Z a0 EL nw y bs ml rt Q kc ks sf h k n (mkF X.m pc Ls (argsL.reverse ++ .ref a :: st)) := fun T S => by
  subst hp
  obtain ⟨F, vm0, L, X1, eT, hS, hZ, hown, hC, hF, hE, hs, hN⟩ := S
  have hsame : (Jvm.Cond.sameMethod y'.cls y'.cls y'.name y'.desc).before a0 Z = true := sameM_self w2 hy hni
  obtain ⟨v, vm1, B, -, X2, hS2, hle, hq, stp⟩ := superBackS X1 F.1 (Z := Z) hZ (y := y') hown w1 hsame w2 w3 hi (P _ _ _ _ _ _ vm0 hZ hC.1 hE (fun x hx => hs x (hsf x hx)) F.2.2.2.2.2.2) eT I (g := mkF X.m pc Ls (argsL.reverse ++ .ref a :: st)) rfl (by rw [F.2.2.1]; exact hz) w4 (argsL := argsL) (rest := st) (lenOf hpd hlen) rfl (by show 2 * 0 + _ ≤ _; omega) (hb F.2.1 hd) (fun _ _ => ⟨hargs, eT, ble hk, ble hn⟩)
  exact (Go.backB wsl F eT hS hZ hown hC hF hs X2 hS2 hle hq hN hKp hws G).back fun t q => stp.trans q
/-- System.arraycopy of bytes -/
theorem g_arraycopy {ix : Nat} {src dst : Addr} {k1 k2 : ClassId} {z1 z2 sp dp nn : Int32} {vs vd us : List Value} {dv dd : Value} (hd : decode bs pc = .ok (.invokestatic ix, 3)) (hp : pc + 3 = pc')
    (w1 : (Jvm.Cond.methodLink y.cls ix Jvm.Stand.acN).before a0 Z = true) (w2 : (Jvm.Cond.native Jvm.Stand.acN).before a0 Z = true) (w3 : (Jvm.Cond.static Jvm.Stand.acN).before a0 Z = true) (w4 : (Jvm.Cond.initialized "java/lang/System").before a0 Z = true)
    (A : Arv Z h src k1 .byte z1 vs dv) (B : Arv Z h dst k2 .byte z2 vd dd) (h1 : ¬ sp < 0) (h2 : ¬ dp < 0) (h3 : ¬ nn < 0) (h4 : sp.toNatClampNeg + nn.toNatClampNeg ≤ z1.toNatClampNeg) (h5 : dp.toNatClampNeg + nn.toNatClampNeg ≤ z2.toNatClampNeg)
    (hus : us = (List.range nn.toNatClampNeg).map fun i => vs.getD (sp.toNatClampNeg + i) dv) (hl : dp.toNatClampNeg + nn.toNatClampNeg ≤ vd.length) (ha : Z.heap.size ≤ dst) (hm : dst ∈ sf) (hz : Ls.size = ml) (hf : Nat.ble 1 R.frames = true) (hlo : Nat.ble ((st.map fun v => v.category).sum + (nativeFrameWords "java/lang/System" "arraycopy" 5 + 11)) R.locals = true)
    (G : ∀ h', Keep h h' [dst] → Arv Z h' dst k2 .byte z2 (vd.take dp.toNatClampNeg ++ us ++ vd.drop (dp.toNatClampNeg + nn.toNatClampNeg)) dd → Go X R Z a0 EL nw y bs ml rt Q kc ks sf h' k n (mkF X.m pc' Ls st)) : Go X R Z a0 EL nw y bs ml rt Q kc ks sf h k n (mkF X.m pc Ls (.int nn :: .int dp :: .ref dst :: .int sp :: .ref src :: st)) := fun T S => by
  subst hp
  obtain ⟨F, vm0, L, X1, eT, hS, hZ, hown, hC, hF, hE, hs, hN⟩ := S
  obtain ⟨T', h', L', X2, e2, hF2, K2, A2, stp⟩ := cpA X1 F.1 (Z := Z) hZ hown w1 w2 w3 w4 eT A B (Or.inl ⟨rfl, rfl⟩) h1 h2 h3 h4 h5 hus hl hF ha (g := mkF X.m pc Ls (.int nn :: .int dp :: .ref dst :: .int sp :: .ref src :: st)) rfl (by rw [F.2.2.1]; exact hz) rfl (hb F.2.1 hd) (ble hf) (W := (st.map fun v => v.category).sum) (by show 2 * 0 + _ ≤ _; omega) (ble hlo)
  exact (G h' K2 A2 T' (Spot.next F X2 e2 hS hZ hown hC (CHr.keep K2 (fun x hx => by cases List.mem_singleton.mp hx; exact (hs _ hm).2) hC.1) hF2 (ext_keep hE K2 (allS ha all0)) hs hN)).back stp
end Kit
end Own
open Own
namespace Own
open Jvm Jvm.ClassFile Sem Op Lib Jvm.Free Jvm.Stand Jvm.LawKit Jvm.RoadKit Bundle
/-- a boolean as an int -/
def b01 (b : Bool) : Int32 := if b then 1 else 0
theorem in0 {P : Int32 → Prop} : ∀ c ∈ ([] : List Int32), P c := fun _ q => nomatch q
theorem inS {P : Int32 → Prop} {c : Int32} {cs : List Int32} (q : P c) (r : ∀ x ∈ cs, P x) : ∀ x ∈ c :: cs, P x := fun x z => (List.mem_cons.mp z).elim (fun u => u ▸ q) (r x)
theorem i32_nat {c : Int32} (h0 : ¬ c < 0) : (c.toBitVec.toNat : Int) = c.toInt ∧ c.toBitVec.toNat < 2147483648 := by
  have h := c.toBitVec.isLt
  have e : c.toInt = c.toBitVec.toInt := rfl
  rw [Int32.lt_iff_toInt_lt] at h0
  have z : (0 : Int32).toInt = 0 := rfl
  rw [BitVec.toInt_eq_toNat_cond] at e
  split at e <;> omega
theorem c16_of {c : Int32} (h0 : ¬ c < 0) (h1 : ¬ (65535 : Int32) < c) : c.toUInt32.toUInt16.toUInt32.toInt32 = c := by
  obtain ⟨e, -⟩ := i32_nat h0
  have u : c.toInt ≤ 65535 := by
    rw [Int32.lt_iff_toInt_lt] at h1
    have z : (65535 : Int32).toInt = 65535 := rfl
    omega
  apply Int32.toBitVec_inj.mp
  apply BitVec.eq_of_toNat_eq
  show ((c.toBitVec.setWidth 16).setWidth 32).toNat = c.toBitVec.toNat
  rw [BitVec.toNat_setWidth, BitVec.toNat_setWidth]
  omega
theorem and_lt {x : Int32} (k : Nat) (hk : k < 2147483648) : ¬ (x &&& Int32.ofNat k) < 0 ∧ (x &&& Int32.ofNat k).toInt ≤ k := by
  have h : (x &&& Int32.ofNat k).toBitVec.toNat ≤ k := by
    rw [Int32.toBitVec_and, BitVec.toNat_and]
    refine Nat.le_trans Nat.and_le_right ?_
    show (BitVec.ofNat 32 k).toNat ≤ k
    rw [BitVec.toNat_ofNat]
    exact Nat.mod_le _ _
  have e : (x &&& Int32.ofNat k).toInt = (x &&& Int32.ofNat k).toBitVec.toInt := rfl
  rw [BitVec.toInt_eq_toNat_cond] at e
  have z : (0 : Int32).toInt = 0 := rfl
  rw [Int32.lt_iff_toInt_lt, z]
  split at e <;> omega
theorem and255 (x : Int32) : ¬ (x &&& 255) < 0 ∧ ¬ (255 : Int32) < (x &&& 255) := by
  obtain ⟨h1, h2⟩ := and_lt (x := x) 255 (by decide)
  refine ⟨h1, ?_⟩
  rw [Int32.lt_iff_toInt_lt]
  have z : (255 : Int32).toInt = 255 := rfl
  rw [z]
  have h2 : (x &&& 255).toInt ≤ 255 := h2
  omega
theorem to65 {c : Int32} (h : ¬ (255 : Int32) < c) : ¬ (65535 : Int32) < c := by
  rw [Int32.lt_iff_toInt_lt] at h ⊢
  have z : (255 : Int32).toInt = 255 := rfl
  have z' : (65535 : Int32).toInt = 65535 := rfl
  omega
/-- (char) (x & 255) -/
theorem c255 (x : Int32) : (x &&& 255).toUInt32.toUInt16.toUInt32.toInt32 = (x &&& 255) := c16_of (and255 x).1 (to65 (and255 x).2)
theorem nar_c (x : Int32) : nar .char x = x.toUInt32.toUInt16.toUInt32.toInt32 := rfl
theorem nar8 {c : Int32} (h : ¬ c < 0 ∧ ¬ (255 : Int32) < c) : nar .char c = c := c16_of h.1 (to65 h.2)
theorem nar16 {c : Int32} (h : ¬ c < 0 ∧ ¬ (65535 : Int32) < c) : nar .char c = c := c16_of h.1 h.2
theorem c16_range (x : Int32) : ¬ x.toUInt32.toUInt16.toUInt32.toInt32 < 0 ∧ ¬ (65535 : Int32) < x.toUInt32.toUInt16.toUInt32.toInt32 := by
  have e : (x.toUInt32.toUInt16.toUInt32.toInt32).toInt = ((x.toBitVec.setWidth 16).setWidth 32).toInt := rfl
  rw [BitVec.toInt_eq_toNat_cond, BitVec.toNat_setWidth, BitVec.toNat_setWidth] at e
  have z : (0 : Int32).toInt = 0 := rfl
  have z' : (65535 : Int32).toInt = 65535 := rfl
  rw [Int32.lt_iff_toInt_lt, Int32.lt_iff_toInt_lt, z, z']
  split at e <;> omega
theorem nar_idem (x : Int32) : nar .char (x.toUInt32.toUInt16.toUInt32.toInt32) = x.toUInt32.toUInt16.toUInt32.toInt32 := nar16 (c16_range x)
theorem ok8 (x : Int32) : ¬ (x &&& 255).toUInt32.toUInt16.toUInt32.toInt32 < 0 ∧ ¬ (255 : Int32) < (x &&& 255).toUInt32.toUInt16.toUInt32.toInt32 := by rw [c255]; exact and255 x
theorem and_small {x : Int32} {P : Int32 → Prop} (k : Nat) (hk : k < 2147483648) (h : ∀ i : Nat, i ≤ k → P (Int32.ofNat i)) : P (x &&& Int32.ofNat k) := by
  obtain ⟨h1, h2⟩ := and_lt (x := x) k hk
  obtain ⟨e, -⟩ := i32_nat h1
  have := h (x &&& Int32.ofNat k).toBitVec.toNat (by omega)
  have e2 : Int32.ofNat (x &&& Int32.ofNat k).toBitVec.toNat = (x &&& Int32.ofNat k) := by
    apply Int32.toBitVec_inj.mp
    show BitVec.ofNat 32 _ = _
    rw [BitVec.ofNat_toNat]; simp
  rw [e2] at this
  exact this
theorem toInt_ofNat {a : Nat} (ha : a < 2147483648) : (Int32.ofNat a).toInt = a := Int32.toInt_ofNat_small (by omega)
theorem ofNat_lt {a b : Nat} (ha : a < 2147483648) (hb : b < 2147483648) : Int32.ofNat a < Int32.ofNat b ↔ a < b := by
  rw [Int32.lt_iff_toInt_lt, toInt_ofNat ha, toInt_ofNat hb]; omega
theorem ofNat_nn {a : Nat} (ha : a < 2147483648) : ¬ Int32.ofNat a < 0 := by
  rw [Int32.lt_iff_toInt_lt, toInt_ofNat ha]
  have z : (0 : Int32).toInt = 0 := rfl
  omega
theorem ofNat_clamp {a : Nat} (ha : a < 2147483648) : (Int32.ofNat a).toNatClampNeg = a := by
  show (Int32.ofNat a).toInt.toNat = a
  rw [toInt_ofNat ha]; rfl
theorem nn_ofNat {c : Int32} (h : ¬ c < 0) : ∃ m : Nat, m < 2147483648 ∧ c = Int32.ofNat m := by
  have hh : ¬ c < 0 := h
  have b := c.toBitVec.isLt
  have e : c.toInt = c.toBitVec.toInt := rfl
  rw [Int32.lt_iff_toInt_lt] at hh
  have z : (0 : Int32).toInt = 0 := rfl
  rw [BitVec.toInt_eq_toNat_cond] at e
  refine ⟨c.toBitVec.toNat, by split at e <;> omega, ?_⟩
  apply Int32.toBitVec_inj.mp
  show _ = BitVec.ofNat 32 _
  rw [BitVec.ofNat_toNat]; simp
theorem ofNat_succ (a : Nat) : Int32.ofNat a + Int32.ofInt 1 = Int32.ofNat (a + 1) := by
  apply Int32.toBitVec_inj.mp
  show BitVec.ofNat 32 a + BitVec.ofInt 32 1 = BitVec.ofNat 32 (a + 1)
  apply BitVec.eq_of_toNat_eq
  simp [BitVec.toNat_add, BitVec.toNat_ofNat]
theorem mod_ofNat {m d : Nat} (hm : m < 2147483648) (hd : d < 2147483648) (h0 : 0 < d) : Int32.ofNat m % Int32.ofNat d = Int32.ofNat (m % d) := by
  have hlt := Nat.mod_lt m h0
  apply Int32.toInt_inj.mp
  rw [Int32.toInt_mod, toInt_ofNat hm, toInt_ofNat hd, toInt_ofNat (by omega)]
  exact (Int.ofNat_tmod m d).symm
theorem ofNat_inj {a b : Nat} (ha : a < 2147483648) (hb : b < 2147483648) : Int32.ofNat a = Int32.ofNat b ↔ a = b := by
  rw [← Int32.toInt_inj, toInt_ofNat ha, toInt_ofNat hb]; omega
theorem ok8L (y : Int64) : ¬ (y &&& 255).toInt32.toUInt32.toUInt16.toUInt32.toInt32 < 0 ∧ ¬ (255 : Int32) < (y &&& 255).toInt32.toUInt32.toUInt16.toUInt32.toInt32 := by
  have b : (y.toBitVec &&& (255 : BitVec 64)).toNat ≤ 255 := by
    rw [BitVec.toNat_and]
    exact Nat.and_le_right
  have e : (y &&& 255).toInt32.toInt = ((y.toBitVec &&& (255 : BitVec 64)).signExtend 32).toInt := rfl
  rw [BitVec.signExtend_eq_setWidth_of_le _ (by decide)] at e
  rw [BitVec.toInt_eq_toNat_cond, BitVec.toNat_setWidth] at e
  have z : (0 : Int32).toInt = 0 := rfl
  have z' : (255 : Int32).toInt = 255 := rfl
  have h : ¬ (y &&& 255).toInt32 < 0 ∧ ¬ (255 : Int32) < (y &&& 255).toInt32 := by
    rw [Int32.lt_iff_toInt_lt, Int32.lt_iff_toInt_lt, z, z']
    split at e <;> omega
  rw [c16_of h.1 (to65 h.2)]
  exact h
theorem shl1 (i : Nat) : Int32.ofNat i <<< ((1 : Int32) &&& 31) = Int32.ofNat (2 * i) := by
  apply Int32.toBitVec_inj.mp
  rw [Int32.toBitVec_shiftLeft]
  have : (((1 : Int32) &&& 31).toBitVec.smod 32) = 1#32 := by decide
  rw [this]
  apply BitVec.eq_of_toNat_eq
  rw [BitVec.shiftLeft_eq', BitVec.toNat_shiftLeft]
  show ((BitVec.ofNat 32 i).toNat <<< (1#32).toNat) % 2 ^ 32 = (BitVec.ofNat 32 (2 * i)).toNat
  rw [BitVec.toNat_ofNat, BitVec.toNat_ofNat, Nat.shiftLeft_eq]
  simp
  omega
theorem cod1 {n : Nat} (h0 : 0 < n) (h1 : n ≤ 4000) : ((Int32.ofNat n - Int32.ofNat (2 * n)).toUInt32 >>> ((31 : Int32) &&& 31).toUInt32).toInt32.toInt8.toInt32 = 1 := by
  have e : (Int32.ofNat n - Int32.ofNat (2 * n)).toBitVec.toNat = 4294967296 - n := by
    rw [Int32.toBitVec_sub]
    show (BitVec.ofNat 32 n - BitVec.ofNat 32 (2 * n)).toNat = _
    rw [BitVec.toNat_sub, BitVec.toNat_ofNat, BitVec.toNat_ofNat]
    omega
  have e2 : ((Int32.ofNat n - Int32.ofNat (2 * n)).toUInt32 >>> ((31 : Int32) &&& 31).toUInt32).toInt32 = 1 := by
    apply Int32.toBitVec_inj.mp
    apply BitVec.eq_of_toNat_eq
    show ((Int32.ofNat n - Int32.ofNat (2 * n)).toUInt32 >>> ((31 : Int32) &&& 31).toUInt32).toNat = 1
    rw [UInt32.toNat_shiftRight]
    have : (((31 : Int32) &&& 31).toUInt32).toNat % 32 = 31 := by decide
    rw [this]
    show (Int32.ofNat n - Int32.ofNat (2 * n)).toBitVec.toNat >>> 31 = 1
    rw [e, Nat.shiftRight_eq_div_pow]
    omega
  rw [e2]
  decide
theorem bl {a b : Nat} (h : a ≤ b) : Nat.ble a b = true := Nat.ble_eq_true_of_le h
end Own
namespace Own
open Jvm Jvm.ClassFile Sem Op Lib Jvm.Free Jvm.Stand Jvm.LawKit Jvm.RoadKit Bundle
section Strs
variable {X : Cx} {l : Launch} {R : Room} {Z : State} {a0 : Array Value} {EL : List (String × Nat)} {nw : Bool} {sf : List Addr} {h h' : Heap} {W : Nat} {x x' b : Addr} {cs ds : List Int32}
/-- at x stands a String that spells cs -/
def Str (Z : State) (h : Heap) (x : Addr) (cs : List Int32) : Prop :=
  Exa Z h x "java/lang/String" ∧ ∃ (t : Addr) (kb : ClassId) (cd N2 : Int32) (vs : List Value), Fld Z h x "java/lang/String" "value" "[B" (.ref t) ∧ Fld Z h x "java/lang/String" "coder" "B" (.int cd) ∧ Arv Z h t kb .byte N2 vs (.int 0) ∧ StrChars.Road.CodA cs cd N2 vs ∧ (∀ c ∈ cs, ¬ c < 0 ∧ ¬ (65535 : Int32) < c) ∧ cs.length ≤ 4000
theorem Str.ext (S : Str Z h x cs) (E : Ext h h') : Str Z h' x cs := by
  obtain ⟨E1, t, kb, cd, N2, vs, h1, h2, h3, r⟩ := S
  exact ⟨E1.ext E, t, kb, cd, N2, vs, h1.ext E, h2.ext E, h3.ext E, r⟩
theorem Str.exa (S : Str Z h x cs) : Exa Z h x "java/lang/String" := S.1
theorem Str.lt (S : Str Z h x cs) : x < h.size := S.1.lt
theorem up255 (q : ∀ c ∈ cs, ¬ c < 0 ∧ ¬ (255 : Int32) < c) : ∀ c ∈ cs, ¬ c < 0 ∧ ¬ (65535 : Int32) < c := fun c hc => ⟨(q c hc).1, fun u => (q c hc).2 (by rw [Int32.lt_iff_toInt_lt] at u ⊢; have e1 : (65535 : Int32).toInt = 65535 := rfl; have e2 : (255 : Int32).toInt = 255 := rfl; omega)⟩
theorem Str.of_lit {kb : ClassId} {z : Int32} {vs : List Value} {t : Addr} (E : Exa Z h x "java/lang/String") (C : Fld Z h x "java/lang/String" "coder" "B" (.int 0)) (V : Fld Z h x "java/lang/String" "value" "[B" (.ref t)) (A : Arv Z h t kb .byte z vs (.int 0)) (hz : z = Int32.ofNat cs.length) (hv : vs = cs.map fun c => Value.int (StrChars.lo8 c)) (hc : ∀ c ∈ cs, ¬ c < 0 ∧ ¬ (255 : Int32) < c) (hl : cs.length ≤ 4000) : Str Z h x cs :=
  ⟨E, t, kb, 0, z, vs, V, C, A, Or.inl ⟨rfl, hz, hv, fun c q => (hc c q).2⟩, up255 hc, hl⟩
/-- a String constant, read -/
theorem g_lit {y : MethodName} {bs : ByteArray} {ml : Nat} {rt : Option FieldType} {Q : Option Value → Heap → Prop} {kc ks k n pc pc' : Nat} {Ls : Array Slot} {st : List Value} (hnw : nw = false) {text : String} {ix : Nat} (cs : List Int32) (nn : Nat) (hd : decode bs pc = .ok (.ldc ix, 2)) (hp : pc + 2 = pc') (w : (Jvm.Cond.stringLink y.cls ix text).before a0 Z = true) (wS : ∀ a ∈ Bundle.stringAtoms, a.before a0 Z = true) (hm : (y.cls, ix) ∈ EL)
    (ht : (∀ c ∈ text.toList, c.toNat < 256) ∧ text.toList.map (fun c => Value.int (Jvm.Lit.byteI c.toNat.toUInt16)) = cs.map fun c => Value.int (StrChars.lo8 c)) (hc : ∀ c ∈ cs, ¬ c < 0 ∧ ¬ (255 : Int32) < c) (hz : ¬ Int32.ofNat cs.length < 0) (hl : (Int32.ofNat cs.length).toNatClampNeg = cs.length) (hcl : Nat.ble cs.length 4000 = true) (h4 : Nat.ble (4 * text.toList.length) nn = true) (hbig : Nat.ble nn 536870912 = true) (hk : Nat.ble (k + 2) R.cells = true) (hn : Nat.ble (n + (nn + 4)) R.slots = true)
    (G : ∀ h' a, Ext h h' → Str Z h' a cs → (∀ x ∈ sf, x ≠ a) → Go X R Z a0 EL nw y bs ml rt Q kc ks sf h' (k + 2) (n + (nn + 4)) (mkF X.m pc' Ls (.ref a :: st))) : Go X R Z a0 EL nw y bs ml rt Q kc ks sf h k n (mkF X.m pc Ls st) :=
  g_ldcS hnw (z := Int32.ofNat cs.length) hd hp w wS hm ht hz (by rw [hl, List.length_map]) h4 hbig hk hn fun h' a b kb E A1 A2 A3 A4 hne => G h' a E (Str.of_lit A1 A2 A3 A4 rfl rfl hc (ble hcl)) fun x hx => (hne x hx).1
theorem pay_new {kC : ClassId} {N z : Int32} {d v0 c0 : Value} {n : Nat} (hws : ∀ d ∈ StrChars.Road.words, d.before a0 Z = true) (wi : (Jvm.Cond.instantiable "java/lang/String" 4).before a0 Z = true) (S : Sta Z Z.heap "java/lang/String" "COMPACT_STRINGS" "Z" (.int z)) (hz : ¬ z = 0) (EZ : Ext Z.heap h) (hx0 : Z.heap.size ≤ x)
    (E : Exa Z h x "java/lang/String") (V : Fld Z h x "java/lang/String" "value" "[B" v0) (C : Fld Z h x "java/lang/String" "coder" "B" c0) (K : Arv Z h b kC .char N (cs.map Value.int) d) (hn : cs.length = n) (hN : N = Int32.ofNat n) (l0 : Nat.ble 1 n = true) (l2 : Nat.ble n 4000 = true) (hp : ∀ c ∈ cs, ¬ c < 0 ∧ ¬ (255 : Int32) < c) (hfr : Nat.ble 4 R.frames = true) (hlo : Nat.ble (W + 65) R.locals = true) :
    Pay l R ⟨"java/lang/String", "<init>", "([C)V"⟩ W #[.ref x, .ref b] Z a0 EL nw [x] h 1 n (fun v h' => v = none ∧ Keep h h' [x] ∧ Str Z h' x cs) :=
  Pay.of_back [x] (fun p e below s args len hZ => StrChars.Road.backV (n0 := Z.heap.size) hZ hws (kI := 4) wi hx0 EZ.1 E V C K (S.ext EZ) hz hn hN (ble l0) (ble l2) hp rfl (ble hfr) (ble hlo)) (fun y hy => ⟨hy, by cases List.mem_singleton.mp hy; exact hx0⟩)
    (fun v h' L q => by
      obtain ⟨e1, N1, K1, E1, C1, t, kb, -, -, -, V1, A1⟩ := q
      exact ⟨⟨e1, K1, E1, t, kb, 0, N, _, V1, C1, A1, by rw [hN]; exact StrChars.Road.codOf hn (fun c hc => (hp c hc).2), up255 hp, by rw [hn]; exact ble l2⟩, K1, N1⟩)
theorem Str.lat (T : Str Z h x cs) (hp : ∀ c ∈ cs, ¬ (255 : Int32) < c) : ∃ (t : Addr) (kb : ClassId) (N2 : Int32) (vs : List Value), Fld Z h x "java/lang/String" "value" "[B" (.ref t) ∧ Fld Z h x "java/lang/String" "coder" "B" (.int 0) ∧ Arv Z h t kb .byte N2 vs (.int 0) ∧ StrChars.Road.CodA cs 0 N2 vs ∧ (∀ c ∈ cs, ¬ c < 0 ∧ ¬ (65535 : Int32) < c) ∧ cs.length ≤ 4000 := by
  obtain ⟨E1, t, kb, cd, N2, vs, V, C, A, hc, hb, hl⟩ := T
  have e : cd = 0 := by
    rcases hc with q | ⟨-, -, -, c, q1, q2⟩
    · exact q.1
    · exact absurd q2 (hp c q1)
  subst e
  exact ⟨t, kb, N2, vs, V, C, A, hc, hb, hl⟩
end Strs
end Own
namespace Own
open Jvm Jvm.ClassFile Sem Op Lib Jvm.Free Jvm.Stand Jvm.LawKit Jvm.RoadKit Bundle
section Strs
variable {X : Cx} {l : Launch} {R : Room} {Z : State} {a0 : Array Value} {EL : List (String × Nat)} {nw : Bool} {sf : List Addr} {h h' : Heap} {W : Nat} {x x' b : Addr} {cs ds : List Int32}
theorem pay_eq {z : Int32} (heq : ∀ d ∈ StrChars.Road.wordsEq, d.before a0 Z = true) (wi : (Jvm.Cond.instantiable "java/lang/String" 4).before a0 Z = true) (S : Sta Z Z.heap "java/lang/String" "COMPACT_STRINGS" "Z" (.int z)) (hz : ¬ z = 0) (EZ : Ext Z.heap h) (T : Str Z h x cs) (T' : Str Z h x' ds) (hfr : Nat.ble 2 R.frames = true) (hlo : Nat.ble (W + 28) R.locals = true) :
    Pay l R ⟨"java/lang/String", "equals", "(Ljava/lang/Object;)Z"⟩ W #[.ref x, .ref x'] Z a0 EL nw sf h 0 0 (fun v h' => ((v = some (.int 1) ∧ cs = ds) ∨ (v = some (.int 0) ∧ ¬ cs = ds)) ∧ h' = h) := by
  obtain ⟨E1, t, kb, cd, N2, vs, V, C, A, hc, hb, hl⟩ := T
  obtain ⟨E1', t', kb', cd', N2', vs', V', C', A', hc', hb', hl'⟩ := T'
  exact Pay.pure (P := fun v => (v = some (.int 1) ∧ cs = ds) ∨ (v = some (.int 0) ∧ ¬ cs = ds)) fun p e below s args len hZ => StrChars.Road.eqW hZ heq (kI := 4) wi E1 V C A hc hb hl E1' V' C' A' hc' hb' hl' (S.ext EZ) hz (ble hfr) (ble hlo)
end Strs
end Own
theorem wl_TextHashCodePinLaw_40 {a0 : Array Value} {Z : State} (hw : ∀ d ∈ tables_1, d.before a0 Z = true) : (Jvm.Cond.methodLink "com/example/simple_rocchio/simplerocchio/TextHashCodePinLaw" (40 : Nat) ({ cls := "com/example/simple_rocchio/simplerocchio/TextHashCodePinLaw", name := "make", desc := "(II)Lcom/example/simple_rocchio/simplerocchio/CollectionDocument$Text;" } : Jvm.MethodName)).before a0 Z = true := hw _ (List.mem_of_getElem? (i := 0) rfl)
theorem ws_TextHashCodePinLaw_make_lIIrLcomexamplesimple_rocchiosimplerocchioCollectionDocumentSText {a0 : Array Value} {Z : State} (hw : ∀ d ∈ tables_1, d.before a0 Z = true) : (Jvm.Cond.static ({ cls := "com/example/simple_rocchio/simplerocchio/TextHashCodePinLaw", name := "make", desc := "(II)Lcom/example/simple_rocchio/simplerocchio/CollectionDocument$Text;" } : Jvm.MethodName)).before a0 Z = true := hw _ (List.mem_of_getElem? (i := 1) rfl)
theorem wi_TextHashCodePinLaw {a0 : Array Value} {Z : State} (hw : ∀ d ∈ tables_1, d.before a0 Z = true) : (Jvm.Cond.initialized "com/example/simple_rocchio/simplerocchio/TextHashCodePinLaw").before a0 Z = true := hw _ (List.mem_of_getElem? (i := 2) rfl)
theorem wb_TextHashCodePinLaw_make_lIIrLcomexamplesimple_rocchiosimplerocchioCollectionDocumentSText {a0 : Array Value} {Z : State} (hw : ∀ d ∈ tables_1, d.before a0 Z = true) : (Jvm.Cond.code ({ cls := "com/example/simple_rocchio/simplerocchio/TextHashCodePinLaw", name := "make", desc := "(II)Lcom/example/simple_rocchio/simplerocchio/CollectionDocument$Text;" } : Jvm.MethodName) method_4_code (2 : Nat) (Option.some (Jvm.ClassFile.FieldType.object "com/example/simple_rocchio/simplerocchio/CollectionDocument$Text"))).before a0 Z = true := hw _ (List.mem_of_getElem? (i := 3) rfl)
theorem wc_TextHashCodePinLaw_25 {a0 : Array Value} {Z : State} (hw : ∀ d ∈ tables_1, d.before a0 Z = true) : (Jvm.Cond.classLink "com/example/simple_rocchio/simplerocchio/TextHashCodePinLaw" (25 : Nat) "com/example/simple_rocchio/simplerocchio/CollectionDocument$Text").before a0 Z = true := hw _ (List.mem_of_getElem? (i := 4) rfl)
theorem wn_CollectionDocumentSText {a0 : Array Value} {Z : State} (hw : ∀ d ∈ tables_1, d.before a0 Z = true) : (Jvm.Cond.instantiable "com/example/simple_rocchio/simplerocchio/CollectionDocument$Text" (2 : Nat)).before a0 Z = true := hw _ (List.mem_of_getElem? (i := 5) rfl)
theorem wi_CollectionDocumentSText {a0 : Array Value} {Z : State} (hw : ∀ d ∈ tables_1, d.before a0 Z = true) : (Jvm.Cond.initialized "com/example/simple_rocchio/simplerocchio/CollectionDocument$Text").before a0 Z = true := hw _ (List.mem_of_getElem? (i := 6) rfl)
theorem wl_TextHashCodePinLaw_27 {a0 : Array Value} {Z : State} (hw : ∀ d ∈ tables_1, d.before a0 Z = true) : (Jvm.Cond.methodLink "com/example/simple_rocchio/simplerocchio/TextHashCodePinLaw" (27 : Nat) ({ cls := "com/example/simple_rocchio/simplerocchio/TextHashCodePinLaw", name := "str", desc := "(II)Ljava/lang/String;" } : Jvm.MethodName)).before a0 Z = true := hw _ (List.mem_of_getElem? (i := 7) rfl)
theorem ws_TextHashCodePinLaw_str_lIIrLjavalangString {a0 : Array Value} {Z : State} (hw : ∀ d ∈ tables_1, d.before a0 Z = true) : (Jvm.Cond.static ({ cls := "com/example/simple_rocchio/simplerocchio/TextHashCodePinLaw", name := "str", desc := "(II)Ljava/lang/String;" } : Jvm.MethodName)).before a0 Z = true := hw _ (List.mem_of_getElem? (i := 8) rfl)
theorem wb_TextHashCodePinLaw_str_lIIrLjavalangString {a0 : Array Value} {Z : State} (hw : ∀ d ∈ tables_1, d.before a0 Z = true) : (Jvm.Cond.code ({ cls := "com/example/simple_rocchio/simplerocchio/TextHashCodePinLaw", name := "str", desc := "(II)Ljava/lang/String;" } : Jvm.MethodName) method_2_code (2 : Nat) (Option.some (Jvm.ClassFile.FieldType.object "java/lang/String"))).before a0 Z = true := hw _ (List.mem_of_getElem? (i := 9) rfl)
theorem wc_TextHashCodePinLaw_7 {a0 : Array Value} {Z : State} (hw : ∀ d ∈ tables_1, d.before a0 Z = true) : (Jvm.Cond.classLink "com/example/simple_rocchio/simplerocchio/TextHashCodePinLaw" (7 : Nat) "java/lang/String").before a0 Z = true := hw _ (List.mem_of_getElem? (i := 10) rfl)
theorem wn_String {a0 : Array Value} {Z : State} (hw : ∀ d ∈ tables_1, d.before a0 Z = true) : (Jvm.Cond.instantiable "java/lang/String" (4 : Nat)).before a0 Z = true := hw _ (List.mem_of_getElem? (i := 11) rfl)
theorem wi_String {a0 : Array Value} {Z : State} (hw : ∀ d ∈ tables_1, d.before a0 Z = true) : (Jvm.Cond.initialized "java/lang/String").before a0 Z = true := hw _ (List.mem_of_getElem? (i := 12) rfl)
theorem wa_char {a0 : Array Value} {Z : State} (hw : ∀ d ∈ tables_1, d.before a0 Z = true) : (Jvm.Cond.arrayClass Jvm.ClassFile.FieldType.char).before a0 Z = true := hw _ (List.mem_of_getElem? (i := 13) rfl)
theorem wl_TextHashCodePinLaw_9 {a0 : Array Value} {Z : State} (hw : ∀ d ∈ tables_1, d.before a0 Z = true) : (Jvm.Cond.methodLink "com/example/simple_rocchio/simplerocchio/TextHashCodePinLaw" (9 : Nat) ({ cls := "java/lang/String", name := "<init>", desc := "([C)V" } : Jvm.MethodName)).before a0 Z = true := hw _ (List.mem_of_getElem? (i := 14) rfl)
theorem wm_String_init_lACrV {a0 : Array Value} {Z : State} (hw : ∀ d ∈ tables_1, d.before a0 Z = true) : (Jvm.Cond.instanceMethod ({ cls := "java/lang/String", name := "<init>", desc := "([C)V" } : Jvm.MethodName)).before a0 Z = true := hw _ (List.mem_of_getElem? (i := 15) rfl)
theorem wb_String_init_lACrV {a0 : Array Value} {Z : State} (hw : ∀ d ∈ tables_1, d.before a0 Z = true) : (Jvm.Cond.code ({ cls := "java/lang/String", name := "<init>", desc := "([C)V" } : Jvm.MethodName) jdk_42_method_3_code (2 : Nat) (Option.none : Option Jvm.ClassFile.FieldType)).before a0 Z = true := hw _ (List.mem_of_getElem? (i := 16) rfl)
theorem wl_String_27 {a0 : Array Value} {Z : State} (hw : ∀ d ∈ tables_1, d.before a0 Z = true) : (Jvm.Cond.methodLink "java/lang/String" (27 : Nat) ({ cls := "java/lang/String", name := "<init>", desc := "([CIILjava/lang/Void;)V" } : Jvm.MethodName)).before a0 Z = true := hw _ (List.mem_of_getElem? (i := 17) rfl)
theorem wm_String_init_lACIILjavalangVoidrV {a0 : Array Value} {Z : State} (hw : ∀ d ∈ tables_1, d.before a0 Z = true) : (Jvm.Cond.instanceMethod ({ cls := "java/lang/String", name := "<init>", desc := "([CIILjava/lang/Void;)V" } : Jvm.MethodName)).before a0 Z = true := hw _ (List.mem_of_getElem? (i := 18) rfl)
theorem wx_String_String {a0 : Array Value} {Z : State} (hw : ∀ d ∈ tables_1, d.before a0 Z = true) : (Jvm.Cond.castable "java/lang/String" "java/lang/String").before a0 Z = true := hw _ (List.mem_of_getElem? (i := 19) rfl)
theorem wb_String_init_lACIILjavalangVoidrV {a0 : Array Value} {Z : State} (hw : ∀ d ∈ tables_1, d.before a0 Z = true) : (Jvm.Cond.code ({ cls := "java/lang/String", name := "<init>", desc := "([CIILjava/lang/Void;)V" } : Jvm.MethodName) jdk_42_method_149_code (6 : Nat) (Option.none : Option Jvm.ClassFile.FieldType)).before a0 Z = true := hw _ (List.mem_of_getElem? (i := 20) rfl)
theorem wl_String_1 {a0 : Array Value} {Z : State} (hw : ∀ d ∈ tables_1, d.before a0 Z = true) : (Jvm.Cond.methodLink "java/lang/String" (1 : Nat) ({ cls := "java/lang/Object", name := "<init>", desc := "()V" } : Jvm.MethodName)).before a0 Z = true := hw _ (List.mem_of_getElem? (i := 21) rfl)
theorem wm_Object_init_lrV {a0 : Array Value} {Z : State} (hw : ∀ d ∈ tables_1, d.before a0 Z = true) : (Jvm.Cond.instanceMethod ({ cls := "java/lang/Object", name := "<init>", desc := "()V" } : Jvm.MethodName)).before a0 Z = true := hw _ (List.mem_of_getElem? (i := 22) rfl)
theorem wb_Object_init_lrV {a0 : Array Value} {Z : State} (hw : ∀ d ∈ tables_1, d.before a0 Z = true) : (Jvm.Cond.code ({ cls := "java/lang/Object", name := "<init>", desc := "()V" } : Jvm.MethodName) object_method_1_code (1 : Nat) (Option.none : Option Jvm.ClassFile.FieldType)).before a0 Z = true := hw _ (List.mem_of_getElem? (i := 23) rfl)
theorem wt_String_7 {a0 : Array Value} {Z : State} (hw : ∀ d ∈ tables_1, d.before a0 Z = true) : (Jvm.Cond.stringLink "java/lang/String" (7 : Nat) "").before a0 Z = true := hw _ (List.mem_of_getElem? (i := 24) rfl)
theorem wa_byte {a0 : Array Value} {Z : State} (hw : ∀ d ∈ tables_1, d.before a0 Z = true) : (Jvm.Cond.arrayClass Jvm.ClassFile.FieldType.byte).before a0 Z = true := hw _ (List.mem_of_getElem? (i := 25) rfl)
theorem wy_String_String_value {a0 : Array Value} {Z : State} (hw : ∀ d ∈ tables_1, d.before a0 Z = true) : (Jvm.Cond.laysFinal "java/lang/String" "java/lang/String" "value" "[B").before a0 Z = true := hw _ (List.mem_of_getElem? (i := 26) rfl)
theorem wy_String_String_coder {a0 : Array Value} {Z : State} (hw : ∀ d ∈ tables_1, d.before a0 Z = true) : (Jvm.Cond.laysFinal "java/lang/String" "java/lang/String" "coder" "B").before a0 Z = true := hw _ (List.mem_of_getElem? (i := 27) rfl)
theorem wj_String_value {a0 : Array Value} {Z : State} (hw : ∀ d ∈ tables_1, d.before a0 Z = true) : (Jvm.Cond.soleField "java/lang/String" "value").before a0 Z = true := hw _ (List.mem_of_getElem? (i := 28) rfl)
theorem wj_String_coder {a0 : Array Value} {Z : State} (hw : ∀ d ∈ tables_1, d.before a0 Z = true) : (Jvm.Cond.soleField "java/lang/String" "coder").before a0 Z = true := hw _ (List.mem_of_getElem? (i := 29) rfl)
theorem wf_String_9 {a0 : Array Value} {Z : State} (hw : ∀ d ∈ tables_1, d.before a0 Z = true) : (Jvm.Cond.fieldLink "java/lang/String" (9 : Nat) "java/lang/String" "value" "[B").before a0 Z = true := hw _ (List.mem_of_getElem? (i := 30) rfl)
theorem wf_String_15 {a0 : Array Value} {Z : State} (hw : ∀ d ∈ tables_1, d.before a0 Z = true) : (Jvm.Cond.fieldLink "java/lang/String" (15 : Nat) "java/lang/String" "coder" "B").before a0 Z = true := hw _ (List.mem_of_getElem? (i := 31) rfl)
theorem wl_TextHashCodePinLaw_33 {a0 : Array Value} {Z : State} (hw : ∀ d ∈ tables_1, d.before a0 Z = true) : (Jvm.Cond.methodLink "com/example/simple_rocchio/simplerocchio/TextHashCodePinLaw" (33 : Nat) ({ cls := "com/example/simple_rocchio/simplerocchio/TextHashCodePinLaw", name := "fields", desc := "(I)Ljava/util/List;" } : Jvm.MethodName)).before a0 Z = true := hw _ (List.mem_of_getElem? (i := 32) rfl)
theorem ws_TextHashCodePinLaw_fields_lIrLjavautilList {a0 : Array Value} {Z : State} (hw : ∀ d ∈ tables_1, d.before a0 Z = true) : (Jvm.Cond.static ({ cls := "com/example/simple_rocchio/simplerocchio/TextHashCodePinLaw", name := "fields", desc := "(I)Ljava/util/List;" } : Jvm.MethodName)).before a0 Z = true := hw _ (List.mem_of_getElem? (i := 33) rfl)
theorem wb_TextHashCodePinLaw_fields_lIrLjavautilList {a0 : Array Value} {Z : State} (hw : ∀ d ∈ tables_1, d.before a0 Z = true) : (Jvm.Cond.code ({ cls := "com/example/simple_rocchio/simplerocchio/TextHashCodePinLaw", name := "fields", desc := "(I)Ljava/util/List;" } : Jvm.MethodName) method_3_code (3 : Nat) (Option.some (Jvm.ClassFile.FieldType.object "java/util/List"))).before a0 Z = true := hw _ (List.mem_of_getElem? (i := 34) rfl)
theorem wc_TextHashCodePinLaw_12 {a0 : Array Value} {Z : State} (hw : ∀ d ∈ tables_1, d.before a0 Z = true) : (Jvm.Cond.classLink "com/example/simple_rocchio/simplerocchio/TextHashCodePinLaw" (12 : Nat) "java/util/ArrayList").before a0 Z = true := hw _ (List.mem_of_getElem? (i := 35) rfl)
theorem wn_ArrayList {a0 : Array Value} {Z : State} (hw : ∀ d ∈ tables_1, d.before a0 Z = true) : (Jvm.Cond.instantiable "java/util/ArrayList" (3 : Nat)).before a0 Z = true := hw _ (List.mem_of_getElem? (i := 36) rfl)
theorem wi_ArrayList {a0 : Array Value} {Z : State} (hw : ∀ d ∈ tables_1, d.before a0 Z = true) : (Jvm.Cond.initialized "java/util/ArrayList").before a0 Z = true := hw _ (List.mem_of_getElem? (i := 37) rfl)
theorem wl_TextHashCodePinLaw_14 {a0 : Array Value} {Z : State} (hw : ∀ d ∈ tables_1, d.before a0 Z = true) : (Jvm.Cond.methodLink "com/example/simple_rocchio/simplerocchio/TextHashCodePinLaw" (14 : Nat) ({ cls := "java/util/ArrayList", name := "<init>", desc := "()V" } : Jvm.MethodName)).before a0 Z = true := hw _ (List.mem_of_getElem? (i := 38) rfl)
theorem wm_ArrayList_init_lrV {a0 : Array Value} {Z : State} (hw : ∀ d ∈ tables_1, d.before a0 Z = true) : (Jvm.Cond.instanceMethod ({ cls := "java/util/ArrayList", name := "<init>", desc := "()V" } : Jvm.MethodName)).before a0 Z = true := hw _ (List.mem_of_getElem? (i := 39) rfl)
theorem wb_ArrayList_init_lrV {a0 : Array Value} {Z : State} (hw : ∀ d ∈ tables_1, d.before a0 Z = true) : (Jvm.Cond.code ({ cls := "java/util/ArrayList", name := "<init>", desc := "()V" } : Jvm.MethodName) jdk_38_method_2_code (1 : Nat) (Option.none : Option Jvm.ClassFile.FieldType)).before a0 Z = true := hw _ (List.mem_of_getElem? (i := 40) rfl)
theorem wl_ArrayList_1 {a0 : Array Value} {Z : State} (hw : ∀ d ∈ tables_1, d.before a0 Z = true) : (Jvm.Cond.methodLink "java/util/ArrayList" (1 : Nat) ({ cls := "java/util/AbstractList", name := "<init>", desc := "()V" } : Jvm.MethodName)).before a0 Z = true := hw _ (List.mem_of_getElem? (i := 41) rfl)
theorem wm_AbstractList_init_lrV {a0 : Array Value} {Z : State} (hw : ∀ d ∈ tables_1, d.before a0 Z = true) : (Jvm.Cond.instanceMethod ({ cls := "java/util/AbstractList", name := "<init>", desc := "()V" } : Jvm.MethodName)).before a0 Z = true := hw _ (List.mem_of_getElem? (i := 42) rfl)
theorem wd_AbstractList_init_lrV {a0 : Array Value} {Z : State} (hw : ∀ d ∈ tables_1, d.before a0 Z = true) : (Jvm.Cond.declares ({ cls := "java/util/AbstractList", name := "<init>", desc := "()V" } : Jvm.MethodName)).before a0 Z = true := hw _ (List.mem_of_getElem? (i := 43) rfl)
theorem wx_ArrayList_AbstractList {a0 : Array Value} {Z : State} (hw : ∀ d ∈ tables_1, d.before a0 Z = true) : (Jvm.Cond.castable "java/util/ArrayList" "java/util/AbstractList").before a0 Z = true := hw _ (List.mem_of_getElem? (i := 44) rfl)
theorem wi_AbstractList {a0 : Array Value} {Z : State} (hw : ∀ d ∈ tables_1, d.before a0 Z = true) : (Jvm.Cond.initialized "java/util/AbstractList").before a0 Z = true := hw _ (List.mem_of_getElem? (i := 45) rfl)
theorem wb_AbstractList_init_lrV {a0 : Array Value} {Z : State} (hw : ∀ d ∈ tables_1, d.before a0 Z = true) : (Jvm.Cond.code ({ cls := "java/util/AbstractList", name := "<init>", desc := "()V" } : Jvm.MethodName) jdk_39_method_1_code (1 : Nat) (Option.none : Option Jvm.ClassFile.FieldType)).before a0 Z = true := hw _ (List.mem_of_getElem? (i := 46) rfl)
theorem wl_AbstractList_1 {a0 : Array Value} {Z : State} (hw : ∀ d ∈ tables_1, d.before a0 Z = true) : (Jvm.Cond.methodLink "java/util/AbstractList" (1 : Nat) ({ cls := "java/util/AbstractCollection", name := "<init>", desc := "()V" } : Jvm.MethodName)).before a0 Z = true := hw _ (List.mem_of_getElem? (i := 47) rfl)
theorem wm_AbstractCollection_init_lrV {a0 : Array Value} {Z : State} (hw : ∀ d ∈ tables_1, d.before a0 Z = true) : (Jvm.Cond.instanceMethod ({ cls := "java/util/AbstractCollection", name := "<init>", desc := "()V" } : Jvm.MethodName)).before a0 Z = true := hw _ (List.mem_of_getElem? (i := 48) rfl)
theorem wd_AbstractCollection_init_lrV {a0 : Array Value} {Z : State} (hw : ∀ d ∈ tables_1, d.before a0 Z = true) : (Jvm.Cond.declares ({ cls := "java/util/AbstractCollection", name := "<init>", desc := "()V" } : Jvm.MethodName)).before a0 Z = true := hw _ (List.mem_of_getElem? (i := 49) rfl)
theorem wx_ArrayList_AbstractCollection {a0 : Array Value} {Z : State} (hw : ∀ d ∈ tables_1, d.before a0 Z = true) : (Jvm.Cond.castable "java/util/ArrayList" "java/util/AbstractCollection").before a0 Z = true := hw _ (List.mem_of_getElem? (i := 50) rfl)
theorem wi_AbstractCollection {a0 : Array Value} {Z : State} (hw : ∀ d ∈ tables_1, d.before a0 Z = true) : (Jvm.Cond.initialized "java/util/AbstractCollection").before a0 Z = true := hw _ (List.mem_of_getElem? (i := 51) rfl)
theorem wb_AbstractCollection_init_lrV {a0 : Array Value} {Z : State} (hw : ∀ d ∈ tables_1, d.before a0 Z = true) : (Jvm.Cond.code ({ cls := "java/util/AbstractCollection", name := "<init>", desc := "()V" } : Jvm.MethodName) jdk_22_method_1_code (1 : Nat) (Option.none : Option Jvm.ClassFile.FieldType)).before a0 Z = true := hw _ (List.mem_of_getElem? (i := 52) rfl)
theorem wl_AbstractCollection_1 {a0 : Array Value} {Z : State} (hw : ∀ d ∈ tables_1, d.before a0 Z = true) : (Jvm.Cond.methodLink "java/util/AbstractCollection" (1 : Nat) ({ cls := "java/lang/Object", name := "<init>", desc := "()V" } : Jvm.MethodName)).before a0 Z = true := hw _ (List.mem_of_getElem? (i := 53) rfl)
theorem wf_AbstractList_7 {a0 : Array Value} {Z : State} (hw : ∀ d ∈ tables_1, d.before a0 Z = true) : (Jvm.Cond.fieldLink "java/util/AbstractList" (7 : Nat) "java/util/AbstractList" "modCount" "I").before a0 Z = true := hw _ (List.mem_of_getElem? (i := 54) rfl)
theorem wy_ArrayList_AbstractList_modCount {a0 : Array Value} {Z : State} (hw : ∀ d ∈ tables_1, d.before a0 Z = true) : (Jvm.Cond.lays "java/util/ArrayList" "java/util/AbstractList" "modCount" "I").before a0 Z = true := hw _ (List.mem_of_getElem? (i := 55) rfl)
theorem wf_ArrayList_39 {a0 : Array Value} {Z : State} (hw : ∀ d ∈ tables_1, d.before a0 Z = true) : (Jvm.Cond.fieldLink "java/util/ArrayList" (39 : Nat) "java/util/ArrayList" "DEFAULTCAPACITY_EMPTY_ELEMENTDATA" "[Ljava/lang/Object;").before a0 Z = true := hw _ (List.mem_of_getElem? (i := 56) rfl)
theorem wf_ArrayList_9 {a0 : Array Value} {Z : State} (hw : ∀ d ∈ tables_1, d.before a0 Z = true) : (Jvm.Cond.fieldLink "java/util/ArrayList" (9 : Nat) "java/util/ArrayList" "elementData" "[Ljava/lang/Object;").before a0 Z = true := hw _ (List.mem_of_getElem? (i := 57) rfl)
theorem wy_ArrayList_ArrayList_elementData {a0 : Array Value} {Z : State} (hw : ∀ d ∈ tables_1, d.before a0 Z = true) : (Jvm.Cond.lays "java/util/ArrayList" "java/util/ArrayList" "elementData" "[Ljava/lang/Object;").before a0 Z = true := hw _ (List.mem_of_getElem? (i := 58) rfl)
theorem wl_TextHashCodePinLaw_37 {a0 : Array Value} {Z : State} (hw : ∀ d ∈ tables_1, d.before a0 Z = true) : (Jvm.Cond.methodLink "com/example/simple_rocchio/simplerocchio/TextHashCodePinLaw" (37 : Nat) ({ cls := "com/example/simple_rocchio/simplerocchio/CollectionDocument$Text", name := "<init>", desc := "(Ljava/lang/String;Ljava/util/List;)V" } : Jvm.MethodName)).before a0 Z = true := hw _ (List.mem_of_getElem? (i := 59) rfl)
theorem wm_CollectionDocumentSText_init_lLjavalangStringLjavautilListrV {a0 : Array Value} {Z : State} (hw : ∀ d ∈ tables_1, d.before a0 Z = true) : (Jvm.Cond.instanceMethod ({ cls := "com/example/simple_rocchio/simplerocchio/CollectionDocument$Text", name := "<init>", desc := "(Ljava/lang/String;Ljava/util/List;)V" } : Jvm.MethodName)).before a0 Z = true := hw _ (List.mem_of_getElem? (i := 60) rfl)
theorem wb_CollectionDocumentSText_init_lLjavalangStringLjavautilListrV {a0 : Array Value} {Z : State} (hw : ∀ d ∈ tables_1, d.before a0 Z = true) : (Jvm.Cond.code ({ cls := "com/example/simple_rocchio/simplerocchio/CollectionDocument$Text", name := "<init>", desc := "(Ljava/lang/String;Ljava/util/List;)V" } : Jvm.MethodName) prog_3_method_1_code (3 : Nat) (Option.none : Option Jvm.ClassFile.FieldType)).before a0 Z = true := hw _ (List.mem_of_getElem? (i := 61) rfl)
theorem wl_CollectionDocumentSText_1 {a0 : Array Value} {Z : State} (hw : ∀ d ∈ tables_1, d.before a0 Z = true) : (Jvm.Cond.methodLink "com/example/simple_rocchio/simplerocchio/CollectionDocument$Text" (1 : Nat) ({ cls := "java/lang/Object", name := "<init>", desc := "()V" } : Jvm.MethodName)).before a0 Z = true := hw _ (List.mem_of_getElem? (i := 62) rfl)
theorem wf_CollectionDocumentSText_7 {a0 : Array Value} {Z : State} (hw : ∀ d ∈ tables_1, d.before a0 Z = true) : (Jvm.Cond.fieldLink "com/example/simple_rocchio/simplerocchio/CollectionDocument$Text" (7 : Nat) "com/example/simple_rocchio/simplerocchio/CollectionDocument$Text" "mText" "Ljava/lang/String;").before a0 Z = true := hw _ (List.mem_of_getElem? (i := 63) rfl)
theorem wy_CollectionDocumentSText_CollectionDocumentSText_mText {a0 : Array Value} {Z : State} (hw : ∀ d ∈ tables_1, d.before a0 Z = true) : (Jvm.Cond.laysFinal "com/example/simple_rocchio/simplerocchio/CollectionDocument$Text" "com/example/simple_rocchio/simplerocchio/CollectionDocument$Text" "mText" "Ljava/lang/String;").before a0 Z = true := hw _ (List.mem_of_getElem? (i := 64) rfl)
theorem wl_CollectionDocumentSText_13 {a0 : Array Value} {Z : State} (hw : ∀ d ∈ tables_1, d.before a0 Z = true) : (Jvm.Cond.methodLink "com/example/simple_rocchio/simplerocchio/CollectionDocument$Text" (13 : Nat) ({ cls := "java/util/List", name := "copyOf", desc := "(Ljava/util/Collection;)Ljava/util/List;" } : Jvm.MethodName)).before a0 Z = true := hw _ (List.mem_of_getElem? (i := 65) rfl)
theorem ws_List_copyOf_lLjavautilCollectionrLjavautilList {a0 : Array Value} {Z : State} (hw : ∀ d ∈ tables_1, d.before a0 Z = true) : (Jvm.Cond.static ({ cls := "java/util/List", name := "copyOf", desc := "(Ljava/util/Collection;)Ljava/util/List;" } : Jvm.MethodName)).before a0 Z = true := hw _ (List.mem_of_getElem? (i := 66) rfl)
theorem wi_List {a0 : Array Value} {Z : State} (hw : ∀ d ∈ tables_1, d.before a0 Z = true) : (Jvm.Cond.initialized "java/util/List").before a0 Z = true := hw _ (List.mem_of_getElem? (i := 67) rfl)
theorem wb_List_copyOf_lLjavautilCollectionrLjavautilList {a0 : Array Value} {Z : State} (hw : ∀ d ∈ tables_1, d.before a0 Z = true) : (Jvm.Cond.code ({ cls := "java/util/List", name := "copyOf", desc := "(Ljava/util/Collection;)Ljava/util/List;" } : Jvm.MethodName) jdk_40_method_48_code (1 : Nat) (Option.some (Jvm.ClassFile.FieldType.object "java/util/List"))).before a0 Z = true := hw _ (List.mem_of_getElem? (i := 68) rfl)
theorem wl_List_112 {a0 : Array Value} {Z : State} (hw : ∀ d ∈ tables_1, d.before a0 Z = true) : (Jvm.Cond.methodLink "java/util/List" (112 : Nat) ({ cls := "java/util/ImmutableCollections", name := "listCopy", desc := "(Ljava/util/Collection;)Ljava/util/List;" } : Jvm.MethodName)).before a0 Z = true := hw _ (List.mem_of_getElem? (i := 69) rfl)
theorem ws_ImmutableCollections_listCopy_lLjavautilCollectionrLjavautilList {a0 : Array Value} {Z : State} (hw : ∀ d ∈ tables_1, d.before a0 Z = true) : (Jvm.Cond.static ({ cls := "java/util/ImmutableCollections", name := "listCopy", desc := "(Ljava/util/Collection;)Ljava/util/List;" } : Jvm.MethodName)).before a0 Z = true := hw _ (List.mem_of_getElem? (i := 70) rfl)
theorem wi_ImmutableCollections {a0 : Array Value} {Z : State} (hw : ∀ d ∈ tables_1, d.before a0 Z = true) : (Jvm.Cond.initialized "java/util/ImmutableCollections").before a0 Z = true := hw _ (List.mem_of_getElem? (i := 71) rfl)
theorem wb_ImmutableCollections_listCopy_lLjavautilCollectionrLjavautilList {a0 : Array Value} {Z : State} (hw : ∀ d ∈ tables_1, d.before a0 Z = true) : (Jvm.Cond.code ({ cls := "java/util/ImmutableCollections", name := "listCopy", desc := "(Ljava/util/Collection;)Ljava/util/List;" } : Jvm.MethodName) jdk_56_method_3_code (2 : Nat) (Option.some (Jvm.ClassFile.FieldType.object "java/util/List"))).before a0 Z = true := hw _ (List.mem_of_getElem? (i := 72) rfl)
theorem wc_ImmutableCollections_10 {a0 : Array Value} {Z : State} (hw : ∀ d ∈ tables_1, d.before a0 Z = true) : (Jvm.Cond.classLink "java/util/ImmutableCollections" (10 : Nat) "java/util/ImmutableCollections$List12").before a0 Z = true := hw _ (List.mem_of_getElem? (i := 73) rfl)
theorem wz_ArrayList_AbstractList {a0 : Array Value} {Z : State} (hw : ∀ d ∈ tables_1, d.before a0 Z = true) : (Jvm.Cond.superclass "java/util/ArrayList" "java/util/AbstractList").before a0 Z = true := hw _ (List.mem_of_getElem? (i := 74) rfl)
theorem wz_AbstractList_AbstractCollection {a0 : Array Value} {Z : State} (hw : ∀ d ∈ tables_1, d.before a0 Z = true) : (Jvm.Cond.superclass "java/util/AbstractList" "java/util/AbstractCollection").before a0 Z = true := hw _ (List.mem_of_getElem? (i := 75) rfl)
theorem wz_AbstractCollection_Object {a0 : Array Value} {Z : State} (hw : ∀ d ∈ tables_1, d.before a0 Z = true) : (Jvm.Cond.superclass "java/util/AbstractCollection" "java/lang/Object").before a0 Z = true := hw _ (List.mem_of_getElem? (i := 76) rfl)
theorem wzn_Object {a0 : Array Value} {Z : State} (hw : ∀ d ∈ tables_1, d.before a0 Z = true) : (Jvm.Cond.noSuperclass "java/lang/Object").before a0 Z = true := hw _ (List.mem_of_getElem? (i := 77) rfl)
theorem wc_ImmutableCollections_12 {a0 : Array Value} {Z : State} (hw : ∀ d ∈ tables_1, d.before a0 Z = true) : (Jvm.Cond.classLink "java/util/ImmutableCollections" (12 : Nat) "java/util/ImmutableCollections$ListN").before a0 Z = true := hw _ (List.mem_of_getElem? (i := 78) rfl)
theorem wl_ImmutableCollections_20 {a0 : Array Value} {Z : State} (hw : ∀ d ∈ tables_1, d.before a0 Z = true) : (Jvm.Cond.methodLink "java/util/ImmutableCollections" (20 : Nat) ({ cls := "java/util/Collection", name := "isEmpty", desc := "()Z" } : Jvm.MethodName)).before a0 Z = true := hw _ (List.mem_of_getElem? (i := 79) rfl)
theorem wd_Collection_isEmpty_lrZ {a0 : Array Value} {Z : State} (hw : ∀ d ∈ tables_1, d.before a0 Z = true) : (Jvm.Cond.declares ({ cls := "java/util/Collection", name := "isEmpty", desc := "()Z" } : Jvm.MethodName)).before a0 Z = true := hw _ (List.mem_of_getElem? (i := 80) rfl)
theorem wg_Collection_isEmpty_lrZ {a0 : Array Value} {Z : State} (hw : ∀ d ∈ tables_1, d.before a0 Z = true) : (Jvm.Cond.interfaceMethod "java/util/Collection" "java/util/Collection" "isEmpty" "()Z").before a0 Z = true := hw _ (List.mem_of_getElem? (i := 81) rfl)
theorem wv_ArrayList_Collection_isEmpty_lrZ {a0 : Array Value} {Z : State} (hw : ∀ d ∈ tables_1, d.before a0 Z = true) : (Jvm.Cond.selects "java/util/ArrayList" ({ cls := "java/util/Collection", name := "isEmpty", desc := "()Z" } : Jvm.MethodName) ({ cls := "java/util/ArrayList", name := "isEmpty", desc := "()Z" } : Jvm.MethodName)).before a0 Z = true := hw _ (List.mem_of_getElem? (i := 82) rfl)
theorem wm_ArrayList_isEmpty_lrZ {a0 : Array Value} {Z : State} (hw : ∀ d ∈ tables_1, d.before a0 Z = true) : (Jvm.Cond.instanceMethod ({ cls := "java/util/ArrayList", name := "isEmpty", desc := "()Z" } : Jvm.MethodName)).before a0 Z = true := hw _ (List.mem_of_getElem? (i := 83) rfl)
theorem wp_ArrayList_isEmpty_lrZ {a0 : Array Value} {Z : State} (hw : ∀ d ∈ tables_1, d.before a0 Z = true) : (Jvm.Cond.publicMethod ({ cls := "java/util/ArrayList", name := "isEmpty", desc := "()Z" } : Jvm.MethodName)).before a0 Z = true := hw _ (List.mem_of_getElem? (i := 84) rfl)
theorem wu_ArrayList_isEmpty_lrZ {a0 : Array Value} {Z : State} (hw : ∀ d ∈ tables_1, d.before a0 Z = true) : (Jvm.Cond.unhidden "java/util/ArrayList" "isEmpty" "()Z").before a0 Z = true := hw _ (List.mem_of_getElem? (i := 85) rfl)
theorem wx_ArrayList_Collection {a0 : Array Value} {Z : State} (hw : ∀ d ∈ tables_1, d.before a0 Z = true) : (Jvm.Cond.castable "java/util/ArrayList" "java/util/Collection").before a0 Z = true := hw _ (List.mem_of_getElem? (i := 86) rfl)
theorem wb_ArrayList_isEmpty_lrZ {a0 : Array Value} {Z : State} (hw : ∀ d ∈ tables_1, d.before a0 Z = true) : (Jvm.Cond.code ({ cls := "java/util/ArrayList", name := "isEmpty", desc := "()Z" } : Jvm.MethodName) jdk_38_method_9_code (1 : Nat) (Option.some Jvm.ClassFile.FieldType.boolean)).before a0 Z = true := hw _ (List.mem_of_getElem? (i := 87) rfl)
theorem wf_ArrayList_48 {a0 : Array Value} {Z : State} (hw : ∀ d ∈ tables_1, d.before a0 Z = true) : (Jvm.Cond.fieldLink "java/util/ArrayList" (48 : Nat) "java/util/ArrayList" "size" "I").before a0 Z = true := hw _ (List.mem_of_getElem? (i := 88) rfl)
theorem wy_ArrayList_ArrayList_size {a0 : Array Value} {Z : State} (hw : ∀ d ∈ tables_1, d.before a0 Z = true) : (Jvm.Cond.lays "java/util/ArrayList" "java/util/ArrayList" "size" "I").before a0 Z = true := hw _ (List.mem_of_getElem? (i := 89) rfl)
theorem wl_ImmutableCollections_26 {a0 : Array Value} {Z : State} (hw : ∀ d ∈ tables_1, d.before a0 Z = true) : (Jvm.Cond.methodLink "java/util/ImmutableCollections" (26 : Nat) ({ cls := "java/util/List", name := "of", desc := "()Ljava/util/List;" } : Jvm.MethodName)).before a0 Z = true := hw _ (List.mem_of_getElem? (i := 90) rfl)
theorem ws_List_of_lrLjavautilList {a0 : Array Value} {Z : State} (hw : ∀ d ∈ tables_1, d.before a0 Z = true) : (Jvm.Cond.static ({ cls := "java/util/List", name := "of", desc := "()Ljava/util/List;" } : Jvm.MethodName)).before a0 Z = true := hw _ (List.mem_of_getElem? (i := 91) rfl)
theorem wb_List_of_lrLjavautilList {a0 : Array Value} {Z : State} (hw : ∀ d ∈ tables_1, d.before a0 Z = true) : (Jvm.Cond.code ({ cls := "java/util/List", name := "of", desc := "()Ljava/util/List;" } : Jvm.MethodName) jdk_40_method_36_code (0 : Nat) (Option.some (Jvm.ClassFile.FieldType.object "java/util/List"))).before a0 Z = true := hw _ (List.mem_of_getElem? (i := 92) rfl)
theorem wf_List_90 {a0 : Array Value} {Z : State} (hw : ∀ d ∈ tables_1, d.before a0 Z = true) : (Jvm.Cond.fieldLink "java/util/List" (90 : Nat) "java/util/ImmutableCollections" "EMPTY_LIST" "Ljava/util/ImmutableCollections$ListN;").before a0 Z = true := hw _ (List.mem_of_getElem? (i := 93) rfl)
theorem wf_CollectionDocumentSText_19 {a0 : Array Value} {Z : State} (hw : ∀ d ∈ tables_1, d.before a0 Z = true) : (Jvm.Cond.fieldLink "com/example/simple_rocchio/simplerocchio/CollectionDocument$Text" (19 : Nat) "com/example/simple_rocchio/simplerocchio/CollectionDocument$Text" "mFields" "Ljava/util/List;").before a0 Z = true := hw _ (List.mem_of_getElem? (i := 94) rfl)
theorem wy_CollectionDocumentSText_CollectionDocumentSText_mFields {a0 : Array Value} {Z : State} (hw : ∀ d ∈ tables_1, d.before a0 Z = true) : (Jvm.Cond.laysFinal "com/example/simple_rocchio/simplerocchio/CollectionDocument$Text" "com/example/simple_rocchio/simplerocchio/CollectionDocument$Text" "mFields" "Ljava/util/List;").before a0 Z = true := hw _ (List.mem_of_getElem? (i := 95) rfl)
theorem wl_TextHashCodePinLaw_44 {a0 : Array Value} {Z : State} (hw : ∀ d ∈ tables_1, d.before a0 Z = true) : (Jvm.Cond.methodLink "com/example/simple_rocchio/simplerocchio/TextHashCodePinLaw" (44 : Nat) ({ cls := "com/example/simple_rocchio/simplerocchio/CollectionDocument$Text", name := "equals", desc := "(Ljava/lang/Object;)Z" } : Jvm.MethodName)).before a0 Z = true := hw _ (List.mem_of_getElem? (i := 96) rfl)
theorem wd_CollectionDocumentSText_equals_lLjavalangObjectrZ {a0 : Array Value} {Z : State} (hw : ∀ d ∈ tables_1, d.before a0 Z = true) : (Jvm.Cond.declares ({ cls := "com/example/simple_rocchio/simplerocchio/CollectionDocument$Text", name := "equals", desc := "(Ljava/lang/Object;)Z" } : Jvm.MethodName)).before a0 Z = true := hw _ (List.mem_of_getElem? (i := 97) rfl)
theorem wm_CollectionDocumentSText_equals_lLjavalangObjectrZ {a0 : Array Value} {Z : State} (hw : ∀ d ∈ tables_1, d.before a0 Z = true) : (Jvm.Cond.instanceMethod ({ cls := "com/example/simple_rocchio/simplerocchio/CollectionDocument$Text", name := "equals", desc := "(Ljava/lang/Object;)Z" } : Jvm.MethodName)).before a0 Z = true := hw _ (List.mem_of_getElem? (i := 98) rfl)
theorem wv_CollectionDocumentSText_CollectionDocumentSText_equals_lLjavalangObjectrZ {a0 : Array Value} {Z : State} (hw : ∀ d ∈ tables_1, d.before a0 Z = true) : (Jvm.Cond.selects "com/example/simple_rocchio/simplerocchio/CollectionDocument$Text" ({ cls := "com/example/simple_rocchio/simplerocchio/CollectionDocument$Text", name := "equals", desc := "(Ljava/lang/Object;)Z" } : Jvm.MethodName) ({ cls := "com/example/simple_rocchio/simplerocchio/CollectionDocument$Text", name := "equals", desc := "(Ljava/lang/Object;)Z" } : Jvm.MethodName)).before a0 Z = true := hw _ (List.mem_of_getElem? (i := 99) rfl)
theorem wb_CollectionDocumentSText_equals_lLjavalangObjectrZ {a0 : Array Value} {Z : State} (hw : ∀ d ∈ tables_1, d.before a0 Z = true) : (Jvm.Cond.code ({ cls := "com/example/simple_rocchio/simplerocchio/CollectionDocument$Text", name := "equals", desc := "(Ljava/lang/Object;)Z" } : Jvm.MethodName) prog_3_method_4_code (3 : Nat) (Option.some Jvm.ClassFile.FieldType.boolean)).before a0 Z = true := hw _ (List.mem_of_getElem? (i := 100) rfl)
theorem wc_CollectionDocumentSText_8 {a0 : Array Value} {Z : State} (hw : ∀ d ∈ tables_1, d.before a0 Z = true) : (Jvm.Cond.classLink "com/example/simple_rocchio/simplerocchio/CollectionDocument$Text" (8 : Nat) "com/example/simple_rocchio/simplerocchio/CollectionDocument$Text").before a0 Z = true := hw _ (List.mem_of_getElem? (i := 101) rfl)
theorem wx_CollectionDocumentSText_CollectionDocumentSText {a0 : Array Value} {Z : State} (hw : ∀ d ∈ tables_1, d.before a0 Z = true) : (Jvm.Cond.castable "com/example/simple_rocchio/simplerocchio/CollectionDocument$Text" "com/example/simple_rocchio/simplerocchio/CollectionDocument$Text").before a0 Z = true := hw _ (List.mem_of_getElem? (i := 102) rfl)
theorem wl_CollectionDocumentSText_23 {a0 : Array Value} {Z : State} (hw : ∀ d ∈ tables_1, d.before a0 Z = true) : (Jvm.Cond.methodLink "com/example/simple_rocchio/simplerocchio/CollectionDocument$Text" (23 : Nat) ({ cls := "java/lang/String", name := "equals", desc := "(Ljava/lang/Object;)Z" } : Jvm.MethodName)).before a0 Z = true := hw _ (List.mem_of_getElem? (i := 103) rfl)
theorem wd_String_equals_lLjavalangObjectrZ {a0 : Array Value} {Z : State} (hw : ∀ d ∈ tables_1, d.before a0 Z = true) : (Jvm.Cond.declares ({ cls := "java/lang/String", name := "equals", desc := "(Ljava/lang/Object;)Z" } : Jvm.MethodName)).before a0 Z = true := hw _ (List.mem_of_getElem? (i := 104) rfl)
theorem wm_String_equals_lLjavalangObjectrZ {a0 : Array Value} {Z : State} (hw : ∀ d ∈ tables_1, d.before a0 Z = true) : (Jvm.Cond.instanceMethod ({ cls := "java/lang/String", name := "equals", desc := "(Ljava/lang/Object;)Z" } : Jvm.MethodName)).before a0 Z = true := hw _ (List.mem_of_getElem? (i := 105) rfl)
theorem wv_String_String_equals_lLjavalangObjectrZ {a0 : Array Value} {Z : State} (hw : ∀ d ∈ tables_1, d.before a0 Z = true) : (Jvm.Cond.selects "java/lang/String" ({ cls := "java/lang/String", name := "equals", desc := "(Ljava/lang/Object;)Z" } : Jvm.MethodName) ({ cls := "java/lang/String", name := "equals", desc := "(Ljava/lang/Object;)Z" } : Jvm.MethodName)).before a0 Z = true := hw _ (List.mem_of_getElem? (i := 106) rfl)
theorem wb_String_equals_lLjavalangObjectrZ {a0 : Array Value} {Z : State} (hw : ∀ d ∈ tables_1, d.before a0 Z = true) : (Jvm.Cond.code ({ cls := "java/lang/String", name := "equals", desc := "(Ljava/lang/Object;)Z" } : Jvm.MethodName) jdk_42_method_66_code (3 : Nat) (Option.some Jvm.ClassFile.FieldType.boolean)).before a0 Z = true := hw _ (List.mem_of_getElem? (i := 107) rfl)
theorem wc_String_10 {a0 : Array Value} {Z : State} (hw : ∀ d ∈ tables_1, d.before a0 Z = true) : (Jvm.Cond.classLink "java/lang/String" (10 : Nat) "java/lang/String").before a0 Z = true := hw _ (List.mem_of_getElem? (i := 108) rfl)
theorem wf_String_38 {a0 : Array Value} {Z : State} (hw : ∀ d ∈ tables_1, d.before a0 Z = true) : (Jvm.Cond.fieldLink "java/lang/String" (38 : Nat) "java/lang/String" "COMPACT_STRINGS" "Z").before a0 Z = true := hw _ (List.mem_of_getElem? (i := 109) rfl)
theorem wl_String_541 {a0 : Array Value} {Z : State} (hw : ∀ d ∈ tables_1, d.before a0 Z = true) : (Jvm.Cond.methodLink "java/lang/String" (541 : Nat) ({ cls := "java/lang/StringLatin1", name := "equals", desc := "([B[B)Z" } : Jvm.MethodName)).before a0 Z = true := hw _ (List.mem_of_getElem? (i := 110) rfl)
theorem ws_StringLatin1_equals_lABABrZ {a0 : Array Value} {Z : State} (hw : ∀ d ∈ tables_1, d.before a0 Z = true) : (Jvm.Cond.static ({ cls := "java/lang/StringLatin1", name := "equals", desc := "([B[B)Z" } : Jvm.MethodName)).before a0 Z = true := hw _ (List.mem_of_getElem? (i := 111) rfl)
theorem wi_StringLatin1 {a0 : Array Value} {Z : State} (hw : ∀ d ∈ tables_1, d.before a0 Z = true) : (Jvm.Cond.initialized "java/lang/StringLatin1").before a0 Z = true := hw _ (List.mem_of_getElem? (i := 112) rfl)
theorem wb_StringLatin1_equals_lABABrZ {a0 : Array Value} {Z : State} (hw : ∀ d ∈ tables_1, d.before a0 Z = true) : (Jvm.Cond.code ({ cls := "java/lang/StringLatin1", name := "equals", desc := "([B[B)Z" } : Jvm.MethodName) jdk_43_method_13_code (3 : Nat) (Option.some Jvm.ClassFile.FieldType.boolean)).before a0 Z = true := hw _ (List.mem_of_getElem? (i := 113) rfl)
theorem wl_CollectionDocumentSText_29 {a0 : Array Value} {Z : State} (hw : ∀ d ∈ tables_1, d.before a0 Z = true) : (Jvm.Cond.methodLink "com/example/simple_rocchio/simplerocchio/CollectionDocument$Text" (29 : Nat) ({ cls := "java/util/List", name := "equals", desc := "(Ljava/lang/Object;)Z" } : Jvm.MethodName)).before a0 Z = true := hw _ (List.mem_of_getElem? (i := 114) rfl)
theorem wd_List_equals_lLjavalangObjectrZ {a0 : Array Value} {Z : State} (hw : ∀ d ∈ tables_1, d.before a0 Z = true) : (Jvm.Cond.declares ({ cls := "java/util/List", name := "equals", desc := "(Ljava/lang/Object;)Z" } : Jvm.MethodName)).before a0 Z = true := hw _ (List.mem_of_getElem? (i := 115) rfl)
theorem wg_List_equals_lLjavalangObjectrZ {a0 : Array Value} {Z : State} (hw : ∀ d ∈ tables_1, d.before a0 Z = true) : (Jvm.Cond.interfaceMethod "java/util/List" "java/util/List" "equals" "(Ljava/lang/Object;)Z").before a0 Z = true := hw _ (List.mem_of_getElem? (i := 116) rfl)
theorem wv_ImmutableCollectionsSListN_List_equals_lLjavalangObjectrZ {a0 : Array Value} {Z : State} (hw : ∀ d ∈ tables_1, d.before a0 Z = true) : (Jvm.Cond.selects "java/util/ImmutableCollections$ListN" ({ cls := "java/util/List", name := "equals", desc := "(Ljava/lang/Object;)Z" } : Jvm.MethodName) ({ cls := "java/util/ImmutableCollections$AbstractImmutableList", name := "equals", desc := "(Ljava/lang/Object;)Z" } : Jvm.MethodName)).before a0 Z = true := hw _ (List.mem_of_getElem? (i := 117) rfl)
theorem wm_ImmutableCollectionsSAbstractImmutableList_equals_lLjavalangObjectrZ {a0 : Array Value} {Z : State} (hw : ∀ d ∈ tables_1, d.before a0 Z = true) : (Jvm.Cond.instanceMethod ({ cls := "java/util/ImmutableCollections$AbstractImmutableList", name := "equals", desc := "(Ljava/lang/Object;)Z" } : Jvm.MethodName)).before a0 Z = true := hw _ (List.mem_of_getElem? (i := 118) rfl)
theorem wp_ImmutableCollectionsSAbstractImmutableList_equals_lLjavalangObjectrZ {a0 : Array Value} {Z : State} (hw : ∀ d ∈ tables_1, d.before a0 Z = true) : (Jvm.Cond.publicMethod ({ cls := "java/util/ImmutableCollections$AbstractImmutableList", name := "equals", desc := "(Ljava/lang/Object;)Z" } : Jvm.MethodName)).before a0 Z = true := hw _ (List.mem_of_getElem? (i := 119) rfl)
theorem wu_ImmutableCollectionsSListN_equals_lLjavalangObjectrZ {a0 : Array Value} {Z : State} (hw : ∀ d ∈ tables_1, d.before a0 Z = true) : (Jvm.Cond.unhidden "java/util/ImmutableCollections$ListN" "equals" "(Ljava/lang/Object;)Z").before a0 Z = true := hw _ (List.mem_of_getElem? (i := 120) rfl)
theorem wx_ImmutableCollectionsSListN_List {a0 : Array Value} {Z : State} (hw : ∀ d ∈ tables_1, d.before a0 Z = true) : (Jvm.Cond.castable "java/util/ImmutableCollections$ListN" "java/util/List").before a0 Z = true := hw _ (List.mem_of_getElem? (i := 121) rfl)
theorem wi_ImmutableCollectionsSAbstractImmutableList {a0 : Array Value} {Z : State} (hw : ∀ d ∈ tables_1, d.before a0 Z = true) : (Jvm.Cond.initialized "java/util/ImmutableCollections$AbstractImmutableList").before a0 Z = true := hw _ (List.mem_of_getElem? (i := 122) rfl)
theorem wb_ImmutableCollectionsSAbstractImmutableList_equals_lLjavalangObjectrZ {a0 : Array Value} {Z : State} (hw : ∀ d ∈ tables_1, d.before a0 Z = true) : (Jvm.Cond.code ({ cls := "java/util/ImmutableCollections$AbstractImmutableList", name := "equals", desc := "(Ljava/lang/Object;)Z" } : Jvm.MethodName) jdk_46_method_13_code (5 : Nat) (Option.some Jvm.ClassFile.FieldType.boolean)).before a0 Z = true := hw _ (List.mem_of_getElem? (i := 123) rfl)
theorem wl_TextHashCodePinLaw_47 {a0 : Array Value} {Z : State} (hw : ∀ d ∈ tables_1, d.before a0 Z = true) : (Jvm.Cond.methodLink "com/example/simple_rocchio/simplerocchio/TextHashCodePinLaw" (47 : Nat) ({ cls := "com/example/simple_rocchio/simplerocchio/CollectionDocument$Text", name := "hashCode", desc := "()I" } : Jvm.MethodName)).before a0 Z = true := hw _ (List.mem_of_getElem? (i := 124) rfl)
theorem wd_CollectionDocumentSText_hashCode_lrI {a0 : Array Value} {Z : State} (hw : ∀ d ∈ tables_1, d.before a0 Z = true) : (Jvm.Cond.declares ({ cls := "com/example/simple_rocchio/simplerocchio/CollectionDocument$Text", name := "hashCode", desc := "()I" } : Jvm.MethodName)).before a0 Z = true := hw _ (List.mem_of_getElem? (i := 125) rfl)
theorem wm_CollectionDocumentSText_hashCode_lrI {a0 : Array Value} {Z : State} (hw : ∀ d ∈ tables_1, d.before a0 Z = true) : (Jvm.Cond.instanceMethod ({ cls := "com/example/simple_rocchio/simplerocchio/CollectionDocument$Text", name := "hashCode", desc := "()I" } : Jvm.MethodName)).before a0 Z = true := hw _ (List.mem_of_getElem? (i := 126) rfl)
theorem wv_CollectionDocumentSText_CollectionDocumentSText_hashCode_lrI {a0 : Array Value} {Z : State} (hw : ∀ d ∈ tables_1, d.before a0 Z = true) : (Jvm.Cond.selects "com/example/simple_rocchio/simplerocchio/CollectionDocument$Text" ({ cls := "com/example/simple_rocchio/simplerocchio/CollectionDocument$Text", name := "hashCode", desc := "()I" } : Jvm.MethodName) ({ cls := "com/example/simple_rocchio/simplerocchio/CollectionDocument$Text", name := "hashCode", desc := "()I" } : Jvm.MethodName)).before a0 Z = true := hw _ (List.mem_of_getElem? (i := 127) rfl)
theorem wb_CollectionDocumentSText_hashCode_lrI {a0 : Array Value} {Z : State} (hw : ∀ d ∈ tables_1, d.before a0 Z = true) : (Jvm.Cond.code ({ cls := "com/example/simple_rocchio/simplerocchio/CollectionDocument$Text", name := "hashCode", desc := "()I" } : Jvm.MethodName) prog_3_method_5_code (1 : Nat) (Option.some Jvm.ClassFile.FieldType.int)).before a0 Z = true := hw _ (List.mem_of_getElem? (i := 128) rfl)
theorem wc_CollectionDocumentSText_2 {a0 : Array Value} {Z : State} (hw : ∀ d ∈ tables_1, d.before a0 Z = true) : (Jvm.Cond.classLink "com/example/simple_rocchio/simplerocchio/CollectionDocument$Text" (2 : Nat) "java/lang/Object").before a0 Z = true := hw _ (List.mem_of_getElem? (i := 129) rfl)
theorem wo_Object {a0 : Array Value} {Z : State} (hw : ∀ d ∈ tables_1, d.before a0 Z = true) : (Jvm.Cond.arrayOver (Jvm.ClassFile.FieldType.object "java/lang/Object")).before a0 Z = true := hw _ (List.mem_of_getElem? (i := 130) rfl)
theorem wx_String_Object {a0 : Array Value} {Z : State} (hw : ∀ d ∈ tables_1, d.before a0 Z = true) : (Jvm.Cond.castable "java/lang/String" "java/lang/Object").before a0 Z = true := hw _ (List.mem_of_getElem? (i := 131) rfl)
theorem wx_ImmutableCollectionsSListN_Object {a0 : Array Value} {Z : State} (hw : ∀ d ∈ tables_1, d.before a0 Z = true) : (Jvm.Cond.castable "java/util/ImmutableCollections$ListN" "java/lang/Object").before a0 Z = true := hw _ (List.mem_of_getElem? (i := 132) rfl)
theorem wl_CollectionDocumentSText_30 {a0 : Array Value} {Z : State} (hw : ∀ d ∈ tables_1, d.before a0 Z = true) : (Jvm.Cond.methodLink "com/example/simple_rocchio/simplerocchio/CollectionDocument$Text" (30 : Nat) ({ cls := "java/util/Objects", name := "hash", desc := "([Ljava/lang/Object;)I" } : Jvm.MethodName)).before a0 Z = true := hw _ (List.mem_of_getElem? (i := 133) rfl)
theorem ws_Objects_hash_lALjavalangObjectrI {a0 : Array Value} {Z : State} (hw : ∀ d ∈ tables_1, d.before a0 Z = true) : (Jvm.Cond.static ({ cls := "java/util/Objects", name := "hash", desc := "([Ljava/lang/Object;)I" } : Jvm.MethodName)).before a0 Z = true := hw _ (List.mem_of_getElem? (i := 134) rfl)
theorem wi_Objects {a0 : Array Value} {Z : State} (hw : ∀ d ∈ tables_1, d.before a0 Z = true) : (Jvm.Cond.initialized "java/util/Objects").before a0 Z = true := hw _ (List.mem_of_getElem? (i := 135) rfl)
theorem wb_Objects_hash_lALjavalangObjectrI {a0 : Array Value} {Z : State} (hw : ∀ d ∈ tables_1, d.before a0 Z = true) : (Jvm.Cond.code ({ cls := "java/util/Objects", name := "hash", desc := "([Ljava/lang/Object;)I" } : Jvm.MethodName) jdk_31_method_5_code (1 : Nat) (Option.some Jvm.ClassFile.FieldType.int)).before a0 Z = true := hw _ (List.mem_of_getElem? (i := 136) rfl)
theorem wl_Objects_28 {a0 : Array Value} {Z : State} (hw : ∀ d ∈ tables_1, d.before a0 Z = true) : (Jvm.Cond.methodLink "java/util/Objects" (28 : Nat) ({ cls := "java/util/Arrays", name := "hashCode", desc := "([Ljava/lang/Object;)I" } : Jvm.MethodName)).before a0 Z = true := hw _ (List.mem_of_getElem? (i := 137) rfl)
theorem ws_Arrays_hashCode_lALjavalangObjectrI {a0 : Array Value} {Z : State} (hw : ∀ d ∈ tables_1, d.before a0 Z = true) : (Jvm.Cond.static ({ cls := "java/util/Arrays", name := "hashCode", desc := "([Ljava/lang/Object;)I" } : Jvm.MethodName)).before a0 Z = true := hw _ (List.mem_of_getElem? (i := 138) rfl)
theorem wi_Arrays {a0 : Array Value} {Z : State} (hw : ∀ d ∈ tables_1, d.before a0 Z = true) : (Jvm.Cond.initialized "java/util/Arrays").before a0 Z = true := hw _ (List.mem_of_getElem? (i := 139) rfl)
theorem wb_Arrays_hashCode_lALjavalangObjectrI {a0 : Array Value} {Z : State} (hw : ∀ d ∈ tables_1, d.before a0 Z = true) : (Jvm.Cond.code ({ cls := "java/util/Arrays", name := "hashCode", desc := "([Ljava/lang/Object;)I" } : Jvm.MethodName) jdk_65_method_157_code (6 : Nat) (Option.some Jvm.ClassFile.FieldType.int)).before a0 Z = true := hw _ (List.mem_of_getElem? (i := 140) rfl)
theorem wl_Arrays_383 {a0 : Array Value} {Z : State} (hw : ∀ d ∈ tables_1, d.before a0 Z = true) : (Jvm.Cond.methodLink "java/util/Arrays" (383 : Nat) ({ cls := "java/lang/Object", name := "hashCode", desc := "()I" } : Jvm.MethodName)).before a0 Z = true := hw _ (List.mem_of_getElem? (i := 141) rfl)
theorem wd_Object_hashCode_lrI {a0 : Array Value} {Z : State} (hw : ∀ d ∈ tables_1, d.before a0 Z = true) : (Jvm.Cond.declares ({ cls := "java/lang/Object", name := "hashCode", desc := "()I" } : Jvm.MethodName)).before a0 Z = true := hw _ (List.mem_of_getElem? (i := 142) rfl)
theorem wm_Object_hashCode_lrI {a0 : Array Value} {Z : State} (hw : ∀ d ∈ tables_1, d.before a0 Z = true) : (Jvm.Cond.instanceMethod ({ cls := "java/lang/Object", name := "hashCode", desc := "()I" } : Jvm.MethodName)).before a0 Z = true := hw _ (List.mem_of_getElem? (i := 143) rfl)
theorem wv_String_Object_hashCode_lrI {a0 : Array Value} {Z : State} (hw : ∀ d ∈ tables_1, d.before a0 Z = true) : (Jvm.Cond.selects "java/lang/String" ({ cls := "java/lang/Object", name := "hashCode", desc := "()I" } : Jvm.MethodName) ({ cls := "java/lang/String", name := "hashCode", desc := "()I" } : Jvm.MethodName)).before a0 Z = true := hw _ (List.mem_of_getElem? (i := 144) rfl)
theorem wm_String_hashCode_lrI {a0 : Array Value} {Z : State} (hw : ∀ d ∈ tables_1, d.before a0 Z = true) : (Jvm.Cond.instanceMethod ({ cls := "java/lang/String", name := "hashCode", desc := "()I" } : Jvm.MethodName)).before a0 Z = true := hw _ (List.mem_of_getElem? (i := 145) rfl)
theorem wb_String_hashCode_lrI {a0 : Array Value} {Z : State} (hw : ∀ d ∈ tables_1, d.before a0 Z = true) : (Jvm.Cond.code ({ cls := "java/lang/String", name := "hashCode", desc := "()I" } : Jvm.MethodName) jdk_42_method_78_code (2 : Nat) (Option.some Jvm.ClassFile.FieldType.int)).before a0 Z = true := hw _ (List.mem_of_getElem? (i := 146) rfl)
theorem wf_String_19 {a0 : Array Value} {Z : State} (hw : ∀ d ∈ tables_1, d.before a0 Z = true) : (Jvm.Cond.fieldLink "java/lang/String" (19 : Nat) "java/lang/String" "hash" "I").before a0 Z = true := hw _ (List.mem_of_getElem? (i := 147) rfl)
theorem wy_String_String_hash {a0 : Array Value} {Z : State} (hw : ∀ d ∈ tables_1, d.before a0 Z = true) : (Jvm.Cond.lays "java/lang/String" "java/lang/String" "hash" "I").before a0 Z = true := hw _ (List.mem_of_getElem? (i := 148) rfl)
theorem wf_String_23 {a0 : Array Value} {Z : State} (hw : ∀ d ∈ tables_1, d.before a0 Z = true) : (Jvm.Cond.fieldLink "java/lang/String" (23 : Nat) "java/lang/String" "hashIsZero" "Z").before a0 Z = true := hw _ (List.mem_of_getElem? (i := 149) rfl)
theorem wy_String_String_hashIsZero {a0 : Array Value} {Z : State} (hw : ∀ d ∈ tables_1, d.before a0 Z = true) : (Jvm.Cond.lays "java/lang/String" "java/lang/String" "hashIsZero" "Z").before a0 Z = true := hw _ (List.mem_of_getElem? (i := 150) rfl)
theorem wl_String_492 {a0 : Array Value} {Z : State} (hw : ∀ d ∈ tables_1, d.before a0 Z = true) : (Jvm.Cond.methodLink "java/lang/String" (492 : Nat) ({ cls := "java/lang/String", name := "isLatin1", desc := "()Z" } : Jvm.MethodName)).before a0 Z = true := hw _ (List.mem_of_getElem? (i := 151) rfl)
theorem wd_String_isLatin1_lrZ {a0 : Array Value} {Z : State} (hw : ∀ d ∈ tables_1, d.before a0 Z = true) : (Jvm.Cond.declares ({ cls := "java/lang/String", name := "isLatin1", desc := "()Z" } : Jvm.MethodName)).before a0 Z = true := hw _ (List.mem_of_getElem? (i := 152) rfl)
theorem wm_String_isLatin1_lrZ {a0 : Array Value} {Z : State} (hw : ∀ d ∈ tables_1, d.before a0 Z = true) : (Jvm.Cond.instanceMethod ({ cls := "java/lang/String", name := "isLatin1", desc := "()Z" } : Jvm.MethodName)).before a0 Z = true := hw _ (List.mem_of_getElem? (i := 153) rfl)
theorem wv_String_String_isLatin1_lrZ {a0 : Array Value} {Z : State} (hw : ∀ d ∈ tables_1, d.before a0 Z = true) : (Jvm.Cond.selects "java/lang/String" ({ cls := "java/lang/String", name := "isLatin1", desc := "()Z" } : Jvm.MethodName) ({ cls := "java/lang/String", name := "isLatin1", desc := "()Z" } : Jvm.MethodName)).before a0 Z = true := hw _ (List.mem_of_getElem? (i := 154) rfl)
theorem wb_String_isLatin1_lrZ {a0 : Array Value} {Z : State} (hw : ∀ d ∈ tables_1, d.before a0 Z = true) : (Jvm.Cond.code ({ cls := "java/lang/String", name := "isLatin1", desc := "()Z" } : Jvm.MethodName) jdk_42_method_154_code (1 : Nat) (Option.some Jvm.ClassFile.FieldType.boolean)).before a0 Z = true := hw _ (List.mem_of_getElem? (i := 155) rfl)
theorem wl_String_628 {a0 : Array Value} {Z : State} (hw : ∀ d ∈ tables_1, d.before a0 Z = true) : (Jvm.Cond.methodLink "java/lang/String" (628 : Nat) ({ cls := "java/lang/StringLatin1", name := "hashCode", desc := "([B)I" } : Jvm.MethodName)).before a0 Z = true := hw _ (List.mem_of_getElem? (i := 156) rfl)
theorem ws_StringLatin1_hashCode_lABrI {a0 : Array Value} {Z : State} (hw : ∀ d ∈ tables_1, d.before a0 Z = true) : (Jvm.Cond.static ({ cls := "java/lang/StringLatin1", name := "hashCode", desc := "([B)I" } : Jvm.MethodName)).before a0 Z = true := hw _ (List.mem_of_getElem? (i := 157) rfl)
theorem wb_StringLatin1_hashCode_lABrI {a0 : Array Value} {Z : State} (hw : ∀ d ∈ tables_1, d.before a0 Z = true) : (Jvm.Cond.code ({ cls := "java/lang/StringLatin1", name := "hashCode", desc := "([B)I" } : Jvm.MethodName) jdk_43_method_21_code (1 : Nat) (Option.some Jvm.ClassFile.FieldType.int)).before a0 Z = true := hw _ (List.mem_of_getElem? (i := 158) rfl)
theorem wv_ImmutableCollectionsSListN_Object_hashCode_lrI {a0 : Array Value} {Z : State} (hw : ∀ d ∈ tables_1, d.before a0 Z = true) : (Jvm.Cond.selects "java/util/ImmutableCollections$ListN" ({ cls := "java/lang/Object", name := "hashCode", desc := "()I" } : Jvm.MethodName) ({ cls := "java/util/ImmutableCollections$AbstractImmutableList", name := "hashCode", desc := "()I" } : Jvm.MethodName)).before a0 Z = true := hw _ (List.mem_of_getElem? (i := 159) rfl)
theorem wm_ImmutableCollectionsSAbstractImmutableList_hashCode_lrI {a0 : Array Value} {Z : State} (hw : ∀ d ∈ tables_1, d.before a0 Z = true) : (Jvm.Cond.instanceMethod ({ cls := "java/util/ImmutableCollections$AbstractImmutableList", name := "hashCode", desc := "()I" } : Jvm.MethodName)).before a0 Z = true := hw _ (List.mem_of_getElem? (i := 160) rfl)
theorem wb_ImmutableCollectionsSAbstractImmutableList_hashCode_lrI {a0 : Array Value} {Z : State} (hw : ∀ d ∈ tables_1, d.before a0 Z = true) : (Jvm.Cond.code ({ cls := "java/util/ImmutableCollections$AbstractImmutableList", name := "hashCode", desc := "()I" } : Jvm.MethodName) jdk_46_method_14_code (4 : Nat) (Option.some Jvm.ClassFile.FieldType.int)).before a0 Z = true := hw _ (List.mem_of_getElem? (i := 161) rfl)
theorem wl_ImmutableCollectionsSAbstractImmutableList_13 {a0 : Array Value} {Z : State} (hw : ∀ d ∈ tables_1, d.before a0 Z = true) : (Jvm.Cond.methodLink "java/util/ImmutableCollections$AbstractImmutableList" (13 : Nat) ({ cls := "java/util/ImmutableCollections$AbstractImmutableList", name := "size", desc := "()I" } : Jvm.MethodName)).before a0 Z = true := hw _ (List.mem_of_getElem? (i := 162) rfl)
theorem wr_ImmutableCollectionsSAbstractImmutableList_AbstractCollection_size {a0 : Array Value} {Z : State} (hw : ∀ d ∈ tables_1, d.before a0 Z = true) : (Jvm.Cond.sameMethod "java/util/ImmutableCollections$AbstractImmutableList" "java/util/AbstractCollection" "size" "()I").before a0 Z = true := hw _ (List.mem_of_getElem? (i := 163) rfl)
theorem wd_AbstractCollection_size_lrI {a0 : Array Value} {Z : State} (hw : ∀ d ∈ tables_1, d.before a0 Z = true) : (Jvm.Cond.declares ({ cls := "java/util/AbstractCollection", name := "size", desc := "()I" } : Jvm.MethodName)).before a0 Z = true := hw _ (List.mem_of_getElem? (i := 164) rfl)
theorem wv_ImmutableCollectionsSListN_ImmutableCollectionsSAbstractImmutableList_size_lrI {a0 : Array Value} {Z : State} (hw : ∀ d ∈ tables_1, d.before a0 Z = true) : (Jvm.Cond.selects "java/util/ImmutableCollections$ListN" ({ cls := "java/util/ImmutableCollections$AbstractImmutableList", name := "size", desc := "()I" } : Jvm.MethodName) ({ cls := "java/util/ImmutableCollections$ListN", name := "size", desc := "()I" } : Jvm.MethodName)).before a0 Z = true := hw _ (List.mem_of_getElem? (i := 165) rfl)
theorem wm_ImmutableCollectionsSListN_size_lrI {a0 : Array Value} {Z : State} (hw : ∀ d ∈ tables_1, d.before a0 Z = true) : (Jvm.Cond.instanceMethod ({ cls := "java/util/ImmutableCollections$ListN", name := "size", desc := "()I" } : Jvm.MethodName)).before a0 Z = true := hw _ (List.mem_of_getElem? (i := 166) rfl)
theorem wi_ImmutableCollectionsSListN {a0 : Array Value} {Z : State} (hw : ∀ d ∈ tables_1, d.before a0 Z = true) : (Jvm.Cond.initialized "java/util/ImmutableCollections$ListN").before a0 Z = true := hw _ (List.mem_of_getElem? (i := 167) rfl)
theorem wb_ImmutableCollectionsSListN_size_lrI {a0 : Array Value} {Z : State} (hw : ∀ d ∈ tables_1, d.before a0 Z = true) : (Jvm.Cond.code ({ cls := "java/util/ImmutableCollections$ListN", name := "size", desc := "()I" } : Jvm.MethodName) jdk_45_method_3_code (1 : Nat) (Option.some Jvm.ClassFile.FieldType.int)).before a0 Z = true := hw _ (List.mem_of_getElem? (i := 168) rfl)
theorem wf_ImmutableCollectionsSListN_7 {a0 : Array Value} {Z : State} (hw : ∀ d ∈ tables_1, d.before a0 Z = true) : (Jvm.Cond.fieldLink "java/util/ImmutableCollections$ListN" (7 : Nat) "java/util/ImmutableCollections$ListN" "elements" "[Ljava/lang/Object;").before a0 Z = true := hw _ (List.mem_of_getElem? (i := 169) rfl)
theorem wy_ImmutableCollectionsSListN_ImmutableCollectionsSListN_elements {a0 : Array Value} {Z : State} (hw : ∀ d ∈ tables_1, d.before a0 Z = true) : (Jvm.Cond.laysFinal "java/util/ImmutableCollections$ListN" "java/util/ImmutableCollections$ListN" "elements" "[Ljava/lang/Object;").before a0 Z = true := hw _ (List.mem_of_getElem? (i := 170) rfl)
theorem wl_TextHashCodePinLaw_15 {a0 : Array Value} {Z : State} (hw : ∀ d ∈ tables_1, d.before a0 Z = true) : (Jvm.Cond.methodLink "com/example/simple_rocchio/simplerocchio/TextHashCodePinLaw" (15 : Nat) ({ cls := "java/lang/String", name := "valueOf", desc := "(C)Ljava/lang/String;" } : Jvm.MethodName)).before a0 Z = true := hw _ (List.mem_of_getElem? (i := 171) rfl)
theorem ws_String_valueOf_lCrLjavalangString {a0 : Array Value} {Z : State} (hw : ∀ d ∈ tables_1, d.before a0 Z = true) : (Jvm.Cond.static ({ cls := "java/lang/String", name := "valueOf", desc := "(C)Ljava/lang/String;" } : Jvm.MethodName)).before a0 Z = true := hw _ (List.mem_of_getElem? (i := 172) rfl)
theorem wb_String_valueOf_lCrLjavalangString {a0 : Array Value} {Z : State} (hw : ∀ d ∈ tables_1, d.before a0 Z = true) : (Jvm.Cond.code ({ cls := "java/lang/String", name := "valueOf", desc := "(C)Ljava/lang/String;" } : Jvm.MethodName) jdk_42_method_139_code (1 : Nat) (Option.some (Jvm.ClassFile.FieldType.object "java/lang/String"))).before a0 Z = true := hw _ (List.mem_of_getElem? (i := 173) rfl)
theorem wl_String_1015 {a0 : Array Value} {Z : State} (hw : ∀ d ∈ tables_1, d.before a0 Z = true) : (Jvm.Cond.methodLink "java/lang/String" (1015 : Nat) ({ cls := "java/lang/StringLatin1", name := "canEncode", desc := "(C)Z" } : Jvm.MethodName)).before a0 Z = true := hw _ (List.mem_of_getElem? (i := 174) rfl)
theorem ws_StringLatin1_canEncode_lCrZ {a0 : Array Value} {Z : State} (hw : ∀ d ∈ tables_1, d.before a0 Z = true) : (Jvm.Cond.static ({ cls := "java/lang/StringLatin1", name := "canEncode", desc := "(C)Z" } : Jvm.MethodName)).before a0 Z = true := hw _ (List.mem_of_getElem? (i := 175) rfl)
theorem wb_StringLatin1_canEncode_lCrZ {a0 : Array Value} {Z : State} (hw : ∀ d ∈ tables_1, d.before a0 Z = true) : (Jvm.Cond.code ({ cls := "java/lang/StringLatin1", name := "canEncode", desc := "(C)Z" } : Jvm.MethodName) jdk_43_method_3_code (1 : Nat) (Option.some Jvm.ClassFile.FieldType.boolean)).before a0 Z = true := hw _ (List.mem_of_getElem? (i := 176) rfl)
theorem wl_String_1018 {a0 : Array Value} {Z : State} (hw : ∀ d ∈ tables_1, d.before a0 Z = true) : (Jvm.Cond.methodLink "java/lang/String" (1018 : Nat) ({ cls := "java/lang/StringLatin1", name := "toBytes", desc := "(C)[B" } : Jvm.MethodName)).before a0 Z = true := hw _ (List.mem_of_getElem? (i := 177) rfl)
theorem ws_StringLatin1_toBytes_lCrAB {a0 : Array Value} {Z : State} (hw : ∀ d ∈ tables_1, d.before a0 Z = true) : (Jvm.Cond.static ({ cls := "java/lang/StringLatin1", name := "toBytes", desc := "(C)[B" } : Jvm.MethodName)).before a0 Z = true := hw _ (List.mem_of_getElem? (i := 178) rfl)
theorem wb_StringLatin1_toBytes_lCrAB {a0 : Array Value} {Z : State} (hw : ∀ d ∈ tables_1, d.before a0 Z = true) : (Jvm.Cond.code ({ cls := "java/lang/StringLatin1", name := "toBytes", desc := "(C)[B" } : Jvm.MethodName) jdk_43_method_46_code (1 : Nat) (Option.some (Jvm.ClassFile.FieldType.array Jvm.ClassFile.FieldType.byte))).before a0 Z = true := hw _ (List.mem_of_getElem? (i := 179) rfl)
theorem wl_String_209 {a0 : Array Value} {Z : State} (hw : ∀ d ∈ tables_1, d.before a0 Z = true) : (Jvm.Cond.methodLink "java/lang/String" (209 : Nat) ({ cls := "java/lang/String", name := "<init>", desc := "([BB)V" } : Jvm.MethodName)).before a0 Z = true := hw _ (List.mem_of_getElem? (i := 180) rfl)
theorem wm_String_init_lABBrV {a0 : Array Value} {Z : State} (hw : ∀ d ∈ tables_1, d.before a0 Z = true) : (Jvm.Cond.instanceMethod ({ cls := "java/lang/String", name := "<init>", desc := "([BB)V" } : Jvm.MethodName)).before a0 Z = true := hw _ (List.mem_of_getElem? (i := 181) rfl)
theorem wb_String_init_lABBrV {a0 : Array Value} {Z : State} (hw : ∀ d ∈ tables_1, d.before a0 Z = true) : (Jvm.Cond.code ({ cls := "java/lang/String", name := "<init>", desc := "([BB)V" } : Jvm.MethodName) jdk_42_method_151_code (3 : Nat) (Option.none : Option Jvm.ClassFile.FieldType)).before a0 Z = true := hw _ (List.mem_of_getElem? (i := 182) rfl)
theorem wl_TextHashCodePinLaw_19 {a0 : Array Value} {Z : State} (hw : ∀ d ∈ tables_1, d.before a0 Z = true) : (Jvm.Cond.methodLink "com/example/simple_rocchio/simplerocchio/TextHashCodePinLaw" (19 : Nat) ({ cls := "java/util/List", name := "add", desc := "(Ljava/lang/Object;)Z" } : Jvm.MethodName)).before a0 Z = true := hw _ (List.mem_of_getElem? (i := 183) rfl)
theorem wd_List_add_lLjavalangObjectrZ {a0 : Array Value} {Z : State} (hw : ∀ d ∈ tables_1, d.before a0 Z = true) : (Jvm.Cond.declares ({ cls := "java/util/List", name := "add", desc := "(Ljava/lang/Object;)Z" } : Jvm.MethodName)).before a0 Z = true := hw _ (List.mem_of_getElem? (i := 184) rfl)
theorem wg_List_add_lLjavalangObjectrZ {a0 : Array Value} {Z : State} (hw : ∀ d ∈ tables_1, d.before a0 Z = true) : (Jvm.Cond.interfaceMethod "java/util/List" "java/util/List" "add" "(Ljava/lang/Object;)Z").before a0 Z = true := hw _ (List.mem_of_getElem? (i := 185) rfl)
theorem wv_ArrayList_List_add_lLjavalangObjectrZ {a0 : Array Value} {Z : State} (hw : ∀ d ∈ tables_1, d.before a0 Z = true) : (Jvm.Cond.selects "java/util/ArrayList" ({ cls := "java/util/List", name := "add", desc := "(Ljava/lang/Object;)Z" } : Jvm.MethodName) ({ cls := "java/util/ArrayList", name := "add", desc := "(Ljava/lang/Object;)Z" } : Jvm.MethodName)).before a0 Z = true := hw _ (List.mem_of_getElem? (i := 186) rfl)
theorem wm_ArrayList_add_lLjavalangObjectrZ {a0 : Array Value} {Z : State} (hw : ∀ d ∈ tables_1, d.before a0 Z = true) : (Jvm.Cond.instanceMethod ({ cls := "java/util/ArrayList", name := "add", desc := "(Ljava/lang/Object;)Z" } : Jvm.MethodName)).before a0 Z = true := hw _ (List.mem_of_getElem? (i := 187) rfl)
theorem wp_ArrayList_add_lLjavalangObjectrZ {a0 : Array Value} {Z : State} (hw : ∀ d ∈ tables_1, d.before a0 Z = true) : (Jvm.Cond.publicMethod ({ cls := "java/util/ArrayList", name := "add", desc := "(Ljava/lang/Object;)Z" } : Jvm.MethodName)).before a0 Z = true := hw _ (List.mem_of_getElem? (i := 188) rfl)
theorem wu_ArrayList_add_lLjavalangObjectrZ {a0 : Array Value} {Z : State} (hw : ∀ d ∈ tables_1, d.before a0 Z = true) : (Jvm.Cond.unhidden "java/util/ArrayList" "add" "(Ljava/lang/Object;)Z").before a0 Z = true := hw _ (List.mem_of_getElem? (i := 189) rfl)
theorem wx_ArrayList_List {a0 : Array Value} {Z : State} (hw : ∀ d ∈ tables_1, d.before a0 Z = true) : (Jvm.Cond.castable "java/util/ArrayList" "java/util/List").before a0 Z = true := hw _ (List.mem_of_getElem? (i := 190) rfl)
theorem wb_ArrayList_add_lLjavalangObjectrZ {a0 : Array Value} {Z : State} (hw : ∀ d ∈ tables_1, d.before a0 Z = true) : (Jvm.Cond.code ({ cls := "java/util/ArrayList", name := "add", desc := "(Ljava/lang/Object;)Z" } : Jvm.MethodName) jdk_38_method_25_code (2 : Nat) (Option.some Jvm.ClassFile.FieldType.boolean)).before a0 Z = true := hw _ (List.mem_of_getElem? (i := 191) rfl)
theorem wf_ArrayList_63 {a0 : Array Value} {Z : State} (hw : ∀ d ∈ tables_1, d.before a0 Z = true) : (Jvm.Cond.fieldLink "java/util/ArrayList" (63 : Nat) "java/util/ArrayList" "modCount" "I").before a0 Z = true := hw _ (List.mem_of_getElem? (i := 192) rfl)
theorem wrf_ArrayList_AbstractList_modCount {a0 : Array Value} {Z : State} (hw : ∀ d ∈ tables_1, d.before a0 Z = true) : (Jvm.Cond.sameField "java/util/ArrayList" "java/util/AbstractList" "modCount" "I").before a0 Z = true := hw _ (List.mem_of_getElem? (i := 193) rfl)
theorem wl_ArrayList_131 {a0 : Array Value} {Z : State} (hw : ∀ d ∈ tables_1, d.before a0 Z = true) : (Jvm.Cond.methodLink "java/util/ArrayList" (131 : Nat) ({ cls := "java/util/ArrayList", name := "add", desc := "(Ljava/lang/Object;[Ljava/lang/Object;I)V" } : Jvm.MethodName)).before a0 Z = true := hw _ (List.mem_of_getElem? (i := 194) rfl)
theorem wm_ArrayList_add_lLjavalangObjectALjavalangObjectIrV {a0 : Array Value} {Z : State} (hw : ∀ d ∈ tables_1, d.before a0 Z = true) : (Jvm.Cond.instanceMethod ({ cls := "java/util/ArrayList", name := "add", desc := "(Ljava/lang/Object;[Ljava/lang/Object;I)V" } : Jvm.MethodName)).before a0 Z = true := hw _ (List.mem_of_getElem? (i := 195) rfl)
theorem wq_ArrayList_add_lLjavalangObjectALjavalangObjectIrV {a0 : Array Value} {Z : State} (hw : ∀ d ∈ tables_1, d.before a0 Z = true) : (Jvm.Cond.privateMethod ({ cls := "java/util/ArrayList", name := "add", desc := "(Ljava/lang/Object;[Ljava/lang/Object;I)V" } : Jvm.MethodName)).before a0 Z = true := hw _ (List.mem_of_getElem? (i := 196) rfl)
theorem wv_ArrayList_ArrayList_add_lLjavalangObjectALjavalangObjectIrV {a0 : Array Value} {Z : State} (hw : ∀ d ∈ tables_1, d.before a0 Z = true) : (Jvm.Cond.selects "java/util/ArrayList" ({ cls := "java/util/ArrayList", name := "add", desc := "(Ljava/lang/Object;[Ljava/lang/Object;I)V" } : Jvm.MethodName) ({ cls := "java/util/ArrayList", name := "add", desc := "(Ljava/lang/Object;[Ljava/lang/Object;I)V" } : Jvm.MethodName)).before a0 Z = true := hw _ (List.mem_of_getElem? (i := 197) rfl)
theorem wb_ArrayList_add_lLjavalangObjectALjavalangObjectIrV {a0 : Array Value} {Z : State} (hw : ∀ d ∈ tables_1, d.before a0 Z = true) : (Jvm.Cond.code ({ cls := "java/util/ArrayList", name := "add", desc := "(Ljava/lang/Object;[Ljava/lang/Object;I)V" } : Jvm.MethodName) jdk_38_method_24_code (4 : Nat) (Option.none : Option Jvm.ClassFile.FieldType)).before a0 Z = true := hw _ (List.mem_of_getElem? (i := 198) rfl)
theorem wl_ArrayList_129 {a0 : Array Value} {Z : State} (hw : ∀ d ∈ tables_1, d.before a0 Z = true) : (Jvm.Cond.methodLink "java/util/ArrayList" (129 : Nat) ({ cls := "java/util/ArrayList", name := "grow", desc := "()[Ljava/lang/Object;" } : Jvm.MethodName)).before a0 Z = true := hw _ (List.mem_of_getElem? (i := 199) rfl)
theorem wm_ArrayList_grow_lrALjavalangObject {a0 : Array Value} {Z : State} (hw : ∀ d ∈ tables_1, d.before a0 Z = true) : (Jvm.Cond.instanceMethod ({ cls := "java/util/ArrayList", name := "grow", desc := "()[Ljava/lang/Object;" } : Jvm.MethodName)).before a0 Z = true := hw _ (List.mem_of_getElem? (i := 200) rfl)
theorem wq_ArrayList_grow_lrALjavalangObject {a0 : Array Value} {Z : State} (hw : ∀ d ∈ tables_1, d.before a0 Z = true) : (Jvm.Cond.privateMethod ({ cls := "java/util/ArrayList", name := "grow", desc := "()[Ljava/lang/Object;" } : Jvm.MethodName)).before a0 Z = true := hw _ (List.mem_of_getElem? (i := 201) rfl)
theorem wv_ArrayList_ArrayList_grow_lrALjavalangObject {a0 : Array Value} {Z : State} (hw : ∀ d ∈ tables_1, d.before a0 Z = true) : (Jvm.Cond.selects "java/util/ArrayList" ({ cls := "java/util/ArrayList", name := "grow", desc := "()[Ljava/lang/Object;" } : Jvm.MethodName) ({ cls := "java/util/ArrayList", name := "grow", desc := "()[Ljava/lang/Object;" } : Jvm.MethodName)).before a0 Z = true := hw _ (List.mem_of_getElem? (i := 202) rfl)
theorem wb_ArrayList_grow_lrALjavalangObject {a0 : Array Value} {Z : State} (hw : ∀ d ∈ tables_1, d.before a0 Z = true) : (Jvm.Cond.code ({ cls := "java/util/ArrayList", name := "grow", desc := "()[Ljava/lang/Object;" } : Jvm.MethodName) jdk_38_method_7_code (1 : Nat) (Option.some (Jvm.ClassFile.FieldType.array (Jvm.ClassFile.FieldType.object "java/lang/Object")))).before a0 Z = true := hw _ (List.mem_of_getElem? (i := 203) rfl)
theorem wl_ArrayList_69 {a0 : Array Value} {Z : State} (hw : ∀ d ∈ tables_1, d.before a0 Z = true) : (Jvm.Cond.methodLink "java/util/ArrayList" (69 : Nat) ({ cls := "java/util/ArrayList", name := "grow", desc := "(I)[Ljava/lang/Object;" } : Jvm.MethodName)).before a0 Z = true := hw _ (List.mem_of_getElem? (i := 204) rfl)
theorem wm_ArrayList_grow_lIrALjavalangObject {a0 : Array Value} {Z : State} (hw : ∀ d ∈ tables_1, d.before a0 Z = true) : (Jvm.Cond.instanceMethod ({ cls := "java/util/ArrayList", name := "grow", desc := "(I)[Ljava/lang/Object;" } : Jvm.MethodName)).before a0 Z = true := hw _ (List.mem_of_getElem? (i := 205) rfl)
theorem wq_ArrayList_grow_lIrALjavalangObject {a0 : Array Value} {Z : State} (hw : ∀ d ∈ tables_1, d.before a0 Z = true) : (Jvm.Cond.privateMethod ({ cls := "java/util/ArrayList", name := "grow", desc := "(I)[Ljava/lang/Object;" } : Jvm.MethodName)).before a0 Z = true := hw _ (List.mem_of_getElem? (i := 206) rfl)
theorem wv_ArrayList_ArrayList_grow_lIrALjavalangObject {a0 : Array Value} {Z : State} (hw : ∀ d ∈ tables_1, d.before a0 Z = true) : (Jvm.Cond.selects "java/util/ArrayList" ({ cls := "java/util/ArrayList", name := "grow", desc := "(I)[Ljava/lang/Object;" } : Jvm.MethodName) ({ cls := "java/util/ArrayList", name := "grow", desc := "(I)[Ljava/lang/Object;" } : Jvm.MethodName)).before a0 Z = true := hw _ (List.mem_of_getElem? (i := 207) rfl)
theorem wb_ArrayList_grow_lIrALjavalangObject {a0 : Array Value} {Z : State} (hw : ∀ d ∈ tables_1, d.before a0 Z = true) : (Jvm.Cond.code ({ cls := "java/util/ArrayList", name := "grow", desc := "(I)[Ljava/lang/Object;" } : Jvm.MethodName) jdk_38_method_6_code (4 : Nat) (Option.some (Jvm.ClassFile.FieldType.array (Jvm.ClassFile.FieldType.object "java/lang/Object")))).before a0 Z = true := hw _ (List.mem_of_getElem? (i := 208) rfl)
theorem wl_ArrayList_79 {a0 : Array Value} {Z : State} (hw : ∀ d ∈ tables_1, d.before a0 Z = true) : (Jvm.Cond.methodLink "java/util/ArrayList" (79 : Nat) ({ cls := "java/lang/Math", name := "max", desc := "(II)I" } : Jvm.MethodName)).before a0 Z = true := hw _ (List.mem_of_getElem? (i := 209) rfl)
theorem ws_Math_max_lIIrI {a0 : Array Value} {Z : State} (hw : ∀ d ∈ tables_1, d.before a0 Z = true) : (Jvm.Cond.static ({ cls := "java/lang/Math", name := "max", desc := "(II)I" } : Jvm.MethodName)).before a0 Z = true := hw _ (List.mem_of_getElem? (i := 210) rfl)
theorem wi_Math {a0 : Array Value} {Z : State} (hw : ∀ d ∈ tables_1, d.before a0 Z = true) : (Jvm.Cond.initialized "java/lang/Math").before a0 Z = true := hw _ (List.mem_of_getElem? (i := 211) rfl)
theorem wb_Math_max_lIIrI {a0 : Array Value} {Z : State} (hw : ∀ d ∈ tables_1, d.before a0 Z = true) : (Jvm.Cond.code ({ cls := "java/lang/Math", name := "max", desc := "(II)I" } : Jvm.MethodName) jdk_29_method_65_code (2 : Nat) (Option.some Jvm.ClassFile.FieldType.int)).before a0 Z = true := hw _ (List.mem_of_getElem? (i := 212) rfl)
theorem wc_ArrayList_7 {a0 : Array Value} {Z : State} (hw : ∀ d ∈ tables_1, d.before a0 Z = true) : (Jvm.Cond.classLink "java/util/ArrayList" (7 : Nat) "java/lang/Object").before a0 Z = true := hw _ (List.mem_of_getElem? (i := 213) rfl)
theorem wl_ImmutableCollections_30 {a0 : Array Value} {Z : State} (hw : ∀ d ∈ tables_1, d.before a0 Z = true) : (Jvm.Cond.methodLink "java/util/ImmutableCollections" (30 : Nat) ({ cls := "java/util/Collection", name := "toArray", desc := "()[Ljava/lang/Object;" } : Jvm.MethodName)).before a0 Z = true := hw _ (List.mem_of_getElem? (i := 214) rfl)
theorem wd_Collection_toArray_lrALjavalangObject {a0 : Array Value} {Z : State} (hw : ∀ d ∈ tables_1, d.before a0 Z = true) : (Jvm.Cond.declares ({ cls := "java/util/Collection", name := "toArray", desc := "()[Ljava/lang/Object;" } : Jvm.MethodName)).before a0 Z = true := hw _ (List.mem_of_getElem? (i := 215) rfl)
theorem wg_Collection_toArray_lrALjavalangObject {a0 : Array Value} {Z : State} (hw : ∀ d ∈ tables_1, d.before a0 Z = true) : (Jvm.Cond.interfaceMethod "java/util/Collection" "java/util/Collection" "toArray" "()[Ljava/lang/Object;").before a0 Z = true := hw _ (List.mem_of_getElem? (i := 216) rfl)
theorem wv_ArrayList_Collection_toArray_lrALjavalangObject {a0 : Array Value} {Z : State} (hw : ∀ d ∈ tables_1, d.before a0 Z = true) : (Jvm.Cond.selects "java/util/ArrayList" ({ cls := "java/util/Collection", name := "toArray", desc := "()[Ljava/lang/Object;" } : Jvm.MethodName) ({ cls := "java/util/ArrayList", name := "toArray", desc := "()[Ljava/lang/Object;" } : Jvm.MethodName)).before a0 Z = true := hw _ (List.mem_of_getElem? (i := 217) rfl)
theorem wm_ArrayList_toArray_lrALjavalangObject {a0 : Array Value} {Z : State} (hw : ∀ d ∈ tables_1, d.before a0 Z = true) : (Jvm.Cond.instanceMethod ({ cls := "java/util/ArrayList", name := "toArray", desc := "()[Ljava/lang/Object;" } : Jvm.MethodName)).before a0 Z = true := hw _ (List.mem_of_getElem? (i := 218) rfl)
theorem wp_ArrayList_toArray_lrALjavalangObject {a0 : Array Value} {Z : State} (hw : ∀ d ∈ tables_1, d.before a0 Z = true) : (Jvm.Cond.publicMethod ({ cls := "java/util/ArrayList", name := "toArray", desc := "()[Ljava/lang/Object;" } : Jvm.MethodName)).before a0 Z = true := hw _ (List.mem_of_getElem? (i := 219) rfl)
theorem wu_ArrayList_toArray_lrALjavalangObject {a0 : Array Value} {Z : State} (hw : ∀ d ∈ tables_1, d.before a0 Z = true) : (Jvm.Cond.unhidden "java/util/ArrayList" "toArray" "()[Ljava/lang/Object;").before a0 Z = true := hw _ (List.mem_of_getElem? (i := 220) rfl)
theorem wb_ArrayList_toArray_lrALjavalangObject {a0 : Array Value} {Z : State} (hw : ∀ d ∈ tables_1, d.before a0 Z = true) : (Jvm.Cond.code ({ cls := "java/util/ArrayList", name := "toArray", desc := "()[Ljava/lang/Object;" } : Jvm.MethodName) jdk_38_method_16_code (1 : Nat) (Option.some (Jvm.ClassFile.FieldType.array (Jvm.ClassFile.FieldType.object "java/lang/Object")))).before a0 Z = true := hw _ (List.mem_of_getElem? (i := 221) rfl)
theorem wl_ArrayList_66 {a0 : Array Value} {Z : State} (hw : ∀ d ∈ tables_1, d.before a0 Z = true) : (Jvm.Cond.methodLink "java/util/ArrayList" (66 : Nat) ({ cls := "java/util/Arrays", name := "copyOf", desc := "([Ljava/lang/Object;I)[Ljava/lang/Object;" } : Jvm.MethodName)).before a0 Z = true := hw _ (List.mem_of_getElem? (i := 222) rfl)
theorem ws_Arrays_copyOf_lALjavalangObjectIrALjavalangObject {a0 : Array Value} {Z : State} (hw : ∀ d ∈ tables_1, d.before a0 Z = true) : (Jvm.Cond.static ({ cls := "java/util/Arrays", name := "copyOf", desc := "([Ljava/lang/Object;I)[Ljava/lang/Object;" } : Jvm.MethodName)).before a0 Z = true := hw _ (List.mem_of_getElem? (i := 223) rfl)
theorem wb_Arrays_copyOf_lALjavalangObjectIrALjavalangObject {a0 : Array Value} {Z : State} (hw : ∀ d ∈ tables_1, d.before a0 Z = true) : (Jvm.Cond.code ({ cls := "java/util/Arrays", name := "copyOf", desc := "([Ljava/lang/Object;I)[Ljava/lang/Object;" } : Jvm.MethodName) jdk_65_method_119_code (2 : Nat) (Option.some (Jvm.ClassFile.FieldType.array (Jvm.ClassFile.FieldType.object "java/lang/Object")))).before a0 Z = true := hw _ (List.mem_of_getElem? (i := 224) rfl)
theorem wl_Arrays_86 {a0 : Array Value} {Z : State} (hw : ∀ d ∈ tables_1, d.before a0 Z = true) : (Jvm.Cond.methodLink "java/util/Arrays" (86 : Nat) ({ cls := "java/lang/Object", name := "getClass", desc := "()Ljava/lang/Class;" } : Jvm.MethodName)).before a0 Z = true := hw _ (List.mem_of_getElem? (i := 225) rfl)
theorem wd_Object_getClass_lrLjavalangClass {a0 : Array Value} {Z : State} (hw : ∀ d ∈ tables_1, d.before a0 Z = true) : (Jvm.Cond.declares ({ cls := "java/lang/Object", name := "getClass", desc := "()Ljava/lang/Class;" } : Jvm.MethodName)).before a0 Z = true := hw _ (List.mem_of_getElem? (i := 226) rfl)
theorem wm_Object_getClass_lrLjavalangClass {a0 : Array Value} {Z : State} (hw : ∀ d ∈ tables_1, d.before a0 Z = true) : (Jvm.Cond.instanceMethod ({ cls := "java/lang/Object", name := "getClass", desc := "()Ljava/lang/Class;" } : Jvm.MethodName)).before a0 Z = true := hw _ (List.mem_of_getElem? (i := 227) rfl)
theorem wv_Object_Object_getClass_lrLjavalangClass {a0 : Array Value} {Z : State} (hw : ∀ d ∈ tables_1, d.before a0 Z = true) : (Jvm.Cond.selects "[Ljava/lang/Object;" ({ cls := "java/lang/Object", name := "getClass", desc := "()Ljava/lang/Class;" } : Jvm.MethodName) ({ cls := "java/lang/Object", name := "getClass", desc := "()Ljava/lang/Class;" } : Jvm.MethodName)).before a0 Z = true := hw _ (List.mem_of_getElem? (i := 228) rfl)
theorem wn_Object_getClass_lrLjavalangClass {a0 : Array Value} {Z : State} (hw : ∀ d ∈ tables_1, d.before a0 Z = true) : (Jvm.Cond.native ({ cls := "java/lang/Object", name := "getClass", desc := "()Ljava/lang/Class;" } : Jvm.MethodName)).before a0 Z = true := hw _ (List.mem_of_getElem? (i := 229) rfl)
theorem wx_Object_Object {a0 : Array Value} {Z : State} (hw : ∀ d ∈ tables_1, d.before a0 Z = true) : (Jvm.Cond.castable "[Ljava/lang/Object;" "[Ljava/lang/Object;").before a0 Z = true := hw _ (List.mem_of_getElem? (i := 230) rfl)
theorem wl_Arrays_300 {a0 : Array Value} {Z : State} (hw : ∀ d ∈ tables_1, d.before a0 Z = true) : (Jvm.Cond.methodLink "java/util/Arrays" (300 : Nat) ({ cls := "java/util/Arrays", name := "copyOf", desc := "([Ljava/lang/Object;ILjava/lang/Class;)[Ljava/lang/Object;" } : Jvm.MethodName)).before a0 Z = true := hw _ (List.mem_of_getElem? (i := 231) rfl)
theorem ws_Arrays_copyOf_lALjavalangObjectILjavalangClassrALjavalangObject {a0 : Array Value} {Z : State} (hw : ∀ d ∈ tables_1, d.before a0 Z = true) : (Jvm.Cond.static ({ cls := "java/util/Arrays", name := "copyOf", desc := "([Ljava/lang/Object;ILjava/lang/Class;)[Ljava/lang/Object;" } : Jvm.MethodName)).before a0 Z = true := hw _ (List.mem_of_getElem? (i := 232) rfl)
theorem wb_Arrays_copyOf_lALjavalangObjectILjavalangClassrALjavalangObject {a0 : Array Value} {Z : State} (hw : ∀ d ∈ tables_1, d.before a0 Z = true) : (Jvm.Cond.code ({ cls := "java/util/Arrays", name := "copyOf", desc := "([Ljava/lang/Object;ILjava/lang/Class;)[Ljava/lang/Object;" } : Jvm.MethodName) jdk_65_method_120_code (4 : Nat) (Option.some (Jvm.ClassFile.FieldType.array (Jvm.ClassFile.FieldType.object "java/lang/Object")))).before a0 Z = true := hw _ (List.mem_of_getElem? (i := 233) rfl)
theorem wc_Arrays_110 {a0 : Array Value} {Z : State} (hw : ∀ d ∈ tables_1, d.before a0 Z = true) : (Jvm.Cond.classLink "java/util/Arrays" (110 : Nat) "[Ljava/lang/Object;").before a0 Z = true := hw _ (List.mem_of_getElem? (i := 234) rfl)
theorem wc_Arrays_2 {a0 : Array Value} {Z : State} (hw : ∀ d ∈ tables_1, d.before a0 Z = true) : (Jvm.Cond.classLink "java/util/Arrays" (2 : Nat) "java/lang/Object").before a0 Z = true := hw _ (List.mem_of_getElem? (i := 235) rfl)
theorem wl_Arrays_304 {a0 : Array Value} {Z : State} (hw : ∀ d ∈ tables_1, d.before a0 Z = true) : (Jvm.Cond.methodLink "java/util/Arrays" (304 : Nat) ({ cls := "java/lang/Math", name := "min", desc := "(II)I" } : Jvm.MethodName)).before a0 Z = true := hw _ (List.mem_of_getElem? (i := 236) rfl)
theorem ws_Math_min_lIIrI {a0 : Array Value} {Z : State} (hw : ∀ d ∈ tables_1, d.before a0 Z = true) : (Jvm.Cond.static ({ cls := "java/lang/Math", name := "min", desc := "(II)I" } : Jvm.MethodName)).before a0 Z = true := hw _ (List.mem_of_getElem? (i := 237) rfl)
theorem wb_Math_min_lIIrI {a0 : Array Value} {Z : State} (hw : ∀ d ∈ tables_1, d.before a0 Z = true) : (Jvm.Cond.code ({ cls := "java/lang/Math", name := "min", desc := "(II)I" } : Jvm.MethodName) jdk_29_method_69_code (2 : Nat) (Option.some Jvm.ClassFile.FieldType.int)).before a0 Z = true := hw _ (List.mem_of_getElem? (i := 238) rfl)
theorem wl_Arrays_150 {a0 : Array Value} {Z : State} (hw : ∀ d ∈ tables_1, d.before a0 Z = true) : (Jvm.Cond.methodLink "java/util/Arrays" (150 : Nat) ({ cls := "java/lang/System", name := "arraycopy", desc := "(Ljava/lang/Object;ILjava/lang/Object;II)V" } : Jvm.MethodName)).before a0 Z = true := hw _ (List.mem_of_getElem? (i := 239) rfl)
theorem ws_System_arraycopy_lLjavalangObjectILjavalangObjectIIrV {a0 : Array Value} {Z : State} (hw : ∀ d ∈ tables_1, d.before a0 Z = true) : (Jvm.Cond.static ({ cls := "java/lang/System", name := "arraycopy", desc := "(Ljava/lang/Object;ILjava/lang/Object;II)V" } : Jvm.MethodName)).before a0 Z = true := hw _ (List.mem_of_getElem? (i := 240) rfl)
theorem wi_System {a0 : Array Value} {Z : State} (hw : ∀ d ∈ tables_1, d.before a0 Z = true) : (Jvm.Cond.initialized "java/lang/System").before a0 Z = true := hw _ (List.mem_of_getElem? (i := 241) rfl)
theorem wn_System_arraycopy_lLjavalangObjectILjavalangObjectIIrV {a0 : Array Value} {Z : State} (hw : ∀ d ∈ tables_1, d.before a0 Z = true) : (Jvm.Cond.native ({ cls := "java/lang/System", name := "arraycopy", desc := "(Ljava/lang/Object;ILjava/lang/Object;II)V" } : Jvm.MethodName)).before a0 Z = true := hw _ (List.mem_of_getElem? (i := 242) rfl)
theorem wl_ImmutableCollections_34 {a0 : Array Value} {Z : State} (hw : ∀ d ∈ tables_1, d.before a0 Z = true) : (Jvm.Cond.methodLink "java/util/ImmutableCollections" (34 : Nat) ({ cls := "java/util/List", name := "of", desc := "([Ljava/lang/Object;)Ljava/util/List;" } : Jvm.MethodName)).before a0 Z = true := hw _ (List.mem_of_getElem? (i := 243) rfl)
theorem ws_List_of_lALjavalangObjectrLjavautilList {a0 : Array Value} {Z : State} (hw : ∀ d ∈ tables_1, d.before a0 Z = true) : (Jvm.Cond.static ({ cls := "java/util/List", name := "of", desc := "([Ljava/lang/Object;)Ljava/util/List;" } : Jvm.MethodName)).before a0 Z = true := hw _ (List.mem_of_getElem? (i := 244) rfl)
theorem wb_List_of_lALjavalangObjectrLjavautilList {a0 : Array Value} {Z : State} (hw : ∀ d ∈ tables_1, d.before a0 Z = true) : (Jvm.Cond.code ({ cls := "java/util/List", name := "of", desc := "([Ljava/lang/Object;)Ljava/util/List;" } : Jvm.MethodName) jdk_40_method_47_code (2 : Nat) (Option.some (Jvm.ClassFile.FieldType.object "java/util/List"))).before a0 Z = true := hw _ (List.mem_of_getElem? (i := 245) rfl)
theorem wc_List_96 {a0 : Array Value} {Z : State} (hw : ∀ d ∈ tables_1, d.before a0 Z = true) : (Jvm.Cond.classLink "java/util/List" (96 : Nat) "java/util/ImmutableCollections$List12").before a0 Z = true := hw _ (List.mem_of_getElem? (i := 246) rfl)
theorem wn_ImmutableCollectionsSList12 {a0 : Array Value} {Z : State} (hw : ∀ d ∈ tables_1, d.before a0 Z = true) : (Jvm.Cond.instantiable "java/util/ImmutableCollections$List12" (2 : Nat)).before a0 Z = true := hw _ (List.mem_of_getElem? (i := 247) rfl)
theorem wi_ImmutableCollectionsSList12 {a0 : Array Value} {Z : State} (hw : ∀ d ∈ tables_1, d.before a0 Z = true) : (Jvm.Cond.initialized "java/util/ImmutableCollections$List12").before a0 Z = true := hw _ (List.mem_of_getElem? (i := 248) rfl)
theorem wl_List_100 {a0 : Array Value} {Z : State} (hw : ∀ d ∈ tables_1, d.before a0 Z = true) : (Jvm.Cond.methodLink "java/util/List" (100 : Nat) ({ cls := "java/util/ImmutableCollections$List12", name := "<init>", desc := "(Ljava/lang/Object;Ljava/lang/Object;)V" } : Jvm.MethodName)).before a0 Z = true := hw _ (List.mem_of_getElem? (i := 249) rfl)
theorem wm_ImmutableCollectionsSList12_init_lLjavalangObjectLjavalangObjectrV {a0 : Array Value} {Z : State} (hw : ∀ d ∈ tables_1, d.before a0 Z = true) : (Jvm.Cond.instanceMethod ({ cls := "java/util/ImmutableCollections$List12", name := "<init>", desc := "(Ljava/lang/Object;Ljava/lang/Object;)V" } : Jvm.MethodName)).before a0 Z = true := hw _ (List.mem_of_getElem? (i := 250) rfl)
theorem wx_ImmutableCollectionsSList12_ImmutableCollectionsSList12 {a0 : Array Value} {Z : State} (hw : ∀ d ∈ tables_1, d.before a0 Z = true) : (Jvm.Cond.castable "java/util/ImmutableCollections$List12" "java/util/ImmutableCollections$List12").before a0 Z = true := hw _ (List.mem_of_getElem? (i := 251) rfl)
theorem wb_ImmutableCollectionsSList12_init_lLjavalangObjectLjavalangObjectrV {a0 : Array Value} {Z : State} (hw : ∀ d ∈ tables_1, d.before a0 Z = true) : (Jvm.Cond.code ({ cls := "java/util/ImmutableCollections$List12", name := "<init>", desc := "(Ljava/lang/Object;Ljava/lang/Object;)V" } : Jvm.MethodName) jdk_44_method_2_code (3 : Nat) (Option.none : Option Jvm.ClassFile.FieldType)).before a0 Z = true := hw _ (List.mem_of_getElem? (i := 252) rfl)
theorem wl_ImmutableCollectionsSList12_1 {a0 : Array Value} {Z : State} (hw : ∀ d ∈ tables_1, d.before a0 Z = true) : (Jvm.Cond.methodLink "java/util/ImmutableCollections$List12" (1 : Nat) ({ cls := "java/util/ImmutableCollections$AbstractImmutableList", name := "<init>", desc := "()V" } : Jvm.MethodName)).before a0 Z = true := hw _ (List.mem_of_getElem? (i := 253) rfl)
theorem wm_ImmutableCollectionsSAbstractImmutableList_init_lrV {a0 : Array Value} {Z : State} (hw : ∀ d ∈ tables_1, d.before a0 Z = true) : (Jvm.Cond.instanceMethod ({ cls := "java/util/ImmutableCollections$AbstractImmutableList", name := "<init>", desc := "()V" } : Jvm.MethodName)).before a0 Z = true := hw _ (List.mem_of_getElem? (i := 254) rfl)
theorem wd_ImmutableCollectionsSAbstractImmutableList_init_lrV {a0 : Array Value} {Z : State} (hw : ∀ d ∈ tables_1, d.before a0 Z = true) : (Jvm.Cond.declares ({ cls := "java/util/ImmutableCollections$AbstractImmutableList", name := "<init>", desc := "()V" } : Jvm.MethodName)).before a0 Z = true := hw _ (List.mem_of_getElem? (i := 255) rfl)
theorem wx_ImmutableCollectionsSList12_ImmutableCollectionsSAbstractImmutableList {a0 : Array Value} {Z : State} (hw : ∀ d ∈ tables_1, d.before a0 Z = true) : (Jvm.Cond.castable "java/util/ImmutableCollections$List12" "java/util/ImmutableCollections$AbstractImmutableList").before a0 Z = true := hw _ (List.mem_of_getElem? (i := 256) rfl)
theorem wb_ImmutableCollectionsSAbstractImmutableList_init_lrV {a0 : Array Value} {Z : State} (hw : ∀ d ∈ tables_1, d.before a0 Z = true) : (Jvm.Cond.code ({ cls := "java/util/ImmutableCollections$AbstractImmutableList", name := "<init>", desc := "()V" } : Jvm.MethodName) jdk_46_method_1_code (1 : Nat) (Option.none : Option Jvm.ClassFile.FieldType)).before a0 Z = true := hw _ (List.mem_of_getElem? (i := 257) rfl)
theorem wl_ImmutableCollectionsSAbstractImmutableList_1 {a0 : Array Value} {Z : State} (hw : ∀ d ∈ tables_1, d.before a0 Z = true) : (Jvm.Cond.methodLink "java/util/ImmutableCollections$AbstractImmutableList" (1 : Nat) ({ cls := "java/util/ImmutableCollections$AbstractImmutableCollection", name := "<init>", desc := "()V" } : Jvm.MethodName)).before a0 Z = true := hw _ (List.mem_of_getElem? (i := 258) rfl)
theorem wm_ImmutableCollectionsSAbstractImmutableCollection_init_lrV {a0 : Array Value} {Z : State} (hw : ∀ d ∈ tables_1, d.before a0 Z = true) : (Jvm.Cond.instanceMethod ({ cls := "java/util/ImmutableCollections$AbstractImmutableCollection", name := "<init>", desc := "()V" } : Jvm.MethodName)).before a0 Z = true := hw _ (List.mem_of_getElem? (i := 259) rfl)
theorem wd_ImmutableCollectionsSAbstractImmutableCollection_init_lrV {a0 : Array Value} {Z : State} (hw : ∀ d ∈ tables_1, d.before a0 Z = true) : (Jvm.Cond.declares ({ cls := "java/util/ImmutableCollections$AbstractImmutableCollection", name := "<init>", desc := "()V" } : Jvm.MethodName)).before a0 Z = true := hw _ (List.mem_of_getElem? (i := 260) rfl)
theorem wx_ImmutableCollectionsSList12_ImmutableCollectionsSAbstractImmutableCollection {a0 : Array Value} {Z : State} (hw : ∀ d ∈ tables_1, d.before a0 Z = true) : (Jvm.Cond.castable "java/util/ImmutableCollections$List12" "java/util/ImmutableCollections$AbstractImmutableCollection").before a0 Z = true := hw _ (List.mem_of_getElem? (i := 261) rfl)
theorem wi_ImmutableCollectionsSAbstractImmutableCollection {a0 : Array Value} {Z : State} (hw : ∀ d ∈ tables_1, d.before a0 Z = true) : (Jvm.Cond.initialized "java/util/ImmutableCollections$AbstractImmutableCollection").before a0 Z = true := hw _ (List.mem_of_getElem? (i := 262) rfl)
theorem wb_ImmutableCollectionsSAbstractImmutableCollection_init_lrV {a0 : Array Value} {Z : State} (hw : ∀ d ∈ tables_1, d.before a0 Z = true) : (Jvm.Cond.code ({ cls := "java/util/ImmutableCollections$AbstractImmutableCollection", name := "<init>", desc := "()V" } : Jvm.MethodName) jdk_47_method_1_code (1 : Nat) (Option.none : Option Jvm.ClassFile.FieldType)).before a0 Z = true := hw _ (List.mem_of_getElem? (i := 263) rfl)
theorem wl_ImmutableCollectionsSAbstractImmutableCollection_1 {a0 : Array Value} {Z : State} (hw : ∀ d ∈ tables_1, d.before a0 Z = true) : (Jvm.Cond.methodLink "java/util/ImmutableCollections$AbstractImmutableCollection" (1 : Nat) ({ cls := "java/util/AbstractCollection", name := "<init>", desc := "()V" } : Jvm.MethodName)).before a0 Z = true := hw _ (List.mem_of_getElem? (i := 264) rfl)
theorem wx_ImmutableCollectionsSList12_AbstractCollection {a0 : Array Value} {Z : State} (hw : ∀ d ∈ tables_1, d.before a0 Z = true) : (Jvm.Cond.castable "java/util/ImmutableCollections$List12" "java/util/AbstractCollection").before a0 Z = true := hw _ (List.mem_of_getElem? (i := 265) rfl)
theorem wl_ImmutableCollectionsSList12_7 {a0 : Array Value} {Z : State} (hw : ∀ d ∈ tables_1, d.before a0 Z = true) : (Jvm.Cond.methodLink "java/util/ImmutableCollections$List12" (7 : Nat) ({ cls := "java/util/Objects", name := "requireNonNull", desc := "(Ljava/lang/Object;)Ljava/lang/Object;" } : Jvm.MethodName)).before a0 Z = true := hw _ (List.mem_of_getElem? (i := 266) rfl)
theorem ws_Objects_requireNonNull_lLjavalangObjectrLjavalangObject {a0 : Array Value} {Z : State} (hw : ∀ d ∈ tables_1, d.before a0 Z = true) : (Jvm.Cond.static ({ cls := "java/util/Objects", name := "requireNonNull", desc := "(Ljava/lang/Object;)Ljava/lang/Object;" } : Jvm.MethodName)).before a0 Z = true := hw _ (List.mem_of_getElem? (i := 267) rfl)
theorem wb_Objects_requireNonNull_lLjavalangObjectrLjavalangObject {a0 : Array Value} {Z : State} (hw : ∀ d ∈ tables_1, d.before a0 Z = true) : (Jvm.Cond.code ({ cls := "java/util/Objects", name := "requireNonNull", desc := "(Ljava/lang/Object;)Ljava/lang/Object;" } : Jvm.MethodName) jdk_31_method_10_code (1 : Nat) (Option.some (Jvm.ClassFile.FieldType.object "java/lang/Object"))).before a0 Z = true := hw _ (List.mem_of_getElem? (i := 268) rfl)
theorem wf_ImmutableCollectionsSList12_13 {a0 : Array Value} {Z : State} (hw : ∀ d ∈ tables_1, d.before a0 Z = true) : (Jvm.Cond.fieldLink "java/util/ImmutableCollections$List12" (13 : Nat) "java/util/ImmutableCollections$List12" "e0" "Ljava/lang/Object;").before a0 Z = true := hw _ (List.mem_of_getElem? (i := 269) rfl)
theorem wy_ImmutableCollectionsSList12_ImmutableCollectionsSList12_e0 {a0 : Array Value} {Z : State} (hw : ∀ d ∈ tables_1, d.before a0 Z = true) : (Jvm.Cond.laysFinal "java/util/ImmutableCollections$List12" "java/util/ImmutableCollections$List12" "e0" "Ljava/lang/Object;").before a0 Z = true := hw _ (List.mem_of_getElem? (i := 270) rfl)
theorem wf_ImmutableCollectionsSList12_24 {a0 : Array Value} {Z : State} (hw : ∀ d ∈ tables_1, d.before a0 Z = true) : (Jvm.Cond.fieldLink "java/util/ImmutableCollections$List12" (24 : Nat) "java/util/ImmutableCollections$List12" "e1" "Ljava/lang/Object;").before a0 Z = true := hw _ (List.mem_of_getElem? (i := 271) rfl)
theorem wy_ImmutableCollectionsSList12_ImmutableCollectionsSList12_e1 {a0 : Array Value} {Z : State} (hw : ∀ d ∈ tables_1, d.before a0 Z = true) : (Jvm.Cond.laysFinal "java/util/ImmutableCollections$List12" "java/util/ImmutableCollections$List12" "e1" "Ljava/lang/Object;").before a0 Z = true := hw _ (List.mem_of_getElem? (i := 272) rfl)
theorem wl_String_177 {a0 : Array Value} {Z : State} (hw : ∀ d ∈ tables_1, d.before a0 Z = true) : (Jvm.Cond.methodLink "java/lang/String" (177 : Nat) ({ cls := "java/lang/StringUTF16", name := "compress", desc := "([CII)[B" } : Jvm.MethodName)).before a0 Z = true := hw _ (List.mem_of_getElem? (i := 273) rfl)
theorem ws_StringUTF16_compress_lACIIrAB {a0 : Array Value} {Z : State} (hw : ∀ d ∈ tables_1, d.before a0 Z = true) : (Jvm.Cond.static ({ cls := "java/lang/StringUTF16", name := "compress", desc := "([CII)[B" } : Jvm.MethodName)).before a0 Z = true := hw _ (List.mem_of_getElem? (i := 274) rfl)
theorem wi_StringUTF16 {a0 : Array Value} {Z : State} (hw : ∀ d ∈ tables_1, d.before a0 Z = true) : (Jvm.Cond.initialized "java/lang/StringUTF16").before a0 Z = true := hw _ (List.mem_of_getElem? (i := 275) rfl)
theorem wb_StringUTF16_compress_lACIIrAB {a0 : Array Value} {Z : State} (hw : ∀ d ∈ tables_1, d.before a0 Z = true) : (Jvm.Cond.code ({ cls := "java/lang/StringUTF16", name := "compress", desc := "([CII)[B" } : Jvm.MethodName) jdk_52_method_16_code (6 : Nat) (Option.some (Jvm.ClassFile.FieldType.array Jvm.ClassFile.FieldType.byte))).before a0 Z = true := hw _ (List.mem_of_getElem? (i := 276) rfl)
theorem wl_StringUTF16_115 {a0 : Array Value} {Z : State} (hw : ∀ d ∈ tables_1, d.before a0 Z = true) : (Jvm.Cond.methodLink "java/lang/StringUTF16" (115 : Nat) ({ cls := "java/lang/StringUTF16", name := "compress", desc := "([CI[BII)I" } : Jvm.MethodName)).before a0 Z = true := hw _ (List.mem_of_getElem? (i := 277) rfl)
theorem ws_StringUTF16_compress_lACIABIIrI {a0 : Array Value} {Z : State} (hw : ∀ d ∈ tables_1, d.before a0 Z = true) : (Jvm.Cond.static ({ cls := "java/lang/StringUTF16", name := "compress", desc := "([CI[BII)I" } : Jvm.MethodName)).before a0 Z = true := hw _ (List.mem_of_getElem? (i := 278) rfl)
theorem wb_StringUTF16_compress_lACIABIIrI {a0 : Array Value} {Z : State} (hw : ∀ d ∈ tables_1, d.before a0 Z = true) : (Jvm.Cond.code ({ cls := "java/lang/StringUTF16", name := "compress", desc := "([CI[BII)I" } : Jvm.MethodName) jdk_52_method_21_code (7 : Nat) (Option.some Jvm.ClassFile.FieldType.int)).before a0 Z = true := hw _ (List.mem_of_getElem? (i := 279) rfl)
theorem wl_String_47 {a0 : Array Value} {Z : State} (hw : ∀ d ∈ tables_1, d.before a0 Z = true) : (Jvm.Cond.methodLink "java/lang/String" (47 : Nat) ({ cls := "java/lang/StringUTF16", name := "coderFromArrayLen", desc := "([BI)B" } : Jvm.MethodName)).before a0 Z = true := hw _ (List.mem_of_getElem? (i := 280) rfl)
theorem ws_StringUTF16_coderFromArrayLen_lABIrB {a0 : Array Value} {Z : State} (hw : ∀ d ∈ tables_1, d.before a0 Z = true) : (Jvm.Cond.static ({ cls := "java/lang/StringUTF16", name := "coderFromArrayLen", desc := "([BI)B" } : Jvm.MethodName)).before a0 Z = true := hw _ (List.mem_of_getElem? (i := 281) rfl)
theorem wb_StringUTF16_coderFromArrayLen_lABIrB {a0 : Array Value} {Z : State} (hw : ∀ d ∈ tables_1, d.before a0 Z = true) : (Jvm.Cond.code ({ cls := "java/lang/StringUTF16", name := "coderFromArrayLen", desc := "([BI)B" } : Jvm.MethodName) jdk_52_method_15_code (2 : Nat) (Option.some Jvm.ClassFile.FieldType.byte)).before a0 Z = true := hw _ (List.mem_of_getElem? (i := 282) rfl)
theorem wx_ImmutableCollectionsSList12_Object {a0 : Array Value} {Z : State} (hw : ∀ d ∈ tables_1, d.before a0 Z = true) : (Jvm.Cond.castable "java/util/ImmutableCollections$List12" "java/lang/Object").before a0 Z = true := hw _ (List.mem_of_getElem? (i := 283) rfl)
theorem wv_ImmutableCollectionsSList12_Object_hashCode_lrI {a0 : Array Value} {Z : State} (hw : ∀ d ∈ tables_1, d.before a0 Z = true) : (Jvm.Cond.selects "java/util/ImmutableCollections$List12" ({ cls := "java/lang/Object", name := "hashCode", desc := "()I" } : Jvm.MethodName) ({ cls := "java/util/ImmutableCollections$AbstractImmutableList", name := "hashCode", desc := "()I" } : Jvm.MethodName)).before a0 Z = true := hw _ (List.mem_of_getElem? (i := 284) rfl)
theorem wv_ImmutableCollectionsSList12_ImmutableCollectionsSAbstractImmutableList_size_lrI {a0 : Array Value} {Z : State} (hw : ∀ d ∈ tables_1, d.before a0 Z = true) : (Jvm.Cond.selects "java/util/ImmutableCollections$List12" ({ cls := "java/util/ImmutableCollections$AbstractImmutableList", name := "size", desc := "()I" } : Jvm.MethodName) ({ cls := "java/util/ImmutableCollections$List12", name := "size", desc := "()I" } : Jvm.MethodName)).before a0 Z = true := hw _ (List.mem_of_getElem? (i := 285) rfl)
theorem wm_ImmutableCollectionsSList12_size_lrI {a0 : Array Value} {Z : State} (hw : ∀ d ∈ tables_1, d.before a0 Z = true) : (Jvm.Cond.instanceMethod ({ cls := "java/util/ImmutableCollections$List12", name := "size", desc := "()I" } : Jvm.MethodName)).before a0 Z = true := hw _ (List.mem_of_getElem? (i := 286) rfl)
theorem wb_ImmutableCollectionsSList12_size_lrI {a0 : Array Value} {Z : State} (hw : ∀ d ∈ tables_1, d.before a0 Z = true) : (Jvm.Cond.code ({ cls := "java/util/ImmutableCollections$List12", name := "size", desc := "()I" } : Jvm.MethodName) jdk_44_method_3_code (1 : Nat) (Option.some Jvm.ClassFile.FieldType.int)).before a0 Z = true := hw _ (List.mem_of_getElem? (i := 287) rfl)
theorem wf_ImmutableCollectionsSList12_19 {a0 : Array Value} {Z : State} (hw : ∀ d ∈ tables_1, d.before a0 Z = true) : (Jvm.Cond.fieldLinkNest "java/util/ImmutableCollections$List12" (19 : Nat) "java/util/ImmutableCollections" "EMPTY" "Ljava/lang/Object;" "java/util/ImmutableCollections").before a0 Z = true := hw _ (List.mem_of_getElem? (i := 288) rfl)
theorem wl_ImmutableCollectionsSAbstractImmutableList_89 {a0 : Array Value} {Z : State} (hw : ∀ d ∈ tables_1, d.before a0 Z = true) : (Jvm.Cond.methodLink "java/util/ImmutableCollections$AbstractImmutableList" (89 : Nat) ({ cls := "java/util/ImmutableCollections$AbstractImmutableList", name := "get", desc := "(I)Ljava/lang/Object;" } : Jvm.MethodName)).before a0 Z = true := hw _ (List.mem_of_getElem? (i := 289) rfl)
theorem wr_ImmutableCollectionsSAbstractImmutableList_List_get {a0 : Array Value} {Z : State} (hw : ∀ d ∈ tables_1, d.before a0 Z = true) : (Jvm.Cond.sameMethod "java/util/ImmutableCollections$AbstractImmutableList" "java/util/List" "get" "(I)Ljava/lang/Object;").before a0 Z = true := hw _ (List.mem_of_getElem? (i := 290) rfl)
theorem wd_List_get_lIrLjavalangObject {a0 : Array Value} {Z : State} (hw : ∀ d ∈ tables_1, d.before a0 Z = true) : (Jvm.Cond.declares ({ cls := "java/util/List", name := "get", desc := "(I)Ljava/lang/Object;" } : Jvm.MethodName)).before a0 Z = true := hw _ (List.mem_of_getElem? (i := 291) rfl)
theorem wv_ImmutableCollectionsSList12_ImmutableCollectionsSAbstractImmutableList_get_lIrLjavalangObject {a0 : Array Value} {Z : State} (hw : ∀ d ∈ tables_1, d.before a0 Z = true) : (Jvm.Cond.selects "java/util/ImmutableCollections$List12" ({ cls := "java/util/ImmutableCollections$AbstractImmutableList", name := "get", desc := "(I)Ljava/lang/Object;" } : Jvm.MethodName) ({ cls := "java/util/ImmutableCollections$List12", name := "get", desc := "(I)Ljava/lang/Object;" } : Jvm.MethodName)).before a0 Z = true := hw _ (List.mem_of_getElem? (i := 292) rfl)
theorem wm_ImmutableCollectionsSList12_get_lIrLjavalangObject {a0 : Array Value} {Z : State} (hw : ∀ d ∈ tables_1, d.before a0 Z = true) : (Jvm.Cond.instanceMethod ({ cls := "java/util/ImmutableCollections$List12", name := "get", desc := "(I)Ljava/lang/Object;" } : Jvm.MethodName)).before a0 Z = true := hw _ (List.mem_of_getElem? (i := 293) rfl)
theorem wb_ImmutableCollectionsSList12_get_lIrLjavalangObject {a0 : Array Value} {Z : State} (hw : ∀ d ∈ tables_1, d.before a0 Z = true) : (Jvm.Cond.code ({ cls := "java/util/ImmutableCollections$List12", name := "get", desc := "(I)Ljava/lang/Object;" } : Jvm.MethodName) jdk_44_method_5_code (2 : Nat) (Option.some (Jvm.ClassFile.FieldType.object "java/lang/Object"))).before a0 Z = true := hw _ (List.mem_of_getElem? (i := 294) rfl)
theorem wl_ImmutableCollectionsSAbstractImmutableList_103 {a0 : Array Value} {Z : State} (hw : ∀ d ∈ tables_1, d.before a0 Z = true) : (Jvm.Cond.methodLink "java/util/ImmutableCollections$AbstractImmutableList" (103 : Nat) ({ cls := "java/util/Objects", name := "hashCode", desc := "(Ljava/lang/Object;)I" } : Jvm.MethodName)).before a0 Z = true := hw _ (List.mem_of_getElem? (i := 295) rfl)
theorem ws_Objects_hashCode_lLjavalangObjectrI {a0 : Array Value} {Z : State} (hw : ∀ d ∈ tables_1, d.before a0 Z = true) : (Jvm.Cond.static ({ cls := "java/util/Objects", name := "hashCode", desc := "(Ljava/lang/Object;)I" } : Jvm.MethodName)).before a0 Z = true := hw _ (List.mem_of_getElem? (i := 296) rfl)
theorem wb_Objects_hashCode_lLjavalangObjectrI {a0 : Array Value} {Z : State} (hw : ∀ d ∈ tables_1, d.before a0 Z = true) : (Jvm.Cond.code ({ cls := "java/util/Objects", name := "hashCode", desc := "(Ljava/lang/Object;)I" } : Jvm.MethodName) jdk_31_method_4_code (1 : Nat) (Option.some Jvm.ClassFile.FieldType.int)).before a0 Z = true := hw _ (List.mem_of_getElem? (i := 297) rfl)
theorem wl_Objects_24 {a0 : Array Value} {Z : State} (hw : ∀ d ∈ tables_1, d.before a0 Z = true) : (Jvm.Cond.methodLink "java/util/Objects" (24 : Nat) ({ cls := "java/lang/Object", name := "hashCode", desc := "()I" } : Jvm.MethodName)).before a0 Z = true := hw _ (List.mem_of_getElem? (i := 298) rfl)
theorem wl_StringLatin1_84 {a0 : Array Value} {Z : State} (hw : ∀ d ∈ tables_1, d.before a0 Z = true) : (Jvm.Cond.methodLink "java/lang/StringLatin1" (84 : Nat) ({ cls := "jdk/internal/util/ArraysSupport", name := "vectorizedHashCode", desc := "(Ljava/lang/Object;IIII)I" } : Jvm.MethodName)).before a0 Z = true := hw _ (List.mem_of_getElem? (i := 299) rfl)
theorem ws_ArraysSupport_vectorizedHashCode_lLjavalangObjectIIIIrI {a0 : Array Value} {Z : State} (hw : ∀ d ∈ tables_1, d.before a0 Z = true) : (Jvm.Cond.static ({ cls := "jdk/internal/util/ArraysSupport", name := "vectorizedHashCode", desc := "(Ljava/lang/Object;IIII)I" } : Jvm.MethodName)).before a0 Z = true := hw _ (List.mem_of_getElem? (i := 300) rfl)
theorem wi_ArraysSupport {a0 : Array Value} {Z : State} (hw : ∀ d ∈ tables_1, d.before a0 Z = true) : (Jvm.Cond.initialized "jdk/internal/util/ArraysSupport").before a0 Z = true := hw _ (List.mem_of_getElem? (i := 301) rfl)
theorem wb_ArraysSupport_vectorizedHashCode_lLjavalangObjectIIIIrI {a0 : Array Value} {Z : State} (hw : ∀ d ∈ tables_1, d.before a0 Z = true) : (Jvm.Cond.code ({ cls := "jdk/internal/util/ArraysSupport", name := "vectorizedHashCode", desc := "(Ljava/lang/Object;IIII)I" } : Jvm.MethodName) jdk_48_method_4_code (5 : Nat) (Option.some Jvm.ClassFile.FieldType.int)).before a0 Z = true := hw _ (List.mem_of_getElem? (i := 302) rfl)
theorem wc_ArraysSupport_60 {a0 : Array Value} {Z : State} (hw : ∀ d ∈ tables_1, d.before a0 Z = true) : (Jvm.Cond.classLink "jdk/internal/util/ArraysSupport" (60 : Nat) "[B").before a0 Z = true := hw _ (List.mem_of_getElem? (i := 303) rfl)
theorem wx_AB_AB {a0 : Array Value} {Z : State} (hw : ∀ d ∈ tables_1, d.before a0 Z = true) : (Jvm.Cond.castable "[B" "[B").before a0 Z = true := hw _ (List.mem_of_getElem? (i := 304) rfl)
theorem wl_ArraysSupport_62 {a0 : Array Value} {Z : State} (hw : ∀ d ∈ tables_1, d.before a0 Z = true) : (Jvm.Cond.methodLink "jdk/internal/util/ArraysSupport" (62 : Nat) ({ cls := "jdk/internal/util/ArraysSupport", name := "signedHashCode", desc := "(I[BII)I" } : Jvm.MethodName)).before a0 Z = true := hw _ (List.mem_of_getElem? (i := 305) rfl)
theorem ws_ArraysSupport_signedHashCode_lIABIIrI {a0 : Array Value} {Z : State} (hw : ∀ d ∈ tables_1, d.before a0 Z = true) : (Jvm.Cond.static ({ cls := "jdk/internal/util/ArraysSupport", name := "signedHashCode", desc := "(I[BII)I" } : Jvm.MethodName)).before a0 Z = true := hw _ (List.mem_of_getElem? (i := 306) rfl)
theorem wb_ArraysSupport_signedHashCode_lIABIIrI {a0 : Array Value} {Z : State} (hw : ∀ d ∈ tables_1, d.before a0 Z = true) : (Jvm.Cond.code ({ cls := "jdk/internal/util/ArraysSupport", name := "signedHashCode", desc := "(I[BII)I" } : Jvm.MethodName) jdk_48_method_5_code (6 : Nat) (Option.some Jvm.ClassFile.FieldType.int)).before a0 Z = true := hw _ (List.mem_of_getElem? (i := 307) rfl)
theorem wc_ImmutableCollectionsSAbstractImmutableList_77 {a0 : Array Value} {Z : State} (hw : ∀ d ∈ tables_1, d.before a0 Z = true) : (Jvm.Cond.classLink "java/util/ImmutableCollections$AbstractImmutableList" (77 : Nat) "java/util/List").before a0 Z = true := hw _ (List.mem_of_getElem? (i := 308) rfl)
theorem wx_ImmutableCollectionsSList12_List {a0 : Array Value} {Z : State} (hw : ∀ d ∈ tables_1, d.before a0 Z = true) : (Jvm.Cond.castable "java/util/ImmutableCollections$List12" "java/util/List").before a0 Z = true := hw _ (List.mem_of_getElem? (i := 309) rfl)
theorem wl_ImmutableCollectionsSAbstractImmutableList_79 {a0 : Array Value} {Z : State} (hw : ∀ d ∈ tables_1, d.before a0 Z = true) : (Jvm.Cond.methodLink "java/util/ImmutableCollections$AbstractImmutableList" (79 : Nat) ({ cls := "java/util/List", name := "iterator", desc := "()Ljava/util/Iterator;" } : Jvm.MethodName)).before a0 Z = true := hw _ (List.mem_of_getElem? (i := 310) rfl)
theorem wd_List_iterator_lrLjavautilIterator {a0 : Array Value} {Z : State} (hw : ∀ d ∈ tables_1, d.before a0 Z = true) : (Jvm.Cond.declares ({ cls := "java/util/List", name := "iterator", desc := "()Ljava/util/Iterator;" } : Jvm.MethodName)).before a0 Z = true := hw _ (List.mem_of_getElem? (i := 311) rfl)
theorem wg_List_iterator_lrLjavautilIterator {a0 : Array Value} {Z : State} (hw : ∀ d ∈ tables_1, d.before a0 Z = true) : (Jvm.Cond.interfaceMethod "java/util/List" "java/util/List" "iterator" "()Ljava/util/Iterator;").before a0 Z = true := hw _ (List.mem_of_getElem? (i := 312) rfl)
theorem wv_ImmutableCollectionsSList12_List_iterator_lrLjavautilIterator {a0 : Array Value} {Z : State} (hw : ∀ d ∈ tables_1, d.before a0 Z = true) : (Jvm.Cond.selects "java/util/ImmutableCollections$List12" ({ cls := "java/util/List", name := "iterator", desc := "()Ljava/util/Iterator;" } : Jvm.MethodName) ({ cls := "java/util/ImmutableCollections$AbstractImmutableList", name := "iterator", desc := "()Ljava/util/Iterator;" } : Jvm.MethodName)).before a0 Z = true := hw _ (List.mem_of_getElem? (i := 313) rfl)
theorem wm_ImmutableCollectionsSAbstractImmutableList_iterator_lrLjavautilIterator {a0 : Array Value} {Z : State} (hw : ∀ d ∈ tables_1, d.before a0 Z = true) : (Jvm.Cond.instanceMethod ({ cls := "java/util/ImmutableCollections$AbstractImmutableList", name := "iterator", desc := "()Ljava/util/Iterator;" } : Jvm.MethodName)).before a0 Z = true := hw _ (List.mem_of_getElem? (i := 314) rfl)
theorem wp_ImmutableCollectionsSAbstractImmutableList_iterator_lrLjavautilIterator {a0 : Array Value} {Z : State} (hw : ∀ d ∈ tables_1, d.before a0 Z = true) : (Jvm.Cond.publicMethod ({ cls := "java/util/ImmutableCollections$AbstractImmutableList", name := "iterator", desc := "()Ljava/util/Iterator;" } : Jvm.MethodName)).before a0 Z = true := hw _ (List.mem_of_getElem? (i := 315) rfl)
theorem wu_ImmutableCollectionsSList12_iterator_lrLjavautilIterator {a0 : Array Value} {Z : State} (hw : ∀ d ∈ tables_1, d.before a0 Z = true) : (Jvm.Cond.unhidden "java/util/ImmutableCollections$List12" "iterator" "()Ljava/util/Iterator;").before a0 Z = true := hw _ (List.mem_of_getElem? (i := 316) rfl)
theorem wb_ImmutableCollectionsSAbstractImmutableList_iterator_lrLjavautilIterator {a0 : Array Value} {Z : State} (hw : ∀ d ∈ tables_1, d.before a0 Z = true) : (Jvm.Cond.code ({ cls := "java/util/ImmutableCollections$AbstractImmutableList", name := "iterator", desc := "()Ljava/util/Iterator;" } : Jvm.MethodName) jdk_46_method_10_code (1 : Nat) (Option.some (Jvm.ClassFile.FieldType.object "java/util/Iterator"))).before a0 Z = true := hw _ (List.mem_of_getElem? (i := 317) rfl)
theorem wc_ImmutableCollectionsSAbstractImmutableList_61 {a0 : Array Value} {Z : State} (hw : ∀ d ∈ tables_1, d.before a0 Z = true) : (Jvm.Cond.classLink "java/util/ImmutableCollections$AbstractImmutableList" (61 : Nat) "java/util/ImmutableCollections$ListItr").before a0 Z = true := hw _ (List.mem_of_getElem? (i := 318) rfl)
theorem wn_ImmutableCollectionsSListItr {a0 : Array Value} {Z : State} (hw : ∀ d ∈ tables_1, d.before a0 Z = true) : (Jvm.Cond.instantiable "java/util/ImmutableCollections$ListItr" (4 : Nat)).before a0 Z = true := hw _ (List.mem_of_getElem? (i := 319) rfl)
theorem wi_ImmutableCollectionsSListItr {a0 : Array Value} {Z : State} (hw : ∀ d ∈ tables_1, d.before a0 Z = true) : (Jvm.Cond.initialized "java/util/ImmutableCollections$ListItr").before a0 Z = true := hw _ (List.mem_of_getElem? (i := 320) rfl)
theorem wl_ImmutableCollectionsSAbstractImmutableList_63 {a0 : Array Value} {Z : State} (hw : ∀ d ∈ tables_1, d.before a0 Z = true) : (Jvm.Cond.methodLink "java/util/ImmutableCollections$AbstractImmutableList" (63 : Nat) ({ cls := "java/util/ImmutableCollections$ListItr", name := "<init>", desc := "(Ljava/util/List;I)V" } : Jvm.MethodName)).before a0 Z = true := hw _ (List.mem_of_getElem? (i := 321) rfl)
theorem wm_ImmutableCollectionsSListItr_init_lLjavautilListIrV {a0 : Array Value} {Z : State} (hw : ∀ d ∈ tables_1, d.before a0 Z = true) : (Jvm.Cond.instanceMethod ({ cls := "java/util/ImmutableCollections$ListItr", name := "<init>", desc := "(Ljava/util/List;I)V" } : Jvm.MethodName)).before a0 Z = true := hw _ (List.mem_of_getElem? (i := 322) rfl)
theorem wx_ImmutableCollectionsSListItr_ImmutableCollectionsSListItr {a0 : Array Value} {Z : State} (hw : ∀ d ∈ tables_1, d.before a0 Z = true) : (Jvm.Cond.castable "java/util/ImmutableCollections$ListItr" "java/util/ImmutableCollections$ListItr").before a0 Z = true := hw _ (List.mem_of_getElem? (i := 323) rfl)
theorem wb_ImmutableCollectionsSListItr_init_lLjavautilListIrV {a0 : Array Value} {Z : State} (hw : ∀ d ∈ tables_1, d.before a0 Z = true) : (Jvm.Cond.code ({ cls := "java/util/ImmutableCollections$ListItr", name := "<init>", desc := "(Ljava/util/List;I)V" } : Jvm.MethodName) jdk_53_method_1_code (3 : Nat) (Option.none : Option Jvm.ClassFile.FieldType)).before a0 Z = true := hw _ (List.mem_of_getElem? (i := 324) rfl)
theorem wl_ImmutableCollectionsSListItr_1 {a0 : Array Value} {Z : State} (hw : ∀ d ∈ tables_1, d.before a0 Z = true) : (Jvm.Cond.methodLink "java/util/ImmutableCollections$ListItr" (1 : Nat) ({ cls := "java/lang/Object", name := "<init>", desc := "()V" } : Jvm.MethodName)).before a0 Z = true := hw _ (List.mem_of_getElem? (i := 325) rfl)
theorem wf_ImmutableCollectionsSListItr_7 {a0 : Array Value} {Z : State} (hw : ∀ d ∈ tables_1, d.before a0 Z = true) : (Jvm.Cond.fieldLink "java/util/ImmutableCollections$ListItr" (7 : Nat) "java/util/ImmutableCollections$ListItr" "list" "Ljava/util/List;").before a0 Z = true := hw _ (List.mem_of_getElem? (i := 326) rfl)
theorem wy_ImmutableCollectionsSListItr_ImmutableCollectionsSListItr_list {a0 : Array Value} {Z : State} (hw : ∀ d ∈ tables_1, d.before a0 Z = true) : (Jvm.Cond.laysFinal "java/util/ImmutableCollections$ListItr" "java/util/ImmutableCollections$ListItr" "list" "Ljava/util/List;").before a0 Z = true := hw _ (List.mem_of_getElem? (i := 327) rfl)
theorem wf_ImmutableCollectionsSListItr_13 {a0 : Array Value} {Z : State} (hw : ∀ d ∈ tables_1, d.before a0 Z = true) : (Jvm.Cond.fieldLink "java/util/ImmutableCollections$ListItr" (13 : Nat) "java/util/ImmutableCollections$ListItr" "size" "I").before a0 Z = true := hw _ (List.mem_of_getElem? (i := 328) rfl)
theorem wy_ImmutableCollectionsSListItr_ImmutableCollectionsSListItr_size {a0 : Array Value} {Z : State} (hw : ∀ d ∈ tables_1, d.before a0 Z = true) : (Jvm.Cond.laysFinal "java/util/ImmutableCollections$ListItr" "java/util/ImmutableCollections$ListItr" "size" "I").before a0 Z = true := hw _ (List.mem_of_getElem? (i := 329) rfl)
theorem wf_ImmutableCollectionsSListItr_17 {a0 : Array Value} {Z : State} (hw : ∀ d ∈ tables_1, d.before a0 Z = true) : (Jvm.Cond.fieldLink "java/util/ImmutableCollections$ListItr" (17 : Nat) "java/util/ImmutableCollections$ListItr" "cursor" "I").before a0 Z = true := hw _ (List.mem_of_getElem? (i := 330) rfl)
theorem wy_ImmutableCollectionsSListItr_ImmutableCollectionsSListItr_cursor {a0 : Array Value} {Z : State} (hw : ∀ d ∈ tables_1, d.before a0 Z = true) : (Jvm.Cond.lays "java/util/ImmutableCollections$ListItr" "java/util/ImmutableCollections$ListItr" "cursor" "I").before a0 Z = true := hw _ (List.mem_of_getElem? (i := 331) rfl)
theorem wf_ImmutableCollectionsSListItr_20 {a0 : Array Value} {Z : State} (hw : ∀ d ∈ tables_1, d.before a0 Z = true) : (Jvm.Cond.fieldLink "java/util/ImmutableCollections$ListItr" (20 : Nat) "java/util/ImmutableCollections$ListItr" "isListIterator" "Z").before a0 Z = true := hw _ (List.mem_of_getElem? (i := 332) rfl)
theorem wy_ImmutableCollectionsSListItr_ImmutableCollectionsSListItr_isListIterator {a0 : Array Value} {Z : State} (hw : ∀ d ∈ tables_1, d.before a0 Z = true) : (Jvm.Cond.laysFinal "java/util/ImmutableCollections$ListItr" "java/util/ImmutableCollections$ListItr" "isListIterator" "Z").before a0 Z = true := hw _ (List.mem_of_getElem? (i := 333) rfl)
theorem wl_ImmutableCollectionsSAbstractImmutableList_83 {a0 : Array Value} {Z : State} (hw : ∀ d ∈ tables_1, d.before a0 Z = true) : (Jvm.Cond.methodLink "java/util/ImmutableCollections$AbstractImmutableList" (83 : Nat) ({ cls := "java/util/Iterator", name := "hasNext", desc := "()Z" } : Jvm.MethodName)).before a0 Z = true := hw _ (List.mem_of_getElem? (i := 334) rfl)
theorem wd_Iterator_hasNext_lrZ {a0 : Array Value} {Z : State} (hw : ∀ d ∈ tables_1, d.before a0 Z = true) : (Jvm.Cond.declares ({ cls := "java/util/Iterator", name := "hasNext", desc := "()Z" } : Jvm.MethodName)).before a0 Z = true := hw _ (List.mem_of_getElem? (i := 335) rfl)
theorem wg_Iterator_hasNext_lrZ {a0 : Array Value} {Z : State} (hw : ∀ d ∈ tables_1, d.before a0 Z = true) : (Jvm.Cond.interfaceMethod "java/util/Iterator" "java/util/Iterator" "hasNext" "()Z").before a0 Z = true := hw _ (List.mem_of_getElem? (i := 336) rfl)
theorem wv_ImmutableCollectionsSListItr_Iterator_hasNext_lrZ {a0 : Array Value} {Z : State} (hw : ∀ d ∈ tables_1, d.before a0 Z = true) : (Jvm.Cond.selects "java/util/ImmutableCollections$ListItr" ({ cls := "java/util/Iterator", name := "hasNext", desc := "()Z" } : Jvm.MethodName) ({ cls := "java/util/ImmutableCollections$ListItr", name := "hasNext", desc := "()Z" } : Jvm.MethodName)).before a0 Z = true := hw _ (List.mem_of_getElem? (i := 337) rfl)
theorem wm_ImmutableCollectionsSListItr_hasNext_lrZ {a0 : Array Value} {Z : State} (hw : ∀ d ∈ tables_1, d.before a0 Z = true) : (Jvm.Cond.instanceMethod ({ cls := "java/util/ImmutableCollections$ListItr", name := "hasNext", desc := "()Z" } : Jvm.MethodName)).before a0 Z = true := hw _ (List.mem_of_getElem? (i := 338) rfl)
theorem wp_ImmutableCollectionsSListItr_hasNext_lrZ {a0 : Array Value} {Z : State} (hw : ∀ d ∈ tables_1, d.before a0 Z = true) : (Jvm.Cond.publicMethod ({ cls := "java/util/ImmutableCollections$ListItr", name := "hasNext", desc := "()Z" } : Jvm.MethodName)).before a0 Z = true := hw _ (List.mem_of_getElem? (i := 339) rfl)
theorem wu_ImmutableCollectionsSListItr_hasNext_lrZ {a0 : Array Value} {Z : State} (hw : ∀ d ∈ tables_1, d.before a0 Z = true) : (Jvm.Cond.unhidden "java/util/ImmutableCollections$ListItr" "hasNext" "()Z").before a0 Z = true := hw _ (List.mem_of_getElem? (i := 340) rfl)
theorem wx_ImmutableCollectionsSListItr_Iterator {a0 : Array Value} {Z : State} (hw : ∀ d ∈ tables_1, d.before a0 Z = true) : (Jvm.Cond.castable "java/util/ImmutableCollections$ListItr" "java/util/Iterator").before a0 Z = true := hw _ (List.mem_of_getElem? (i := 341) rfl)
theorem wb_ImmutableCollectionsSListItr_hasNext_lrZ {a0 : Array Value} {Z : State} (hw : ∀ d ∈ tables_1, d.before a0 Z = true) : (Jvm.Cond.code ({ cls := "java/util/ImmutableCollections$ListItr", name := "hasNext", desc := "()Z" } : Jvm.MethodName) jdk_53_method_3_code (1 : Nat) (Option.some Jvm.ClassFile.FieldType.boolean)).before a0 Z = true := hw _ (List.mem_of_getElem? (i := 342) rfl)
theorem wv_ImmutableCollectionsSList12_List_equals_lLjavalangObjectrZ {a0 : Array Value} {Z : State} (hw : ∀ d ∈ tables_1, d.before a0 Z = true) : (Jvm.Cond.selects "java/util/ImmutableCollections$List12" ({ cls := "java/util/List", name := "equals", desc := "(Ljava/lang/Object;)Z" } : Jvm.MethodName) ({ cls := "java/util/ImmutableCollections$AbstractImmutableList", name := "equals", desc := "(Ljava/lang/Object;)Z" } : Jvm.MethodName)).before a0 Z = true := hw _ (List.mem_of_getElem? (i := 343) rfl)
theorem wu_ImmutableCollectionsSList12_equals_lLjavalangObjectrZ {a0 : Array Value} {Z : State} (hw : ∀ d ∈ tables_1, d.before a0 Z = true) : (Jvm.Cond.unhidden "java/util/ImmutableCollections$List12" "equals" "(Ljava/lang/Object;)Z").before a0 Z = true := hw _ (List.mem_of_getElem? (i := 344) rfl)
theorem wv_ImmutableCollectionsSListN_List_iterator_lrLjavautilIterator {a0 : Array Value} {Z : State} (hw : ∀ d ∈ tables_1, d.before a0 Z = true) : (Jvm.Cond.selects "java/util/ImmutableCollections$ListN" ({ cls := "java/util/List", name := "iterator", desc := "()Ljava/util/Iterator;" } : Jvm.MethodName) ({ cls := "java/util/ImmutableCollections$AbstractImmutableList", name := "iterator", desc := "()Ljava/util/Iterator;" } : Jvm.MethodName)).before a0 Z = true := hw _ (List.mem_of_getElem? (i := 345) rfl)
theorem wu_ImmutableCollectionsSListN_iterator_lrLjavautilIterator {a0 : Array Value} {Z : State} (hw : ∀ d ∈ tables_1, d.before a0 Z = true) : (Jvm.Cond.unhidden "java/util/ImmutableCollections$ListN" "iterator" "()Ljava/util/Iterator;").before a0 Z = true := hw _ (List.mem_of_getElem? (i := 346) rfl)
theorem wl_List_98 {a0 : Array Value} {Z : State} (hw : ∀ d ∈ tables_1, d.before a0 Z = true) : (Jvm.Cond.methodLink "java/util/List" (98 : Nat) ({ cls := "java/util/ImmutableCollections$List12", name := "<init>", desc := "(Ljava/lang/Object;)V" } : Jvm.MethodName)).before a0 Z = true := hw _ (List.mem_of_getElem? (i := 347) rfl)
theorem wm_ImmutableCollectionsSList12_init_lLjavalangObjectrV {a0 : Array Value} {Z : State} (hw : ∀ d ∈ tables_1, d.before a0 Z = true) : (Jvm.Cond.instanceMethod ({ cls := "java/util/ImmutableCollections$List12", name := "<init>", desc := "(Ljava/lang/Object;)V" } : Jvm.MethodName)).before a0 Z = true := hw _ (List.mem_of_getElem? (i := 348) rfl)
theorem wb_ImmutableCollectionsSList12_init_lLjavalangObjectrV {a0 : Array Value} {Z : State} (hw : ∀ d ∈ tables_1, d.before a0 Z = true) : (Jvm.Cond.code ({ cls := "java/util/ImmutableCollections$List12", name := "<init>", desc := "(Ljava/lang/Object;)V" } : Jvm.MethodName) jdk_44_method_1_code (2 : Nat) (Option.none : Option Jvm.ClassFile.FieldType)).before a0 Z = true := hw _ (List.mem_of_getElem? (i := 349) rfl)
theorem wl_ImmutableCollectionsSAbstractImmutableList_93 {a0 : Array Value} {Z : State} (hw : ∀ d ∈ tables_1, d.before a0 Z = true) : (Jvm.Cond.methodLink "java/util/ImmutableCollections$AbstractImmutableList" (93 : Nat) ({ cls := "java/util/Iterator", name := "next", desc := "()Ljava/lang/Object;" } : Jvm.MethodName)).before a0 Z = true := hw _ (List.mem_of_getElem? (i := 350) rfl)
theorem wd_Iterator_next_lrLjavalangObject {a0 : Array Value} {Z : State} (hw : ∀ d ∈ tables_1, d.before a0 Z = true) : (Jvm.Cond.declares ({ cls := "java/util/Iterator", name := "next", desc := "()Ljava/lang/Object;" } : Jvm.MethodName)).before a0 Z = true := hw _ (List.mem_of_getElem? (i := 351) rfl)
theorem wg_Iterator_next_lrLjavalangObject {a0 : Array Value} {Z : State} (hw : ∀ d ∈ tables_1, d.before a0 Z = true) : (Jvm.Cond.interfaceMethod "java/util/Iterator" "java/util/Iterator" "next" "()Ljava/lang/Object;").before a0 Z = true := hw _ (List.mem_of_getElem? (i := 352) rfl)
theorem wv_ImmutableCollectionsSListItr_Iterator_next_lrLjavalangObject {a0 : Array Value} {Z : State} (hw : ∀ d ∈ tables_1, d.before a0 Z = true) : (Jvm.Cond.selects "java/util/ImmutableCollections$ListItr" ({ cls := "java/util/Iterator", name := "next", desc := "()Ljava/lang/Object;" } : Jvm.MethodName) ({ cls := "java/util/ImmutableCollections$ListItr", name := "next", desc := "()Ljava/lang/Object;" } : Jvm.MethodName)).before a0 Z = true := hw _ (List.mem_of_getElem? (i := 353) rfl)
theorem wm_ImmutableCollectionsSListItr_next_lrLjavalangObject {a0 : Array Value} {Z : State} (hw : ∀ d ∈ tables_1, d.before a0 Z = true) : (Jvm.Cond.instanceMethod ({ cls := "java/util/ImmutableCollections$ListItr", name := "next", desc := "()Ljava/lang/Object;" } : Jvm.MethodName)).before a0 Z = true := hw _ (List.mem_of_getElem? (i := 354) rfl)
theorem wp_ImmutableCollectionsSListItr_next_lrLjavalangObject {a0 : Array Value} {Z : State} (hw : ∀ d ∈ tables_1, d.before a0 Z = true) : (Jvm.Cond.publicMethod ({ cls := "java/util/ImmutableCollections$ListItr", name := "next", desc := "()Ljava/lang/Object;" } : Jvm.MethodName)).before a0 Z = true := hw _ (List.mem_of_getElem? (i := 355) rfl)
theorem wu_ImmutableCollectionsSListItr_next_lrLjavalangObject {a0 : Array Value} {Z : State} (hw : ∀ d ∈ tables_1, d.before a0 Z = true) : (Jvm.Cond.unhidden "java/util/ImmutableCollections$ListItr" "next" "()Ljava/lang/Object;").before a0 Z = true := hw _ (List.mem_of_getElem? (i := 356) rfl)
theorem wb_ImmutableCollectionsSListItr_next_lrLjavalangObject {a0 : Array Value} {Z : State} (hw : ∀ d ∈ tables_1, d.before a0 Z = true) : (Jvm.Cond.codeWith ({ cls := "java/util/ImmutableCollections$ListItr", name := "next", desc := "()Ljava/lang/Object;" } : Jvm.MethodName) jdk_53_method_4_code (3 : Nat) (Option.some (Jvm.ClassFile.FieldType.object "java/lang/Object")) [((0 : Nat), (24 : Nat), (25 : Nat), (30 : Nat))]).before a0 Z = true := hw _ (List.mem_of_getElem? (i := 357) rfl)
theorem wl_ImmutableCollectionsSListItr_24 {a0 : Array Value} {Z : State} (hw : ∀ d ∈ tables_1, d.before a0 Z = true) : (Jvm.Cond.methodLink "java/util/ImmutableCollections$ListItr" (24 : Nat) ({ cls := "java/util/List", name := "get", desc := "(I)Ljava/lang/Object;" } : Jvm.MethodName)).before a0 Z = true := hw _ (List.mem_of_getElem? (i := 358) rfl)
theorem wg_List_get_lIrLjavalangObject {a0 : Array Value} {Z : State} (hw : ∀ d ∈ tables_1, d.before a0 Z = true) : (Jvm.Cond.interfaceMethod "java/util/List" "java/util/List" "get" "(I)Ljava/lang/Object;").before a0 Z = true := hw _ (List.mem_of_getElem? (i := 359) rfl)
theorem wv_ImmutableCollectionsSList12_List_get_lIrLjavalangObject {a0 : Array Value} {Z : State} (hw : ∀ d ∈ tables_1, d.before a0 Z = true) : (Jvm.Cond.selects "java/util/ImmutableCollections$List12" ({ cls := "java/util/List", name := "get", desc := "(I)Ljava/lang/Object;" } : Jvm.MethodName) ({ cls := "java/util/ImmutableCollections$List12", name := "get", desc := "(I)Ljava/lang/Object;" } : Jvm.MethodName)).before a0 Z = true := hw _ (List.mem_of_getElem? (i := 360) rfl)
theorem wp_ImmutableCollectionsSList12_get_lIrLjavalangObject {a0 : Array Value} {Z : State} (hw : ∀ d ∈ tables_1, d.before a0 Z = true) : (Jvm.Cond.publicMethod ({ cls := "java/util/ImmutableCollections$List12", name := "get", desc := "(I)Ljava/lang/Object;" } : Jvm.MethodName)).before a0 Z = true := hw _ (List.mem_of_getElem? (i := 361) rfl)
theorem wu_ImmutableCollectionsSList12_get_lIrLjavalangObject {a0 : Array Value} {Z : State} (hw : ∀ d ∈ tables_1, d.before a0 Z = true) : (Jvm.Cond.unhidden "java/util/ImmutableCollections$List12" "get" "(I)Ljava/lang/Object;").before a0 Z = true := hw _ (List.mem_of_getElem? (i := 362) rfl)
theorem wl_ImmutableCollectionsSAbstractImmutableList_97 {a0 : Array Value} {Z : State} (hw : ∀ d ∈ tables_1, d.before a0 Z = true) : (Jvm.Cond.methodLink "java/util/ImmutableCollections$AbstractImmutableList" (97 : Nat) ({ cls := "java/util/Objects", name := "equals", desc := "(Ljava/lang/Object;Ljava/lang/Object;)Z" } : Jvm.MethodName)).before a0 Z = true := hw _ (List.mem_of_getElem? (i := 363) rfl)
theorem ws_Objects_equals_lLjavalangObjectLjavalangObjectrZ {a0 : Array Value} {Z : State} (hw : ∀ d ∈ tables_1, d.before a0 Z = true) : (Jvm.Cond.static ({ cls := "java/util/Objects", name := "equals", desc := "(Ljava/lang/Object;Ljava/lang/Object;)Z" } : Jvm.MethodName)).before a0 Z = true := hw _ (List.mem_of_getElem? (i := 364) rfl)
theorem wb_Objects_equals_lLjavalangObjectLjavalangObjectrZ {a0 : Array Value} {Z : State} (hw : ∀ d ∈ tables_1, d.before a0 Z = true) : (Jvm.Cond.code ({ cls := "java/util/Objects", name := "equals", desc := "(Ljava/lang/Object;Ljava/lang/Object;)Z" } : Jvm.MethodName) jdk_31_method_2_code (2 : Nat) (Option.some Jvm.ClassFile.FieldType.boolean)).before a0 Z = true := hw _ (List.mem_of_getElem? (i := 365) rfl)
theorem wl_Objects_14 {a0 : Array Value} {Z : State} (hw : ∀ d ∈ tables_1, d.before a0 Z = true) : (Jvm.Cond.methodLink "java/util/Objects" (14 : Nat) ({ cls := "java/lang/Object", name := "equals", desc := "(Ljava/lang/Object;)Z" } : Jvm.MethodName)).before a0 Z = true := hw _ (List.mem_of_getElem? (i := 366) rfl)
theorem wd_Object_equals_lLjavalangObjectrZ {a0 : Array Value} {Z : State} (hw : ∀ d ∈ tables_1, d.before a0 Z = true) : (Jvm.Cond.declares ({ cls := "java/lang/Object", name := "equals", desc := "(Ljava/lang/Object;)Z" } : Jvm.MethodName)).before a0 Z = true := hw _ (List.mem_of_getElem? (i := 367) rfl)
theorem wm_Object_equals_lLjavalangObjectrZ {a0 : Array Value} {Z : State} (hw : ∀ d ∈ tables_1, d.before a0 Z = true) : (Jvm.Cond.instanceMethod ({ cls := "java/lang/Object", name := "equals", desc := "(Ljava/lang/Object;)Z" } : Jvm.MethodName)).before a0 Z = true := hw _ (List.mem_of_getElem? (i := 368) rfl)
theorem wv_String_Object_equals_lLjavalangObjectrZ {a0 : Array Value} {Z : State} (hw : ∀ d ∈ tables_1, d.before a0 Z = true) : (Jvm.Cond.selects "java/lang/String" ({ cls := "java/lang/Object", name := "equals", desc := "(Ljava/lang/Object;)Z" } : Jvm.MethodName) ({ cls := "java/lang/String", name := "equals", desc := "(Ljava/lang/Object;)Z" } : Jvm.MethodName)).before a0 Z = true := hw _ (List.mem_of_getElem? (i := 369) rfl)
theorem dm4_0 : decode method_4_code 0 = .ok (.new 25, 3) := by decide +kernel
theorem dm4_3 : decode method_4_code 3 = .ok (.dup, 1) := by decide +kernel
theorem dm4_4 : decode method_4_code 4 = .ok (.iload_n 0, 1) := by decide +kernel
theorem dm4_5 : decode method_4_code 5 = .ok (.bipush 16, 2) := by decide +kernel
theorem dm4_7 : decode method_4_code 7 = .ok (.iushr, 1) := by decide +kernel
theorem dm4_8 : decode method_4_code 8 = .ok (.iconst 3, 1) := by decide +kernel
theorem dm4_9 : decode method_4_code 9 = .ok (.iand, 1) := by decide +kernel
theorem dm4_10 : decode method_4_code 10 = .ok (.iconst 3, 1) := by decide +kernel
theorem dm4_11 : decode method_4_code 11 = .ok (.irem, 1) := by decide +kernel
theorem dm4_12 : decode method_4_code 12 = .ok (.iload_n 0, 1) := by decide +kernel
theorem dm4_13 : decode method_4_code 13 = .ok (.invokestatic 27, 3) := by decide +kernel
theorem dm4_16 : decode method_4_code 16 = .ok (.iload_n 1, 1) := by decide +kernel
theorem dm4_17 : decode method_4_code 17 = .ok (.invokestatic 33, 3) := by decide +kernel
theorem dm4_20 : decode method_4_code 20 = .ok (.invokespecial 37, 3) := by decide +kernel
theorem dm4_23 : decode method_4_code 23 = .ok (.areturn, 1) := by decide +kernel
theorem dm2_0 : decode method_2_code 0 = .ok (.iload_n 0, 1) := by decide +kernel
theorem dm2_1 : decode method_2_code 1 = .ok (.ifCond .ne 14, 3) := by decide +kernel
theorem dm2_4 : decode method_2_code 4 = .ok (.new 7, 3) := by decide +kernel
theorem dm2_7 : decode method_2_code 7 = .ok (.dup, 1) := by decide +kernel
theorem dm2_8 : decode method_2_code 8 = .ok (.iconst 0, 1) := by decide +kernel
theorem dm2_9 : decode method_2_code 9 = .ok (.newarray .char, 2) := by decide +kernel
theorem dm2_11 : decode method_2_code 11 = .ok (.invokespecial 9, 3) := by decide +kernel
theorem dm2_14 : decode method_2_code 14 = .ok (.areturn, 1) := by decide +kernel
theorem dm2_15 : decode method_2_code 15 = .ok (.iload_n 0, 1) := by decide +kernel
theorem dm2_16 : decode method_2_code 16 = .ok (.iconst 1, 1) := by decide +kernel
theorem dm2_17 : decode method_2_code 17 = .ok (.if_icmp .ne 23, 3) := by decide +kernel
theorem dm2_20 : decode method_2_code 20 = .ok (.new 7, 3) := by decide +kernel
theorem dm2_23 : decode method_2_code 23 = .ok (.dup, 1) := by decide +kernel
theorem dm2_24 : decode method_2_code 24 = .ok (.iconst 1, 1) := by decide +kernel
theorem dm2_25 : decode method_2_code 25 = .ok (.newarray .char, 2) := by decide +kernel
theorem dm2_27 : decode method_2_code 27 = .ok (.dup, 1) := by decide +kernel
theorem dm2_28 : decode method_2_code 28 = .ok (.iconst 0, 1) := by decide +kernel
theorem dm2_29 : decode method_2_code 29 = .ok (.iload_n 1, 1) := by decide +kernel
theorem dm2_30 : decode method_2_code 30 = .ok (.sipush 255, 3) := by decide +kernel
theorem dm2_33 : decode method_2_code 33 = .ok (.iand, 1) := by decide +kernel
theorem dm2_34 : decode method_2_code 34 = .ok (.i2c, 1) := by decide +kernel
theorem dm2_35 : decode method_2_code 35 = .ok (.castore, 1) := by decide +kernel
theorem dm2_36 : decode method_2_code 36 = .ok (.invokespecial 9, 3) := by decide +kernel
theorem dm2_39 : decode method_2_code 39 = .ok (.areturn, 1) := by decide +kernel
theorem dm2_40 : decode method_2_code 40 = .ok (.new 7, 3) := by decide +kernel
theorem dm2_43 : decode method_2_code 43 = .ok (.dup, 1) := by decide +kernel
theorem dm2_44 : decode method_2_code 44 = .ok (.iconst 2, 1) := by decide +kernel
theorem dm2_45 : decode method_2_code 45 = .ok (.newarray .char, 2) := by decide +kernel
theorem dm2_47 : decode method_2_code 47 = .ok (.dup, 1) := by decide +kernel
theorem dm2_48 : decode method_2_code 48 = .ok (.iconst 0, 1) := by decide +kernel
theorem dm2_49 : decode method_2_code 49 = .ok (.iload_n 1, 1) := by decide +kernel
theorem dm2_50 : decode method_2_code 50 = .ok (.sipush 255, 3) := by decide +kernel
theorem dm2_53 : decode method_2_code 53 = .ok (.iand, 1) := by decide +kernel
theorem dm2_54 : decode method_2_code 54 = .ok (.i2c, 1) := by decide +kernel
theorem dm2_55 : decode method_2_code 55 = .ok (.castore, 1) := by decide +kernel
theorem dm2_56 : decode method_2_code 56 = .ok (.dup, 1) := by decide +kernel
theorem dm2_57 : decode method_2_code 57 = .ok (.iconst 1, 1) := by decide +kernel
theorem dm2_58 : decode method_2_code 58 = .ok (.iload_n 1, 1) := by decide +kernel
theorem dm2_59 : decode method_2_code 59 = .ok (.bipush 8, 2) := by decide +kernel
theorem dm2_61 : decode method_2_code 61 = .ok (.iushr, 1) := by decide +kernel
theorem dm2_62 : decode method_2_code 62 = .ok (.sipush 255, 3) := by decide +kernel
theorem dm2_65 : decode method_2_code 65 = .ok (.iand, 1) := by decide +kernel
theorem dm2_66 : decode method_2_code 66 = .ok (.i2c, 1) := by decide +kernel
theorem dm2_67 : decode method_2_code 67 = .ok (.castore, 1) := by decide +kernel
theorem dm2_68 : decode method_2_code 68 = .ok (.invokespecial 9, 3) := by decide +kernel
theorem dm2_71 : decode method_2_code 71 = .ok (.areturn, 1) := by decide +kernel
theorem dj42_3_0 : decode jdk_42_method_3_code 0 = .ok (.aload_n 0, 1) := by decide +kernel
theorem dj42_3_1 : decode jdk_42_method_3_code 1 = .ok (.aload_n 1, 1) := by decide +kernel
theorem dj42_3_2 : decode jdk_42_method_3_code 2 = .ok (.iconst 0, 1) := by decide +kernel
theorem dj42_3_3 : decode jdk_42_method_3_code 3 = .ok (.aload_n 1, 1) := by decide +kernel
theorem dj42_3_4 : decode jdk_42_method_3_code 4 = .ok (.arraylength, 1) := by decide +kernel
theorem dj42_3_5 : decode jdk_42_method_3_code 5 = .ok (.aconst_null, 1) := by decide +kernel
theorem dj42_3_6 : decode jdk_42_method_3_code 6 = .ok (.invokespecial 27, 3) := by decide +kernel
theorem dj42_3_9 : decode jdk_42_method_3_code 9 = .ok (.return_, 1) := by decide +kernel
theorem dj42_149_0 : decode jdk_42_method_149_code 0 = .ok (.aload_n 0, 1) := by decide +kernel
theorem dj42_149_1 : decode jdk_42_method_149_code 1 = .ok (.invokespecial 1, 3) := by decide +kernel
theorem dj42_149_4 : decode jdk_42_method_149_code 4 = .ok (.iload_n 3, 1) := by decide +kernel
theorem dj42_149_5 : decode jdk_42_method_149_code 5 = .ok (.ifCond .ne 22, 3) := by decide +kernel
theorem dj42_149_8 : decode jdk_42_method_149_code 8 = .ok (.aload_n 0, 1) := by decide +kernel
theorem dj42_149_9 : decode jdk_42_method_149_code 9 = .ok (.ldc 7, 2) := by decide +kernel
theorem dj42_149_11 : decode jdk_42_method_149_code 11 = .ok (.getfield 9, 3) := by decide +kernel
theorem dj42_149_14 : decode jdk_42_method_149_code 14 = .ok (.putfield 9, 3) := by decide +kernel
theorem dj42_149_17 : decode jdk_42_method_149_code 17 = .ok (.aload_n 0, 1) := by decide +kernel
theorem dj42_149_18 : decode jdk_42_method_149_code 18 = .ok (.ldc 7, 2) := by decide +kernel
theorem dj42_149_20 : decode jdk_42_method_149_code 20 = .ok (.getfield 15, 3) := by decide +kernel
theorem dj42_149_23 : decode jdk_42_method_149_code 23 = .ok (.putfield 15, 3) := by decide +kernel
theorem dj42_149_26 : decode jdk_42_method_149_code 26 = .ok (.return_, 1) := by decide +kernel
theorem dj42_149_27 : decode jdk_42_method_149_code 27 = .ok (.getstatic 38, 3) := by decide +kernel
theorem dj42_149_30 : decode jdk_42_method_149_code 30 = .ok (.ifCond .eq 28, 3) := by decide +kernel
theorem dj42_149_33 : decode jdk_42_method_149_code 33 = .ok (.aload_n 1, 1) := by decide +kernel
theorem dj42_149_34 : decode jdk_42_method_149_code 34 = .ok (.iload_n 2, 1) := by decide +kernel
theorem dj42_149_35 : decode jdk_42_method_149_code 35 = .ok (.iload_n 3, 1) := by decide +kernel
theorem dj42_149_36 : decode jdk_42_method_149_code 36 = .ok (.invokestatic 177, 3) := by decide +kernel
theorem dj42_149_39 : decode jdk_42_method_149_code 39 = .ok (.astore 5, 2) := by decide +kernel
theorem dj42_149_41 : decode jdk_42_method_149_code 41 = .ok (.aload_n 0, 1) := by decide +kernel
theorem dj42_149_42 : decode jdk_42_method_149_code 42 = .ok (.aload 5, 2) := by decide +kernel
theorem dj42_149_44 : decode jdk_42_method_149_code 44 = .ok (.iload_n 3, 1) := by decide +kernel
theorem dj42_149_45 : decode jdk_42_method_149_code 45 = .ok (.invokestatic 47, 3) := by decide +kernel
theorem dj42_149_48 : decode jdk_42_method_149_code 48 = .ok (.putfield 15, 3) := by decide +kernel
theorem dj42_149_51 : decode jdk_42_method_149_code 51 = .ok (.aload_n 0, 1) := by decide +kernel
theorem dj42_149_52 : decode jdk_42_method_149_code 52 = .ok (.aload 5, 2) := by decide +kernel
theorem dj42_149_54 : decode jdk_42_method_149_code 54 = .ok (.putfield 9, 3) := by decide +kernel
theorem dj42_149_57 : decode jdk_42_method_149_code 57 = .ok (.return_, 1) := by decide +kernel
theorem dj42_149_58 : decode jdk_42_method_149_code 58 = .ok (.aload_n 0, 1) := by decide +kernel
theorem dj42_149_59 : decode jdk_42_method_149_code 59 = .ok (.iconst 1, 1) := by decide +kernel
theorem dj42_149_60 : decode jdk_42_method_149_code 60 = .ok (.putfield 15, 3) := by decide +kernel
theorem dj42_149_63 : decode jdk_42_method_149_code 63 = .ok (.aload_n 0, 1) := by decide +kernel
theorem dj42_149_64 : decode jdk_42_method_149_code 64 = .ok (.aload_n 1, 1) := by decide +kernel
theorem dj42_149_65 : decode jdk_42_method_149_code 65 = .ok (.iload_n 2, 1) := by decide +kernel
theorem dj42_149_66 : decode jdk_42_method_149_code 66 = .ok (.iload_n 3, 1) := by decide +kernel
theorem dj42_149_67 : decode jdk_42_method_149_code 67 = .ok (.invokestatic 180, 3) := by decide +kernel
theorem dj42_149_70 : decode jdk_42_method_149_code 70 = .ok (.putfield 9, 3) := by decide +kernel
theorem dj42_149_73 : decode jdk_42_method_149_code 73 = .ok (.return_, 1) := by decide +kernel
theorem dobject_method_1_0 : decode object_method_1_code 0 = .ok (.return_, 1) := by decide +kernel
theorem dm3_0 : decode method_3_code 0 = .ok (.iload_n 0, 1) := by decide +kernel
theorem dm3_1 : decode method_3_code 1 = .ok (.bipush 16, 2) := by decide +kernel
theorem dm3_3 : decode method_3_code 3 = .ok (.iushr, 1) := by decide +kernel
theorem dm3_4 : decode method_3_code 4 = .ok (.iconst 3, 1) := by decide +kernel
theorem dm3_5 : decode method_3_code 5 = .ok (.iand, 1) := by decide +kernel
theorem dm3_6 : decode method_3_code 6 = .ok (.iconst 3, 1) := by decide +kernel
theorem dm3_7 : decode method_3_code 7 = .ok (.irem, 1) := by decide +kernel
theorem dm3_8 : decode method_3_code 8 = .ok (.istore_n 1, 1) := by decide +kernel
theorem dm3_9 : decode method_3_code 9 = .ok (.new 12, 3) := by decide +kernel
theorem dm3_12 : decode method_3_code 12 = .ok (.dup, 1) := by decide +kernel
theorem dm3_13 : decode method_3_code 13 = .ok (.invokespecial 14, 3) := by decide +kernel
theorem dm3_16 : decode method_3_code 16 = .ok (.astore_n 2, 1) := by decide +kernel
theorem dm3_17 : decode method_3_code 17 = .ok (.iload_n 1, 1) := by decide +kernel
theorem dm3_18 : decode method_3_code 18 = .ok (.iconst 1, 1) := by decide +kernel
theorem dm3_19 : decode method_3_code 19 = .ok (.if_icmp .lt 19, 3) := by decide +kernel
theorem dm3_22 : decode method_3_code 22 = .ok (.aload_n 2, 1) := by decide +kernel
theorem dm3_23 : decode method_3_code 23 = .ok (.iload_n 0, 1) := by decide +kernel
theorem dm3_24 : decode method_3_code 24 = .ok (.sipush 255, 3) := by decide +kernel
theorem dm3_27 : decode method_3_code 27 = .ok (.iand, 1) := by decide +kernel
theorem dm3_28 : decode method_3_code 28 = .ok (.i2c, 1) := by decide +kernel
theorem dm3_29 : decode method_3_code 29 = .ok (.invokestatic 15, 3) := by decide +kernel
theorem dm3_32 : decode method_3_code 32 = .ok (.invokeinterface 19 2, 5) := by decide +kernel
theorem dm3_37 : decode method_3_code 37 = .ok (.pop, 1) := by decide +kernel
theorem dm3_38 : decode method_3_code 38 = .ok (.iload_n 1, 1) := by decide +kernel
theorem dm3_39 : decode method_3_code 39 = .ok (.iconst 2, 1) := by decide +kernel
theorem dm3_40 : decode method_3_code 40 = .ok (.if_icmp .lt 22, 3) := by decide +kernel
theorem dm3_43 : decode method_3_code 43 = .ok (.aload_n 2, 1) := by decide +kernel
theorem dm3_44 : decode method_3_code 44 = .ok (.iload_n 0, 1) := by decide +kernel
theorem dm3_45 : decode method_3_code 45 = .ok (.bipush 8, 2) := by decide +kernel
theorem dm3_47 : decode method_3_code 47 = .ok (.iushr, 1) := by decide +kernel
theorem dm3_48 : decode method_3_code 48 = .ok (.sipush 255, 3) := by decide +kernel
theorem dm3_51 : decode method_3_code 51 = .ok (.iand, 1) := by decide +kernel
theorem dm3_52 : decode method_3_code 52 = .ok (.i2c, 1) := by decide +kernel
theorem dm3_53 : decode method_3_code 53 = .ok (.invokestatic 15, 3) := by decide +kernel
theorem dm3_56 : decode method_3_code 56 = .ok (.invokeinterface 19 2, 5) := by decide +kernel
theorem dm3_61 : decode method_3_code 61 = .ok (.pop, 1) := by decide +kernel
theorem dm3_62 : decode method_3_code 62 = .ok (.aload_n 2, 1) := by decide +kernel
theorem dm3_63 : decode method_3_code 63 = .ok (.areturn, 1) := by decide +kernel
theorem dj38_2_0 : decode jdk_38_method_2_code 0 = .ok (.aload_n 0, 1) := by decide +kernel
theorem dj38_2_1 : decode jdk_38_method_2_code 1 = .ok (.invokespecial 1, 3) := by decide +kernel
theorem dj38_2_4 : decode jdk_38_method_2_code 4 = .ok (.aload_n 0, 1) := by decide +kernel
theorem dj38_2_5 : decode jdk_38_method_2_code 5 = .ok (.getstatic 39, 3) := by decide +kernel
theorem dj38_2_8 : decode jdk_38_method_2_code 8 = .ok (.putfield 9, 3) := by decide +kernel
theorem dj38_2_11 : decode jdk_38_method_2_code 11 = .ok (.return_, 1) := by decide +kernel
theorem dj39_1_0 : decode jdk_39_method_1_code 0 = .ok (.aload_n 0, 1) := by decide +kernel
theorem dj39_1_1 : decode jdk_39_method_1_code 1 = .ok (.invokespecial 1, 3) := by decide +kernel
theorem dj39_1_4 : decode jdk_39_method_1_code 4 = .ok (.aload_n 0, 1) := by decide +kernel
theorem dj39_1_5 : decode jdk_39_method_1_code 5 = .ok (.iconst 0, 1) := by decide +kernel
theorem dj39_1_6 : decode jdk_39_method_1_code 6 = .ok (.putfield 7, 3) := by decide +kernel
theorem dj39_1_9 : decode jdk_39_method_1_code 9 = .ok (.return_, 1) := by decide +kernel
theorem dj22_1_0 : decode jdk_22_method_1_code 0 = .ok (.aload_n 0, 1) := by decide +kernel
theorem dj22_1_1 : decode jdk_22_method_1_code 1 = .ok (.invokespecial 1, 3) := by decide +kernel
theorem dj22_1_4 : decode jdk_22_method_1_code 4 = .ok (.return_, 1) := by decide +kernel
theorem dp3_1_0 : decode prog_3_method_1_code 0 = .ok (.aload_n 0, 1) := by decide +kernel
theorem dp3_1_1 : decode prog_3_method_1_code 1 = .ok (.invokespecial 1, 3) := by decide +kernel
theorem dp3_1_4 : decode prog_3_method_1_code 4 = .ok (.aload_n 0, 1) := by decide +kernel
theorem dp3_1_5 : decode prog_3_method_1_code 5 = .ok (.aload_n 1, 1) := by decide +kernel
theorem dp3_1_6 : decode prog_3_method_1_code 6 = .ok (.putfield 7, 3) := by decide +kernel
theorem dp3_1_9 : decode prog_3_method_1_code 9 = .ok (.aload_n 0, 1) := by decide +kernel
theorem dp3_1_10 : decode prog_3_method_1_code 10 = .ok (.aload_n 2, 1) := by decide +kernel
theorem dp3_1_11 : decode prog_3_method_1_code 11 = .ok (.invokestatic 13, 3) := by decide +kernel
theorem dp3_1_14 : decode prog_3_method_1_code 14 = .ok (.putfield 19, 3) := by decide +kernel
theorem dp3_1_17 : decode prog_3_method_1_code 17 = .ok (.return_, 1) := by decide +kernel
theorem dj40_48_0 : decode jdk_40_method_48_code 0 = .ok (.aload_n 0, 1) := by decide +kernel
theorem dj40_48_1 : decode jdk_40_method_48_code 1 = .ok (.invokestatic 112, 3) := by decide +kernel
theorem dj40_48_4 : decode jdk_40_method_48_code 4 = .ok (.areturn, 1) := by decide +kernel
theorem dj56_3_0 : decode jdk_56_method_3_code 0 = .ok (.aload_n 0, 1) := by decide +kernel
theorem dj56_3_1 : decode jdk_56_method_3_code 1 = .ok (.instanceof 10, 3) := by decide +kernel
theorem dj56_3_4 : decode jdk_56_method_3_code 4 = .ok (.ifCond .ne 22, 3) := by decide +kernel
theorem dj56_3_7 : decode jdk_56_method_3_code 7 = .ok (.aload_n 0, 1) := by decide +kernel
theorem dj56_3_8 : decode jdk_56_method_3_code 8 = .ok (.instanceof 12, 3) := by decide +kernel
theorem dj56_3_11 : decode jdk_56_method_3_code 11 = .ok (.ifCond .eq 20, 3) := by decide +kernel
theorem dj56_3_14 : decode jdk_56_method_3_code 14 = .ok (.aload_n 0, 1) := by decide +kernel
theorem dj56_3_15 : decode jdk_56_method_3_code 15 = .ok (.checkcast 12, 3) := by decide +kernel
theorem dj56_3_18 : decode jdk_56_method_3_code 18 = .ok (.astore_n 1, 1) := by decide +kernel
theorem dj56_3_19 : decode jdk_56_method_3_code 19 = .ok (.aload_n 1, 1) := by decide +kernel
theorem dj56_3_20 : decode jdk_56_method_3_code 20 = .ok (.getfield 14, 3) := by decide +kernel
theorem dj56_3_23 : decode jdk_56_method_3_code 23 = .ok (.ifCond .ne 8, 3) := by decide +kernel
theorem dj56_3_26 : decode jdk_56_method_3_code 26 = .ok (.aload_n 0, 1) := by decide +kernel
theorem dj56_3_27 : decode jdk_56_method_3_code 27 = .ok (.checkcast 18, 3) := by decide +kernel
theorem dj56_3_30 : decode jdk_56_method_3_code 30 = .ok (.areturn, 1) := by decide +kernel
theorem dj56_3_31 : decode jdk_56_method_3_code 31 = .ok (.aload_n 0, 1) := by decide +kernel
theorem dj56_3_32 : decode jdk_56_method_3_code 32 = .ok (.invokeinterface 20 1, 5) := by decide +kernel
theorem dj56_3_37 : decode jdk_56_method_3_code 37 = .ok (.ifCond .eq 7, 3) := by decide +kernel
theorem dj56_3_40 : decode jdk_56_method_3_code 40 = .ok (.invokestatic 26, 3) := by decide +kernel
theorem dj56_3_43 : decode jdk_56_method_3_code 43 = .ok (.areturn, 1) := by decide +kernel
theorem dj56_3_44 : decode jdk_56_method_3_code 44 = .ok (.aload_n 0, 1) := by decide +kernel
theorem dj56_3_45 : decode jdk_56_method_3_code 45 = .ok (.invokeinterface 30 1, 5) := by decide +kernel
theorem dj56_3_50 : decode jdk_56_method_3_code 50 = .ok (.invokestatic 34, 3) := by decide +kernel
theorem dj56_3_53 : decode jdk_56_method_3_code 53 = .ok (.areturn, 1) := by decide +kernel
theorem dj38_9_0 : decode jdk_38_method_9_code 0 = .ok (.aload_n 0, 1) := by decide +kernel
theorem dj38_9_1 : decode jdk_38_method_9_code 1 = .ok (.getfield 48, 3) := by decide +kernel
theorem dj38_9_4 : decode jdk_38_method_9_code 4 = .ok (.ifCond .ne 7, 3) := by decide +kernel
theorem dj38_9_7 : decode jdk_38_method_9_code 7 = .ok (.iconst 1, 1) := by decide +kernel
theorem dj38_9_8 : decode jdk_38_method_9_code 8 = .ok (.goto 4, 3) := by decide +kernel
theorem dj38_9_11 : decode jdk_38_method_9_code 11 = .ok (.iconst 0, 1) := by decide +kernel
theorem dj38_9_12 : decode jdk_38_method_9_code 12 = .ok (.ireturn, 1) := by decide +kernel
theorem dj40_36_0 : decode jdk_40_method_36_code 0 = .ok (.getstatic 90, 3) := by decide +kernel
theorem dj40_36_3 : decode jdk_40_method_36_code 3 = .ok (.areturn, 1) := by decide +kernel
theorem dp3_4_0 : decode prog_3_method_4_code 0 = .ok (.aload_n 1, 1) := by decide +kernel
theorem dp3_4_1 : decode prog_3_method_4_code 1 = .ok (.instanceof 8, 3) := by decide +kernel
theorem dp3_4_4 : decode prog_3_method_4_code 4 = .ok (.ifCond .eq 42, 3) := by decide +kernel
theorem dp3_4_7 : decode prog_3_method_4_code 7 = .ok (.aload_n 1, 1) := by decide +kernel
theorem dp3_4_8 : decode prog_3_method_4_code 8 = .ok (.checkcast 8, 3) := by decide +kernel
theorem dp3_4_11 : decode prog_3_method_4_code 11 = .ok (.astore_n 2, 1) := by decide +kernel
theorem dp3_4_12 : decode prog_3_method_4_code 12 = .ok (.aload_n 0, 1) := by decide +kernel
theorem dp3_4_13 : decode prog_3_method_4_code 13 = .ok (.getfield 7, 3) := by decide +kernel
theorem dp3_4_16 : decode prog_3_method_4_code 16 = .ok (.aload_n 2, 1) := by decide +kernel
theorem dp3_4_17 : decode prog_3_method_4_code 17 = .ok (.getfield 7, 3) := by decide +kernel
theorem dp3_4_20 : decode prog_3_method_4_code 20 = .ok (.invokevirtual 23, 3) := by decide +kernel
theorem dp3_4_23 : decode prog_3_method_4_code 23 = .ok (.ifCond .eq 23, 3) := by decide +kernel
theorem dp3_4_26 : decode prog_3_method_4_code 26 = .ok (.aload_n 0, 1) := by decide +kernel
theorem dp3_4_27 : decode prog_3_method_4_code 27 = .ok (.getfield 19, 3) := by decide +kernel
theorem dp3_4_30 : decode prog_3_method_4_code 30 = .ok (.aload_n 2, 1) := by decide +kernel
theorem dp3_4_31 : decode prog_3_method_4_code 31 = .ok (.getfield 19, 3) := by decide +kernel
theorem dp3_4_34 : decode prog_3_method_4_code 34 = .ok (.invokeinterface 29 2, 5) := by decide +kernel
theorem dp3_4_39 : decode prog_3_method_4_code 39 = .ok (.ifCond .eq 7, 3) := by decide +kernel
theorem dp3_4_42 : decode prog_3_method_4_code 42 = .ok (.iconst 1, 1) := by decide +kernel
theorem dp3_4_43 : decode prog_3_method_4_code 43 = .ok (.goto 4, 3) := by decide +kernel
theorem dp3_4_46 : decode prog_3_method_4_code 46 = .ok (.iconst 0, 1) := by decide +kernel
theorem dp3_4_47 : decode prog_3_method_4_code 47 = .ok (.ireturn, 1) := by decide +kernel
theorem dj42_66_0 : decode jdk_42_method_66_code 0 = .ok (.aload_n 0, 1) := by decide +kernel
theorem dj42_66_1 : decode jdk_42_method_66_code 1 = .ok (.aload_n 1, 1) := by decide +kernel
theorem dj42_66_2 : decode jdk_42_method_66_code 2 = .ok (.if_acmp .ne 5, 3) := by decide +kernel
theorem dj42_66_5 : decode jdk_42_method_66_code 5 = .ok (.iconst 1, 1) := by decide +kernel
theorem dj42_66_6 : decode jdk_42_method_66_code 6 = .ok (.ireturn, 1) := by decide +kernel
theorem dj42_66_7 : decode jdk_42_method_66_code 7 = .ok (.aload_n 1, 1) := by decide +kernel
theorem dj42_66_8 : decode jdk_42_method_66_code 8 = .ok (.instanceof 10, 3) := by decide +kernel
theorem dj42_66_11 : decode jdk_42_method_66_code 11 = .ok (.ifCond .eq 43, 3) := by decide +kernel
theorem dj42_66_14 : decode jdk_42_method_66_code 14 = .ok (.aload_n 1, 1) := by decide +kernel
theorem dj42_66_15 : decode jdk_42_method_66_code 15 = .ok (.checkcast 10, 3) := by decide +kernel
theorem dj42_66_18 : decode jdk_42_method_66_code 18 = .ok (.astore_n 2, 1) := by decide +kernel
theorem dj42_66_19 : decode jdk_42_method_66_code 19 = .ok (.getstatic 38, 3) := by decide +kernel
theorem dj42_66_22 : decode jdk_42_method_66_code 22 = .ok (.ifCond .eq 14, 3) := by decide +kernel
theorem dj42_66_25 : decode jdk_42_method_66_code 25 = .ok (.aload_n 0, 1) := by decide +kernel
theorem dj42_66_26 : decode jdk_42_method_66_code 26 = .ok (.getfield 15, 3) := by decide +kernel
theorem dj42_66_29 : decode jdk_42_method_66_code 29 = .ok (.aload_n 2, 1) := by decide +kernel
theorem dj42_66_30 : decode jdk_42_method_66_code 30 = .ok (.getfield 15, 3) := by decide +kernel
theorem dj42_66_33 : decode jdk_42_method_66_code 33 = .ok (.if_icmp .ne 21, 3) := by decide +kernel
theorem dj42_66_36 : decode jdk_42_method_66_code 36 = .ok (.aload_n 0, 1) := by decide +kernel
theorem dj42_66_37 : decode jdk_42_method_66_code 37 = .ok (.getfield 9, 3) := by decide +kernel
theorem dj42_66_40 : decode jdk_42_method_66_code 40 = .ok (.aload_n 2, 1) := by decide +kernel
theorem dj42_66_41 : decode jdk_42_method_66_code 41 = .ok (.getfield 9, 3) := by decide +kernel
theorem dj42_66_44 : decode jdk_42_method_66_code 44 = .ok (.invokestatic 541, 3) := by decide +kernel
theorem dj42_66_47 : decode jdk_42_method_66_code 47 = .ok (.ifCond .eq 7, 3) := by decide +kernel
theorem dj42_66_50 : decode jdk_42_method_66_code 50 = .ok (.iconst 1, 1) := by decide +kernel
theorem dj42_66_51 : decode jdk_42_method_66_code 51 = .ok (.goto 4, 3) := by decide +kernel
theorem dj42_66_54 : decode jdk_42_method_66_code 54 = .ok (.iconst 0, 1) := by decide +kernel
theorem dj42_66_55 : decode jdk_42_method_66_code 55 = .ok (.ireturn, 1) := by decide +kernel
theorem dj43_13_0 : decode jdk_43_method_13_code 0 = .ok (.aload_n 0, 1) := by decide +kernel
theorem dj43_13_1 : decode jdk_43_method_13_code 1 = .ok (.arraylength, 1) := by decide +kernel
theorem dj43_13_2 : decode jdk_43_method_13_code 2 = .ok (.aload_n 1, 1) := by decide +kernel
theorem dj43_13_3 : decode jdk_43_method_13_code 3 = .ok (.arraylength, 1) := by decide +kernel
theorem dj43_13_4 : decode jdk_43_method_13_code 4 = .ok (.if_icmp .ne 30, 3) := by decide +kernel
theorem dj43_13_7 : decode jdk_43_method_13_code 7 = .ok (.iconst 0, 1) := by decide +kernel
theorem dj43_13_8 : decode jdk_43_method_13_code 8 = .ok (.istore_n 2, 1) := by decide +kernel
theorem dj43_13_9 : decode jdk_43_method_13_code 9 = .ok (.iload_n 2, 1) := by decide +kernel
theorem dj43_13_10 : decode jdk_43_method_13_code 10 = .ok (.aload_n 0, 1) := by decide +kernel
theorem dj43_13_11 : decode jdk_43_method_13_code 11 = .ok (.arraylength, 1) := by decide +kernel
theorem dj43_13_12 : decode jdk_43_method_13_code 12 = .ok (.if_icmp .ge 20, 3) := by decide +kernel
theorem dj43_13_15 : decode jdk_43_method_13_code 15 = .ok (.aload_n 0, 1) := by decide +kernel
theorem dj43_13_16 : decode jdk_43_method_13_code 16 = .ok (.iload_n 2, 1) := by decide +kernel
theorem dj43_13_17 : decode jdk_43_method_13_code 17 = .ok (.baload, 1) := by decide +kernel
theorem dj43_13_18 : decode jdk_43_method_13_code 18 = .ok (.aload_n 1, 1) := by decide +kernel
theorem dj43_13_19 : decode jdk_43_method_13_code 19 = .ok (.iload_n 2, 1) := by decide +kernel
theorem dj43_13_20 : decode jdk_43_method_13_code 20 = .ok (.baload, 1) := by decide +kernel
theorem dj43_13_21 : decode jdk_43_method_13_code 21 = .ok (.if_icmp .eq 5, 3) := by decide +kernel
theorem dj43_13_24 : decode jdk_43_method_13_code 24 = .ok (.iconst 0, 1) := by decide +kernel
theorem dj43_13_25 : decode jdk_43_method_13_code 25 = .ok (.ireturn, 1) := by decide +kernel
theorem dj43_13_26 : decode jdk_43_method_13_code 26 = .ok (.iinc 2 1, 3) := by decide +kernel
theorem dj43_13_29 : decode jdk_43_method_13_code 29 = .ok (.goto (-20), 3) := by decide +kernel
theorem dj43_13_32 : decode jdk_43_method_13_code 32 = .ok (.iconst 1, 1) := by decide +kernel
theorem dj43_13_33 : decode jdk_43_method_13_code 33 = .ok (.ireturn, 1) := by decide +kernel
theorem dj43_13_34 : decode jdk_43_method_13_code 34 = .ok (.iconst 0, 1) := by decide +kernel
theorem dj43_13_35 : decode jdk_43_method_13_code 35 = .ok (.ireturn, 1) := by decide +kernel
theorem dj46_13_0 : decode jdk_46_method_13_code 0 = .ok (.aload_n 1, 1) := by decide +kernel
theorem dj46_13_1 : decode jdk_46_method_13_code 1 = .ok (.aload_n 0, 1) := by decide +kernel
theorem dj46_13_2 : decode jdk_46_method_13_code 2 = .ok (.if_acmp .ne 5, 3) := by decide +kernel
theorem dj46_13_5 : decode jdk_46_method_13_code 5 = .ok (.iconst 1, 1) := by decide +kernel
theorem dj46_13_6 : decode jdk_46_method_13_code 6 = .ok (.ireturn, 1) := by decide +kernel
theorem dj46_13_7 : decode jdk_46_method_13_code 7 = .ok (.aload_n 1, 1) := by decide +kernel
theorem dj46_13_8 : decode jdk_46_method_13_code 8 = .ok (.instanceof 77, 3) := by decide +kernel
theorem dj46_13_11 : decode jdk_46_method_13_code 11 = .ok (.ifCond .ne 5, 3) := by decide +kernel
theorem dj46_13_14 : decode jdk_46_method_13_code 14 = .ok (.iconst 0, 1) := by decide +kernel
theorem dj46_13_15 : decode jdk_46_method_13_code 15 = .ok (.ireturn, 1) := by decide +kernel
theorem dj46_13_16 : decode jdk_46_method_13_code 16 = .ok (.aload_n 1, 1) := by decide +kernel
theorem dj46_13_17 : decode jdk_46_method_13_code 17 = .ok (.checkcast 77, 3) := by decide +kernel
theorem dj46_13_20 : decode jdk_46_method_13_code 20 = .ok (.invokeinterface 79 1, 5) := by decide +kernel
theorem dj46_13_25 : decode jdk_46_method_13_code 25 = .ok (.astore_n 2, 1) := by decide +kernel
theorem dj46_13_26 : decode jdk_46_method_13_code 26 = .ok (.iconst 0, 1) := by decide +kernel
theorem dj46_13_27 : decode jdk_46_method_13_code 27 = .ok (.istore_n 3, 1) := by decide +kernel
theorem dj46_13_28 : decode jdk_46_method_13_code 28 = .ok (.aload_n 0, 1) := by decide +kernel
theorem dj46_13_29 : decode jdk_46_method_13_code 29 = .ok (.invokevirtual 13, 3) := by decide +kernel
theorem dj46_13_32 : decode jdk_46_method_13_code 32 = .ok (.istore 4, 2) := by decide +kernel
theorem dj46_13_34 : decode jdk_46_method_13_code 34 = .ok (.iload_n 3, 1) := by decide +kernel
theorem dj46_13_35 : decode jdk_46_method_13_code 35 = .ok (.iload 4, 2) := by decide +kernel
theorem dj46_13_37 : decode jdk_46_method_13_code 37 = .ok (.if_icmp .ge 37, 3) := by decide +kernel
theorem dj46_13_40 : decode jdk_46_method_13_code 40 = .ok (.aload_n 2, 1) := by decide +kernel
theorem dj46_13_41 : decode jdk_46_method_13_code 41 = .ok (.invokeinterface 83 1, 5) := by decide +kernel
theorem dj46_13_46 : decode jdk_46_method_13_code 46 = .ok (.ifCond .eq 20, 3) := by decide +kernel
theorem dj46_13_49 : decode jdk_46_method_13_code 49 = .ok (.aload_n 0, 1) := by decide +kernel
theorem dj46_13_50 : decode jdk_46_method_13_code 50 = .ok (.iload_n 3, 1) := by decide +kernel
theorem dj46_13_51 : decode jdk_46_method_13_code 51 = .ok (.invokevirtual 89, 3) := by decide +kernel
theorem dj46_13_54 : decode jdk_46_method_13_code 54 = .ok (.aload_n 2, 1) := by decide +kernel
theorem dj46_13_55 : decode jdk_46_method_13_code 55 = .ok (.invokeinterface 93 1, 5) := by decide +kernel
theorem dj46_13_60 : decode jdk_46_method_13_code 60 = .ok (.invokestatic 97, 3) := by decide +kernel
theorem dj46_13_63 : decode jdk_46_method_13_code 63 = .ok (.ifCond .ne 5, 3) := by decide +kernel
theorem dj46_13_66 : decode jdk_46_method_13_code 66 = .ok (.iconst 0, 1) := by decide +kernel
theorem dj46_13_67 : decode jdk_46_method_13_code 67 = .ok (.ireturn, 1) := by decide +kernel
theorem dj46_13_68 : decode jdk_46_method_13_code 68 = .ok (.iinc 3 1, 3) := by decide +kernel
theorem dj46_13_71 : decode jdk_46_method_13_code 71 = .ok (.goto (-37), 3) := by decide +kernel
theorem dj46_13_74 : decode jdk_46_method_13_code 74 = .ok (.aload_n 2, 1) := by decide +kernel
theorem dj46_13_75 : decode jdk_46_method_13_code 75 = .ok (.invokeinterface 83 1, 5) := by decide +kernel
theorem dj46_13_80 : decode jdk_46_method_13_code 80 = .ok (.ifCond .ne 7, 3) := by decide +kernel
theorem dj46_13_83 : decode jdk_46_method_13_code 83 = .ok (.iconst 1, 1) := by decide +kernel
theorem dj46_13_84 : decode jdk_46_method_13_code 84 = .ok (.goto 4, 3) := by decide +kernel
theorem dj46_13_87 : decode jdk_46_method_13_code 87 = .ok (.iconst 0, 1) := by decide +kernel
theorem dj46_13_88 : decode jdk_46_method_13_code 88 = .ok (.ireturn, 1) := by decide +kernel
theorem dp3_5_0 : decode prog_3_method_5_code 0 = .ok (.iconst 2, 1) := by decide +kernel
theorem dp3_5_1 : decode prog_3_method_5_code 1 = .ok (.anewarray 2, 3) := by decide +kernel
theorem dp3_5_4 : decode prog_3_method_5_code 4 = .ok (.dup, 1) := by decide +kernel
theorem dp3_5_5 : decode prog_3_method_5_code 5 = .ok (.iconst 0, 1) := by decide +kernel
theorem dp3_5_6 : decode prog_3_method_5_code 6 = .ok (.aload_n 0, 1) := by decide +kernel
theorem dp3_5_7 : decode prog_3_method_5_code 7 = .ok (.getfield 7, 3) := by decide +kernel
theorem dp3_5_10 : decode prog_3_method_5_code 10 = .ok (.aastore, 1) := by decide +kernel
theorem dp3_5_11 : decode prog_3_method_5_code 11 = .ok (.dup, 1) := by decide +kernel
theorem dp3_5_12 : decode prog_3_method_5_code 12 = .ok (.iconst 1, 1) := by decide +kernel
theorem dp3_5_13 : decode prog_3_method_5_code 13 = .ok (.aload_n 0, 1) := by decide +kernel
theorem dp3_5_14 : decode prog_3_method_5_code 14 = .ok (.getfield 19, 3) := by decide +kernel
theorem dp3_5_17 : decode prog_3_method_5_code 17 = .ok (.aastore, 1) := by decide +kernel
theorem dp3_5_18 : decode prog_3_method_5_code 18 = .ok (.invokestatic 30, 3) := by decide +kernel
theorem dp3_5_21 : decode prog_3_method_5_code 21 = .ok (.ireturn, 1) := by decide +kernel
theorem dj31_5_0 : decode jdk_31_method_5_code 0 = .ok (.aload_n 0, 1) := by decide +kernel
theorem dj31_5_1 : decode jdk_31_method_5_code 1 = .ok (.invokestatic 28, 3) := by decide +kernel
theorem dj31_5_4 : decode jdk_31_method_5_code 4 = .ok (.ireturn, 1) := by decide +kernel
theorem dj65_157_0 : decode jdk_65_method_157_code 0 = .ok (.aload_n 0, 1) := by decide +kernel
theorem dj65_157_1 : decode jdk_65_method_157_code 1 = .ok (.ifnonnull 5, 3) := by decide +kernel
theorem dj65_157_4 : decode jdk_65_method_157_code 4 = .ok (.iconst 0, 1) := by decide +kernel
theorem dj65_157_5 : decode jdk_65_method_157_code 5 = .ok (.ireturn, 1) := by decide +kernel
theorem dj65_157_6 : decode jdk_65_method_157_code 6 = .ok (.iconst 1, 1) := by decide +kernel
theorem dj65_157_7 : decode jdk_65_method_157_code 7 = .ok (.istore_n 1, 1) := by decide +kernel
theorem dj65_157_8 : decode jdk_65_method_157_code 8 = .ok (.aload_n 0, 1) := by decide +kernel
theorem dj65_157_9 : decode jdk_65_method_157_code 9 = .ok (.astore_n 2, 1) := by decide +kernel
theorem dj65_157_10 : decode jdk_65_method_157_code 10 = .ok (.aload_n 2, 1) := by decide +kernel
theorem dj65_157_11 : decode jdk_65_method_157_code 11 = .ok (.arraylength, 1) := by decide +kernel
theorem dj65_157_12 : decode jdk_65_method_157_code 12 = .ok (.istore_n 3, 1) := by decide +kernel
theorem dj65_157_13 : decode jdk_65_method_157_code 13 = .ok (.iconst 0, 1) := by decide +kernel
theorem dj65_157_14 : decode jdk_65_method_157_code 14 = .ok (.istore 4, 2) := by decide +kernel
theorem dj65_157_16 : decode jdk_65_method_157_code 16 = .ok (.iload 4, 2) := by decide +kernel
theorem dj65_157_18 : decode jdk_65_method_157_code 18 = .ok (.iload_n 3, 1) := by decide +kernel
theorem dj65_157_19 : decode jdk_65_method_157_code 19 = .ok (.if_icmp .ge 35, 3) := by decide +kernel
theorem dj65_157_22 : decode jdk_65_method_157_code 22 = .ok (.aload_n 2, 1) := by decide +kernel
theorem dj65_157_23 : decode jdk_65_method_157_code 23 = .ok (.iload 4, 2) := by decide +kernel
theorem dj65_157_25 : decode jdk_65_method_157_code 25 = .ok (.aaload, 1) := by decide +kernel
theorem dj65_157_26 : decode jdk_65_method_157_code 26 = .ok (.astore 5, 2) := by decide +kernel
theorem dj65_157_28 : decode jdk_65_method_157_code 28 = .ok (.bipush 31, 2) := by decide +kernel
theorem dj65_157_30 : decode jdk_65_method_157_code 30 = .ok (.iload_n 1, 1) := by decide +kernel
theorem dj65_157_31 : decode jdk_65_method_157_code 31 = .ok (.imul, 1) := by decide +kernel
theorem dj65_157_32 : decode jdk_65_method_157_code 32 = .ok (.aload 5, 2) := by decide +kernel
theorem dj65_157_34 : decode jdk_65_method_157_code 34 = .ok (.ifnonnull 7, 3) := by decide +kernel
theorem dj65_157_37 : decode jdk_65_method_157_code 37 = .ok (.iconst 0, 1) := by decide +kernel
theorem dj65_157_38 : decode jdk_65_method_157_code 38 = .ok (.goto 8, 3) := by decide +kernel
theorem dj65_157_41 : decode jdk_65_method_157_code 41 = .ok (.aload 5, 2) := by decide +kernel
theorem dj65_157_43 : decode jdk_65_method_157_code 43 = .ok (.invokevirtual 383, 3) := by decide +kernel
theorem dj65_157_46 : decode jdk_65_method_157_code 46 = .ok (.iadd, 1) := by decide +kernel
theorem dj65_157_47 : decode jdk_65_method_157_code 47 = .ok (.istore_n 1, 1) := by decide +kernel
theorem dj65_157_48 : decode jdk_65_method_157_code 48 = .ok (.iinc 4 1, 3) := by decide +kernel
theorem dj65_157_51 : decode jdk_65_method_157_code 51 = .ok (.goto (-35), 3) := by decide +kernel
theorem dj65_157_54 : decode jdk_65_method_157_code 54 = .ok (.iload_n 1, 1) := by decide +kernel
theorem dj65_157_55 : decode jdk_65_method_157_code 55 = .ok (.ireturn, 1) := by decide +kernel
theorem dj42_78_0 : decode jdk_42_method_78_code 0 = .ok (.aload_n 0, 1) := by decide +kernel
theorem dj42_78_1 : decode jdk_42_method_78_code 1 = .ok (.getfield 19, 3) := by decide +kernel
theorem dj42_78_4 : decode jdk_42_method_78_code 4 = .ok (.istore_n 1, 1) := by decide +kernel
theorem dj42_78_5 : decode jdk_42_method_78_code 5 = .ok (.iload_n 1, 1) := by decide +kernel
theorem dj42_78_6 : decode jdk_42_method_78_code 6 = .ok (.ifCond .ne 52, 3) := by decide +kernel
theorem dj42_78_9 : decode jdk_42_method_78_code 9 = .ok (.aload_n 0, 1) := by decide +kernel
theorem dj42_78_10 : decode jdk_42_method_78_code 10 = .ok (.getfield 23, 3) := by decide +kernel
theorem dj42_78_13 : decode jdk_42_method_78_code 13 = .ok (.ifCond .ne 45, 3) := by decide +kernel
theorem dj42_78_16 : decode jdk_42_method_78_code 16 = .ok (.aload_n 0, 1) := by decide +kernel
theorem dj42_78_17 : decode jdk_42_method_78_code 17 = .ok (.invokevirtual 492, 3) := by decide +kernel
theorem dj42_78_20 : decode jdk_42_method_78_code 20 = .ok (.ifCond .eq 13, 3) := by decide +kernel
theorem dj42_78_23 : decode jdk_42_method_78_code 23 = .ok (.aload_n 0, 1) := by decide +kernel
theorem dj42_78_24 : decode jdk_42_method_78_code 24 = .ok (.getfield 9, 3) := by decide +kernel
theorem dj42_78_27 : decode jdk_42_method_78_code 27 = .ok (.invokestatic 628, 3) := by decide +kernel
theorem dj42_78_30 : decode jdk_42_method_78_code 30 = .ok (.goto 10, 3) := by decide +kernel
theorem dj42_78_33 : decode jdk_42_method_78_code 33 = .ok (.aload_n 0, 1) := by decide +kernel
theorem dj42_78_34 : decode jdk_42_method_78_code 34 = .ok (.getfield 9, 3) := by decide +kernel
theorem dj42_78_37 : decode jdk_42_method_78_code 37 = .ok (.invokestatic 632, 3) := by decide +kernel
theorem dj42_78_40 : decode jdk_42_method_78_code 40 = .ok (.istore_n 1, 1) := by decide +kernel
theorem dj42_78_41 : decode jdk_42_method_78_code 41 = .ok (.iload_n 1, 1) := by decide +kernel
theorem dj42_78_42 : decode jdk_42_method_78_code 42 = .ok (.ifCond .ne 11, 3) := by decide +kernel
theorem dj42_78_45 : decode jdk_42_method_78_code 45 = .ok (.aload_n 0, 1) := by decide +kernel
theorem dj42_78_46 : decode jdk_42_method_78_code 46 = .ok (.iconst 1, 1) := by decide +kernel
theorem dj42_78_47 : decode jdk_42_method_78_code 47 = .ok (.putfield 23, 3) := by decide +kernel
theorem dj42_78_50 : decode jdk_42_method_78_code 50 = .ok (.goto 8, 3) := by decide +kernel
theorem dj42_78_53 : decode jdk_42_method_78_code 53 = .ok (.aload_n 0, 1) := by decide +kernel
theorem dj42_78_54 : decode jdk_42_method_78_code 54 = .ok (.iload_n 1, 1) := by decide +kernel
theorem dj42_78_55 : decode jdk_42_method_78_code 55 = .ok (.putfield 19, 3) := by decide +kernel
theorem dj42_78_58 : decode jdk_42_method_78_code 58 = .ok (.iload_n 1, 1) := by decide +kernel
theorem dj42_78_59 : decode jdk_42_method_78_code 59 = .ok (.ireturn, 1) := by decide +kernel
theorem dj42_154_0 : decode jdk_42_method_154_code 0 = .ok (.getstatic 38, 3) := by decide +kernel
theorem dj42_154_3 : decode jdk_42_method_154_code 3 = .ok (.ifCond .eq 14, 3) := by decide +kernel
theorem dj42_154_6 : decode jdk_42_method_154_code 6 = .ok (.aload_n 0, 1) := by decide +kernel
theorem dj42_154_7 : decode jdk_42_method_154_code 7 = .ok (.getfield 15, 3) := by decide +kernel
theorem dj42_154_10 : decode jdk_42_method_154_code 10 = .ok (.ifCond .ne 7, 3) := by decide +kernel
theorem dj42_154_13 : decode jdk_42_method_154_code 13 = .ok (.iconst 1, 1) := by decide +kernel
theorem dj42_154_14 : decode jdk_42_method_154_code 14 = .ok (.goto 4, 3) := by decide +kernel
theorem dj42_154_17 : decode jdk_42_method_154_code 17 = .ok (.iconst 0, 1) := by decide +kernel
theorem dj42_154_18 : decode jdk_42_method_154_code 18 = .ok (.ireturn, 1) := by decide +kernel
theorem dj43_21_0 : decode jdk_43_method_21_code 0 = .ok (.aload_n 0, 1) := by decide +kernel
theorem dj43_21_1 : decode jdk_43_method_21_code 1 = .ok (.arraylength, 1) := by decide +kernel
theorem dj43_21_2 : decode jdk_43_method_21_code 2 = .ok (.lookupswitch 40 #[(0, 26), (1, 30)], 26) := by decide +kernel
theorem dj43_21_28 : decode jdk_43_method_21_code 28 = .ok (.iconst 0, 1) := by decide +kernel
theorem dj43_21_29 : decode jdk_43_method_21_code 29 = .ok (.goto 22, 3) := by decide +kernel
theorem dj43_21_32 : decode jdk_43_method_21_code 32 = .ok (.aload_n 0, 1) := by decide +kernel
theorem dj43_21_33 : decode jdk_43_method_21_code 33 = .ok (.iconst 0, 1) := by decide +kernel
theorem dj43_21_34 : decode jdk_43_method_21_code 34 = .ok (.baload, 1) := by decide +kernel
theorem dj43_21_35 : decode jdk_43_method_21_code 35 = .ok (.sipush 255, 3) := by decide +kernel
theorem dj43_21_38 : decode jdk_43_method_21_code 38 = .ok (.iand, 1) := by decide +kernel
theorem dj43_21_39 : decode jdk_43_method_21_code 39 = .ok (.goto 12, 3) := by decide +kernel
theorem dj43_21_42 : decode jdk_43_method_21_code 42 = .ok (.aload_n 0, 1) := by decide +kernel
theorem dj43_21_43 : decode jdk_43_method_21_code 43 = .ok (.iconst 0, 1) := by decide +kernel
theorem dj43_21_44 : decode jdk_43_method_21_code 44 = .ok (.aload_n 0, 1) := by decide +kernel
theorem dj43_21_45 : decode jdk_43_method_21_code 45 = .ok (.arraylength, 1) := by decide +kernel
theorem dj43_21_46 : decode jdk_43_method_21_code 46 = .ok (.iconst 0, 1) := by decide +kernel
theorem dj43_21_47 : decode jdk_43_method_21_code 47 = .ok (.iconst 4, 1) := by decide +kernel
theorem dj43_21_48 : decode jdk_43_method_21_code 48 = .ok (.invokestatic 84, 3) := by decide +kernel
theorem dj43_21_51 : decode jdk_43_method_21_code 51 = .ok (.ireturn, 1) := by decide +kernel
theorem dj46_14_0 : decode jdk_46_method_14_code 0 = .ok (.iconst 1, 1) := by decide +kernel
theorem dj46_14_1 : decode jdk_46_method_14_code 1 = .ok (.istore_n 1, 1) := by decide +kernel
theorem dj46_14_2 : decode jdk_46_method_14_code 2 = .ok (.iconst 0, 1) := by decide +kernel
theorem dj46_14_3 : decode jdk_46_method_14_code 3 = .ok (.istore_n 2, 1) := by decide +kernel
theorem dj46_14_4 : decode jdk_46_method_14_code 4 = .ok (.aload_n 0, 1) := by decide +kernel
theorem dj46_14_5 : decode jdk_46_method_14_code 5 = .ok (.invokevirtual 13, 3) := by decide +kernel
theorem dj46_14_8 : decode jdk_46_method_14_code 8 = .ok (.istore_n 3, 1) := by decide +kernel
theorem dj46_14_9 : decode jdk_46_method_14_code 9 = .ok (.iload_n 2, 1) := by decide +kernel
theorem dj46_14_10 : decode jdk_46_method_14_code 10 = .ok (.iload_n 3, 1) := by decide +kernel
theorem dj46_14_11 : decode jdk_46_method_14_code 11 = .ok (.if_icmp .ge 23, 3) := by decide +kernel
theorem dj46_14_14 : decode jdk_46_method_14_code 14 = .ok (.bipush 31, 2) := by decide +kernel
theorem dj46_14_16 : decode jdk_46_method_14_code 16 = .ok (.iload_n 1, 1) := by decide +kernel
theorem dj46_14_17 : decode jdk_46_method_14_code 17 = .ok (.imul, 1) := by decide +kernel
theorem dj46_14_18 : decode jdk_46_method_14_code 18 = .ok (.aload_n 0, 1) := by decide +kernel
theorem dj46_14_19 : decode jdk_46_method_14_code 19 = .ok (.iload_n 2, 1) := by decide +kernel
theorem dj46_14_20 : decode jdk_46_method_14_code 20 = .ok (.invokevirtual 89, 3) := by decide +kernel
theorem dj46_14_23 : decode jdk_46_method_14_code 23 = .ok (.invokestatic 103, 3) := by decide +kernel
theorem dj46_14_26 : decode jdk_46_method_14_code 26 = .ok (.iadd, 1) := by decide +kernel
theorem dj46_14_27 : decode jdk_46_method_14_code 27 = .ok (.istore_n 1, 1) := by decide +kernel
theorem dj46_14_28 : decode jdk_46_method_14_code 28 = .ok (.iinc 2 1, 3) := by decide +kernel
theorem dj46_14_31 : decode jdk_46_method_14_code 31 = .ok (.goto (-22), 3) := by decide +kernel
theorem dj46_14_34 : decode jdk_46_method_14_code 34 = .ok (.iload_n 1, 1) := by decide +kernel
theorem dj46_14_35 : decode jdk_46_method_14_code 35 = .ok (.ireturn, 1) := by decide +kernel
theorem dj45_3_0 : decode jdk_45_method_3_code 0 = .ok (.aload_n 0, 1) := by decide +kernel
theorem dj45_3_1 : decode jdk_45_method_3_code 1 = .ok (.getfield 7, 3) := by decide +kernel
theorem dj45_3_4 : decode jdk_45_method_3_code 4 = .ok (.arraylength, 1) := by decide +kernel
theorem dj45_3_5 : decode jdk_45_method_3_code 5 = .ok (.ireturn, 1) := by decide +kernel
theorem dj42_139_0 : decode jdk_42_method_139_code 0 = .ok (.getstatic 38, 3) := by decide +kernel
theorem dj42_139_3 : decode jdk_42_method_139_code 3 = .ok (.ifCond .eq 23, 3) := by decide +kernel
theorem dj42_139_6 : decode jdk_42_method_139_code 6 = .ok (.iload_n 0, 1) := by decide +kernel
theorem dj42_139_7 : decode jdk_42_method_139_code 7 = .ok (.invokestatic 1015, 3) := by decide +kernel
theorem dj42_139_10 : decode jdk_42_method_139_code 10 = .ok (.ifCond .eq 16, 3) := by decide +kernel
theorem dj42_139_13 : decode jdk_42_method_139_code 13 = .ok (.new 10, 3) := by decide +kernel
theorem dj42_139_16 : decode jdk_42_method_139_code 16 = .ok (.dup, 1) := by decide +kernel
theorem dj42_139_17 : decode jdk_42_method_139_code 17 = .ok (.iload_n 0, 1) := by decide +kernel
theorem dj42_139_18 : decode jdk_42_method_139_code 18 = .ok (.invokestatic 1018, 3) := by decide +kernel
theorem dj42_139_21 : decode jdk_42_method_139_code 21 = .ok (.iconst 0, 1) := by decide +kernel
theorem dj42_139_22 : decode jdk_42_method_139_code 22 = .ok (.invokespecial 209, 3) := by decide +kernel
theorem dj42_139_25 : decode jdk_42_method_139_code 25 = .ok (.areturn, 1) := by decide +kernel
theorem dj42_139_26 : decode jdk_42_method_139_code 26 = .ok (.new 10, 3) := by decide +kernel
theorem dj42_139_29 : decode jdk_42_method_139_code 29 = .ok (.dup, 1) := by decide +kernel
theorem dj42_139_30 : decode jdk_42_method_139_code 30 = .ok (.iload_n 0, 1) := by decide +kernel
theorem dj42_139_31 : decode jdk_42_method_139_code 31 = .ok (.invokestatic 1021, 3) := by decide +kernel
theorem dj42_139_34 : decode jdk_42_method_139_code 34 = .ok (.iconst 1, 1) := by decide +kernel
theorem dj42_139_35 : decode jdk_42_method_139_code 35 = .ok (.invokespecial 209, 3) := by decide +kernel
theorem dj42_139_38 : decode jdk_42_method_139_code 38 = .ok (.areturn, 1) := by decide +kernel
theorem dj43_3_0 : decode jdk_43_method_3_code 0 = .ok (.iload_n 0, 1) := by decide +kernel
theorem dj43_3_1 : decode jdk_43_method_3_code 1 = .ok (.sipush 255, 3) := by decide +kernel
theorem dj43_3_4 : decode jdk_43_method_3_code 4 = .ok (.if_icmp .gt 7, 3) := by decide +kernel
theorem dj43_3_7 : decode jdk_43_method_3_code 7 = .ok (.iconst 1, 1) := by decide +kernel
theorem dj43_3_8 : decode jdk_43_method_3_code 8 = .ok (.goto 4, 3) := by decide +kernel
theorem dj43_3_11 : decode jdk_43_method_3_code 11 = .ok (.iconst 0, 1) := by decide +kernel
theorem dj43_3_12 : decode jdk_43_method_3_code 12 = .ok (.ireturn, 1) := by decide +kernel
theorem dj43_46_0 : decode jdk_43_method_46_code 0 = .ok (.iconst 1, 1) := by decide +kernel
theorem dj43_46_1 : decode jdk_43_method_46_code 1 = .ok (.newarray .byte, 2) := by decide +kernel
theorem dj43_46_3 : decode jdk_43_method_46_code 3 = .ok (.dup, 1) := by decide +kernel
theorem dj43_46_4 : decode jdk_43_method_46_code 4 = .ok (.iconst 0, 1) := by decide +kernel
theorem dj43_46_5 : decode jdk_43_method_46_code 5 = .ok (.iload_n 0, 1) := by decide +kernel
theorem dj43_46_6 : decode jdk_43_method_46_code 6 = .ok (.i2b, 1) := by decide +kernel
theorem dj43_46_7 : decode jdk_43_method_46_code 7 = .ok (.bastore, 1) := by decide +kernel
theorem dj43_46_8 : decode jdk_43_method_46_code 8 = .ok (.areturn, 1) := by decide +kernel
theorem dj42_151_0 : decode jdk_42_method_151_code 0 = .ok (.aload_n 0, 1) := by decide +kernel
theorem dj42_151_1 : decode jdk_42_method_151_code 1 = .ok (.invokespecial 1, 3) := by decide +kernel
theorem dj42_151_4 : decode jdk_42_method_151_code 4 = .ok (.aload_n 0, 1) := by decide +kernel
theorem dj42_151_5 : decode jdk_42_method_151_code 5 = .ok (.aload_n 1, 1) := by decide +kernel
theorem dj42_151_6 : decode jdk_42_method_151_code 6 = .ok (.putfield 9, 3) := by decide +kernel
theorem dj42_151_9 : decode jdk_42_method_151_code 9 = .ok (.aload_n 0, 1) := by decide +kernel
theorem dj42_151_10 : decode jdk_42_method_151_code 10 = .ok (.iload_n 2, 1) := by decide +kernel
theorem dj42_151_11 : decode jdk_42_method_151_code 11 = .ok (.putfield 15, 3) := by decide +kernel
theorem dj42_151_14 : decode jdk_42_method_151_code 14 = .ok (.return_, 1) := by decide +kernel
theorem dj38_25_0 : decode jdk_38_method_25_code 0 = .ok (.aload_n 0, 1) := by decide +kernel
theorem dj38_25_1 : decode jdk_38_method_25_code 1 = .ok (.dup, 1) := by decide +kernel
theorem dj38_25_2 : decode jdk_38_method_25_code 2 = .ok (.getfield 63, 3) := by decide +kernel
theorem dj38_25_5 : decode jdk_38_method_25_code 5 = .ok (.iconst 1, 1) := by decide +kernel
theorem dj38_25_6 : decode jdk_38_method_25_code 6 = .ok (.iadd, 1) := by decide +kernel
theorem dj38_25_7 : decode jdk_38_method_25_code 7 = .ok (.putfield 63, 3) := by decide +kernel
theorem dj38_25_10 : decode jdk_38_method_25_code 10 = .ok (.aload_n 0, 1) := by decide +kernel
theorem dj38_25_11 : decode jdk_38_method_25_code 11 = .ok (.aload_n 1, 1) := by decide +kernel
theorem dj38_25_12 : decode jdk_38_method_25_code 12 = .ok (.aload_n 0, 1) := by decide +kernel
theorem dj38_25_13 : decode jdk_38_method_25_code 13 = .ok (.getfield 9, 3) := by decide +kernel
theorem dj38_25_16 : decode jdk_38_method_25_code 16 = .ok (.aload_n 0, 1) := by decide +kernel
theorem dj38_25_17 : decode jdk_38_method_25_code 17 = .ok (.getfield 48, 3) := by decide +kernel
theorem dj38_25_20 : decode jdk_38_method_25_code 20 = .ok (.invokevirtual 131, 3) := by decide +kernel
theorem dj38_25_23 : decode jdk_38_method_25_code 23 = .ok (.iconst 1, 1) := by decide +kernel
theorem dj38_25_24 : decode jdk_38_method_25_code 24 = .ok (.ireturn, 1) := by decide +kernel
theorem dj38_24_0 : decode jdk_38_method_24_code 0 = .ok (.iload_n 3, 1) := by decide +kernel
theorem dj38_24_1 : decode jdk_38_method_24_code 1 = .ok (.aload_n 2, 1) := by decide +kernel
theorem dj38_24_2 : decode jdk_38_method_24_code 2 = .ok (.arraylength, 1) := by decide +kernel
theorem dj38_24_3 : decode jdk_38_method_24_code 3 = .ok (.if_icmp .ne 8, 3) := by decide +kernel
theorem dj38_24_6 : decode jdk_38_method_24_code 6 = .ok (.aload_n 0, 1) := by decide +kernel
theorem dj38_24_7 : decode jdk_38_method_24_code 7 = .ok (.invokevirtual 129, 3) := by decide +kernel
theorem dj38_24_10 : decode jdk_38_method_24_code 10 = .ok (.astore_n 2, 1) := by decide +kernel
theorem dj38_24_11 : decode jdk_38_method_24_code 11 = .ok (.aload_n 2, 1) := by decide +kernel
theorem dj38_24_12 : decode jdk_38_method_24_code 12 = .ok (.iload_n 3, 1) := by decide +kernel
theorem dj38_24_13 : decode jdk_38_method_24_code 13 = .ok (.aload_n 1, 1) := by decide +kernel
theorem dj38_24_14 : decode jdk_38_method_24_code 14 = .ok (.aastore, 1) := by decide +kernel
theorem dj38_24_15 : decode jdk_38_method_24_code 15 = .ok (.aload_n 0, 1) := by decide +kernel
theorem dj38_24_16 : decode jdk_38_method_24_code 16 = .ok (.iload_n 3, 1) := by decide +kernel
theorem dj38_24_17 : decode jdk_38_method_24_code 17 = .ok (.iconst 1, 1) := by decide +kernel
theorem dj38_24_18 : decode jdk_38_method_24_code 18 = .ok (.iadd, 1) := by decide +kernel
theorem dj38_24_19 : decode jdk_38_method_24_code 19 = .ok (.putfield 48, 3) := by decide +kernel
theorem dj38_24_22 : decode jdk_38_method_24_code 22 = .ok (.return_, 1) := by decide +kernel
theorem dj38_7_0 : decode jdk_38_method_7_code 0 = .ok (.aload_n 0, 1) := by decide +kernel
theorem dj38_7_1 : decode jdk_38_method_7_code 1 = .ok (.aload_n 0, 1) := by decide +kernel
theorem dj38_7_2 : decode jdk_38_method_7_code 2 = .ok (.getfield 48, 3) := by decide +kernel
theorem dj38_7_5 : decode jdk_38_method_7_code 5 = .ok (.iconst 1, 1) := by decide +kernel
theorem dj38_7_6 : decode jdk_38_method_7_code 6 = .ok (.iadd, 1) := by decide +kernel
theorem dj38_7_7 : decode jdk_38_method_7_code 7 = .ok (.invokevirtual 69, 3) := by decide +kernel
theorem dj38_7_10 : decode jdk_38_method_7_code 10 = .ok (.areturn, 1) := by decide +kernel
theorem dj38_6_0 : decode jdk_38_method_6_code 0 = .ok (.aload_n 0, 1) := by decide +kernel
theorem dj38_6_1 : decode jdk_38_method_6_code 1 = .ok (.getfield 9, 3) := by decide +kernel
theorem dj38_6_4 : decode jdk_38_method_6_code 4 = .ok (.arraylength, 1) := by decide +kernel
theorem dj38_6_5 : decode jdk_38_method_6_code 5 = .ok (.istore_n 2, 1) := by decide +kernel
theorem dj38_6_6 : decode jdk_38_method_6_code 6 = .ok (.iload_n 2, 1) := by decide +kernel
theorem dj38_6_7 : decode jdk_38_method_6_code 7 = .ok (.ifCond .gt 13, 3) := by decide +kernel
theorem dj38_6_10 : decode jdk_38_method_6_code 10 = .ok (.aload_n 0, 1) := by decide +kernel
theorem dj38_6_11 : decode jdk_38_method_6_code 11 = .ok (.getfield 9, 3) := by decide +kernel
theorem dj38_6_14 : decode jdk_38_method_6_code 14 = .ok (.getstatic 39, 3) := by decide +kernel
theorem dj38_6_17 : decode jdk_38_method_6_code 17 = .ok (.if_acmp .eq 28, 3) := by decide +kernel
theorem dj38_6_20 : decode jdk_38_method_6_code 20 = .ok (.iload_n 2, 1) := by decide +kernel
theorem dj38_6_21 : decode jdk_38_method_6_code 21 = .ok (.iload_n 1, 1) := by decide +kernel
theorem dj38_6_22 : decode jdk_38_method_6_code 22 = .ok (.iload_n 2, 1) := by decide +kernel
theorem dj38_6_23 : decode jdk_38_method_6_code 23 = .ok (.isub, 1) := by decide +kernel
theorem dj38_6_24 : decode jdk_38_method_6_code 24 = .ok (.iload_n 2, 1) := by decide +kernel
theorem dj38_6_25 : decode jdk_38_method_6_code 25 = .ok (.iconst 1, 1) := by decide +kernel
theorem dj38_6_26 : decode jdk_38_method_6_code 26 = .ok (.ishr, 1) := by decide +kernel
theorem dj38_6_27 : decode jdk_38_method_6_code 27 = .ok (.invokestatic 73, 3) := by decide +kernel
theorem dj38_6_30 : decode jdk_38_method_6_code 30 = .ok (.istore_n 3, 1) := by decide +kernel
theorem dj38_6_31 : decode jdk_38_method_6_code 31 = .ok (.aload_n 0, 1) := by decide +kernel
theorem dj38_6_32 : decode jdk_38_method_6_code 32 = .ok (.aload_n 0, 1) := by decide +kernel
theorem dj38_6_33 : decode jdk_38_method_6_code 33 = .ok (.getfield 9, 3) := by decide +kernel
theorem dj38_6_36 : decode jdk_38_method_6_code 36 = .ok (.iload_n 3, 1) := by decide +kernel
theorem dj38_6_37 : decode jdk_38_method_6_code 37 = .ok (.invokestatic 66, 3) := by decide +kernel
theorem dj38_6_40 : decode jdk_38_method_6_code 40 = .ok (.dup_x1, 1) := by decide +kernel
theorem dj38_6_41 : decode jdk_38_method_6_code 41 = .ok (.putfield 9, 3) := by decide +kernel
theorem dj38_6_44 : decode jdk_38_method_6_code 44 = .ok (.areturn, 1) := by decide +kernel
theorem dj38_6_45 : decode jdk_38_method_6_code 45 = .ok (.aload_n 0, 1) := by decide +kernel
theorem dj38_6_46 : decode jdk_38_method_6_code 46 = .ok (.bipush 10, 2) := by decide +kernel
theorem dj38_6_48 : decode jdk_38_method_6_code 48 = .ok (.iload_n 1, 1) := by decide +kernel
theorem dj38_6_49 : decode jdk_38_method_6_code 49 = .ok (.invokestatic 79, 3) := by decide +kernel
theorem dj38_6_52 : decode jdk_38_method_6_code 52 = .ok (.anewarray 7, 3) := by decide +kernel
theorem dj38_6_55 : decode jdk_38_method_6_code 55 = .ok (.dup_x1, 1) := by decide +kernel
theorem dj38_6_56 : decode jdk_38_method_6_code 56 = .ok (.putfield 9, 3) := by decide +kernel
theorem dj38_6_59 : decode jdk_38_method_6_code 59 = .ok (.areturn, 1) := by decide +kernel
theorem dj29_65_0 : decode jdk_29_method_65_code 0 = .ok (.iload_n 0, 1) := by decide +kernel
theorem dj29_65_1 : decode jdk_29_method_65_code 1 = .ok (.iload_n 1, 1) := by decide +kernel
theorem dj29_65_2 : decode jdk_29_method_65_code 2 = .ok (.if_icmp .lt 7, 3) := by decide +kernel
theorem dj29_65_5 : decode jdk_29_method_65_code 5 = .ok (.iload_n 0, 1) := by decide +kernel
theorem dj29_65_6 : decode jdk_29_method_65_code 6 = .ok (.goto 4, 3) := by decide +kernel
theorem dj29_65_9 : decode jdk_29_method_65_code 9 = .ok (.iload_n 1, 1) := by decide +kernel
theorem dj29_65_10 : decode jdk_29_method_65_code 10 = .ok (.ireturn, 1) := by decide +kernel
theorem dj38_16_0 : decode jdk_38_method_16_code 0 = .ok (.aload_n 0, 1) := by decide +kernel
theorem dj38_16_1 : decode jdk_38_method_16_code 1 = .ok (.getfield 9, 3) := by decide +kernel
theorem dj38_16_4 : decode jdk_38_method_16_code 4 = .ok (.aload_n 0, 1) := by decide +kernel
theorem dj38_16_5 : decode jdk_38_method_16_code 5 = .ok (.getfield 48, 3) := by decide +kernel
theorem dj38_16_8 : decode jdk_38_method_16_code 8 = .ok (.invokestatic 66, 3) := by decide +kernel
theorem dj38_16_11 : decode jdk_38_method_16_code 11 = .ok (.areturn, 1) := by decide +kernel
theorem dj65_119_0 : decode jdk_65_method_119_code 0 = .ok (.aload_n 0, 1) := by decide +kernel
theorem dj65_119_1 : decode jdk_65_method_119_code 1 = .ok (.iload_n 1, 1) := by decide +kernel
theorem dj65_119_2 : decode jdk_65_method_119_code 2 = .ok (.aload_n 0, 1) := by decide +kernel
theorem dj65_119_3 : decode jdk_65_method_119_code 3 = .ok (.invokevirtual 86, 3) := by decide +kernel
theorem dj65_119_6 : decode jdk_65_method_119_code 6 = .ok (.invokestatic 300, 3) := by decide +kernel
theorem dj65_119_9 : decode jdk_65_method_119_code 9 = .ok (.areturn, 1) := by decide +kernel
theorem dj65_120_0 : decode jdk_65_method_120_code 0 = .ok (.aload_n 2, 1) := by decide +kernel
theorem dj65_120_1 : decode jdk_65_method_120_code 1 = .ok (.ldc 110, 2) := by decide +kernel
theorem dj65_120_3 : decode jdk_65_method_120_code 3 = .ok (.if_acmp .ne 10, 3) := by decide +kernel
theorem dj65_120_6 : decode jdk_65_method_120_code 6 = .ok (.iload_n 1, 1) := by decide +kernel
theorem dj65_120_7 : decode jdk_65_method_120_code 7 = .ok (.anewarray 2, 3) := by decide +kernel
theorem dj65_120_10 : decode jdk_65_method_120_code 10 = .ok (.goto 14, 3) := by decide +kernel
theorem dj65_120_13 : decode jdk_65_method_120_code 13 = .ok (.aload_n 2, 1) := by decide +kernel
theorem dj65_120_14 : decode jdk_65_method_120_code 14 = .ok (.invokevirtual 90, 3) := by decide +kernel
theorem dj65_120_17 : decode jdk_65_method_120_code 17 = .ok (.iload_n 1, 1) := by decide +kernel
theorem dj65_120_18 : decode jdk_65_method_120_code 18 = .ok (.invokestatic 95, 3) := by decide +kernel
theorem dj65_120_21 : decode jdk_65_method_120_code 21 = .ok (.checkcast 110, 3) := by decide +kernel
theorem dj65_120_24 : decode jdk_65_method_120_code 24 = .ok (.astore_n 3, 1) := by decide +kernel
theorem dj65_120_25 : decode jdk_65_method_120_code 25 = .ok (.aload_n 0, 1) := by decide +kernel
theorem dj65_120_26 : decode jdk_65_method_120_code 26 = .ok (.iconst 0, 1) := by decide +kernel
theorem dj65_120_27 : decode jdk_65_method_120_code 27 = .ok (.aload_n 3, 1) := by decide +kernel
theorem dj65_120_28 : decode jdk_65_method_120_code 28 = .ok (.iconst 0, 1) := by decide +kernel
theorem dj65_120_29 : decode jdk_65_method_120_code 29 = .ok (.aload_n 0, 1) := by decide +kernel
theorem dj65_120_30 : decode jdk_65_method_120_code 30 = .ok (.arraylength, 1) := by decide +kernel
theorem dj65_120_31 : decode jdk_65_method_120_code 31 = .ok (.iload_n 1, 1) := by decide +kernel
theorem dj65_120_32 : decode jdk_65_method_120_code 32 = .ok (.invokestatic 304, 3) := by decide +kernel
theorem dj65_120_35 : decode jdk_65_method_120_code 35 = .ok (.invokestatic 150, 3) := by decide +kernel
theorem dj65_120_38 : decode jdk_65_method_120_code 38 = .ok (.aload_n 3, 1) := by decide +kernel
theorem dj65_120_39 : decode jdk_65_method_120_code 39 = .ok (.areturn, 1) := by decide +kernel
theorem dj29_69_0 : decode jdk_29_method_69_code 0 = .ok (.iload_n 0, 1) := by decide +kernel
theorem dj29_69_1 : decode jdk_29_method_69_code 1 = .ok (.iload_n 1, 1) := by decide +kernel
theorem dj29_69_2 : decode jdk_29_method_69_code 2 = .ok (.if_icmp .gt 7, 3) := by decide +kernel
theorem dj29_69_5 : decode jdk_29_method_69_code 5 = .ok (.iload_n 0, 1) := by decide +kernel
theorem dj29_69_6 : decode jdk_29_method_69_code 6 = .ok (.goto 4, 3) := by decide +kernel
theorem dj29_69_9 : decode jdk_29_method_69_code 9 = .ok (.iload_n 1, 1) := by decide +kernel
theorem dj29_69_10 : decode jdk_29_method_69_code 10 = .ok (.ireturn, 1) := by decide +kernel
theorem dj40_47_0 : decode jdk_40_method_47_code 0 = .ok (.aload_n 0, 1) := by decide +kernel
theorem dj40_47_1 : decode jdk_40_method_47_code 1 = .ok (.arraylength, 1) := by decide +kernel
theorem dj40_47_2 : decode jdk_40_method_47_code 2 = .ok (.tableswitch 57 0 2 #[26, 32, 43], 26) := by decide +kernel
theorem dj40_47_28 : decode jdk_40_method_47_code 28 = .ok (.getstatic 90, 3) := by decide +kernel
theorem dj40_47_31 : decode jdk_40_method_47_code 31 = .ok (.astore_n 1, 1) := by decide +kernel
theorem dj40_47_32 : decode jdk_40_method_47_code 32 = .ok (.aload_n 1, 1) := by decide +kernel
theorem dj40_47_33 : decode jdk_40_method_47_code 33 = .ok (.areturn, 1) := by decide +kernel
theorem dj40_47_34 : decode jdk_40_method_47_code 34 = .ok (.new 96, 3) := by decide +kernel
theorem dj40_47_37 : decode jdk_40_method_47_code 37 = .ok (.dup, 1) := by decide +kernel
theorem dj40_47_38 : decode jdk_40_method_47_code 38 = .ok (.aload_n 0, 1) := by decide +kernel
theorem dj40_47_39 : decode jdk_40_method_47_code 39 = .ok (.iconst 0, 1) := by decide +kernel
theorem dj40_47_40 : decode jdk_40_method_47_code 40 = .ok (.aaload, 1) := by decide +kernel
theorem dj40_47_41 : decode jdk_40_method_47_code 41 = .ok (.invokespecial 98, 3) := by decide +kernel
theorem dj40_47_44 : decode jdk_40_method_47_code 44 = .ok (.areturn, 1) := by decide +kernel
theorem dj40_47_45 : decode jdk_40_method_47_code 45 = .ok (.new 96, 3) := by decide +kernel
theorem dj40_47_48 : decode jdk_40_method_47_code 48 = .ok (.dup, 1) := by decide +kernel
theorem dj40_47_49 : decode jdk_40_method_47_code 49 = .ok (.aload_n 0, 1) := by decide +kernel
theorem dj40_47_50 : decode jdk_40_method_47_code 50 = .ok (.iconst 0, 1) := by decide +kernel
theorem dj40_47_51 : decode jdk_40_method_47_code 51 = .ok (.aaload, 1) := by decide +kernel
theorem dj40_47_52 : decode jdk_40_method_47_code 52 = .ok (.aload_n 0, 1) := by decide +kernel
theorem dj40_47_53 : decode jdk_40_method_47_code 53 = .ok (.iconst 1, 1) := by decide +kernel
theorem dj40_47_54 : decode jdk_40_method_47_code 54 = .ok (.aaload, 1) := by decide +kernel
theorem dj40_47_55 : decode jdk_40_method_47_code 55 = .ok (.invokespecial 100, 3) := by decide +kernel
theorem dj40_47_58 : decode jdk_40_method_47_code 58 = .ok (.areturn, 1) := by decide +kernel
theorem dj40_47_59 : decode jdk_40_method_47_code 59 = .ok (.aload_n 0, 1) := by decide +kernel
theorem dj40_47_60 : decode jdk_40_method_47_code 60 = .ok (.invokestatic 109, 3) := by decide +kernel
theorem dj40_47_63 : decode jdk_40_method_47_code 63 = .ok (.areturn, 1) := by decide +kernel
theorem dj44_2_0 : decode jdk_44_method_2_code 0 = .ok (.aload_n 0, 1) := by decide +kernel
theorem dj44_2_1 : decode jdk_44_method_2_code 1 = .ok (.invokespecial 1, 3) := by decide +kernel
theorem dj44_2_4 : decode jdk_44_method_2_code 4 = .ok (.aload_n 0, 1) := by decide +kernel
theorem dj44_2_5 : decode jdk_44_method_2_code 5 = .ok (.aload_n 1, 1) := by decide +kernel
theorem dj44_2_6 : decode jdk_44_method_2_code 6 = .ok (.invokestatic 7, 3) := by decide +kernel
theorem dj44_2_9 : decode jdk_44_method_2_code 9 = .ok (.putfield 13, 3) := by decide +kernel
theorem dj44_2_12 : decode jdk_44_method_2_code 12 = .ok (.aload_n 0, 1) := by decide +kernel
theorem dj44_2_13 : decode jdk_44_method_2_code 13 = .ok (.aload_n 2, 1) := by decide +kernel
theorem dj44_2_14 : decode jdk_44_method_2_code 14 = .ok (.invokestatic 7, 3) := by decide +kernel
theorem dj44_2_17 : decode jdk_44_method_2_code 17 = .ok (.putfield 24, 3) := by decide +kernel
theorem dj44_2_20 : decode jdk_44_method_2_code 20 = .ok (.return_, 1) := by decide +kernel
theorem dj46_1_0 : decode jdk_46_method_1_code 0 = .ok (.aload_n 0, 1) := by decide +kernel
theorem dj46_1_1 : decode jdk_46_method_1_code 1 = .ok (.invokespecial 1, 3) := by decide +kernel
theorem dj46_1_4 : decode jdk_46_method_1_code 4 = .ok (.return_, 1) := by decide +kernel
theorem dj47_1_0 : decode jdk_47_method_1_code 0 = .ok (.aload_n 0, 1) := by decide +kernel
theorem dj47_1_1 : decode jdk_47_method_1_code 1 = .ok (.invokespecial 1, 3) := by decide +kernel
theorem dj47_1_4 : decode jdk_47_method_1_code 4 = .ok (.return_, 1) := by decide +kernel
theorem dj31_10_0 : decode jdk_31_method_10_code 0 = .ok (.aload_n 0, 1) := by decide +kernel
theorem dj31_10_1 : decode jdk_31_method_10_code 1 = .ok (.ifnonnull 11, 3) := by decide +kernel
theorem dj31_10_4 : decode jdk_31_method_10_code 4 = .ok (.new 84, 3) := by decide +kernel
theorem dj31_10_7 : decode jdk_31_method_10_code 7 = .ok (.dup, 1) := by decide +kernel
theorem dj31_10_8 : decode jdk_31_method_10_code 8 = .ok (.invokespecial 86, 3) := by decide +kernel
theorem dj31_10_11 : decode jdk_31_method_10_code 11 = .ok (.athrow, 1) := by decide +kernel
theorem dj31_10_12 : decode jdk_31_method_10_code 12 = .ok (.aload_n 0, 1) := by decide +kernel
theorem dj31_10_13 : decode jdk_31_method_10_code 13 = .ok (.areturn, 1) := by decide +kernel
theorem dj52_16_0 : decode jdk_52_method_16_code 0 = .ok (.iload_n 2, 1) := by decide +kernel
theorem dj52_16_1 : decode jdk_52_method_16_code 1 = .ok (.newarray .byte, 2) := by decide +kernel
theorem dj52_16_3 : decode jdk_52_method_16_code 3 = .ok (.astore_n 3, 1) := by decide +kernel
theorem dj52_16_4 : decode jdk_52_method_16_code 4 = .ok (.aload_n 0, 1) := by decide +kernel
theorem dj52_16_5 : decode jdk_52_method_16_code 5 = .ok (.iload_n 1, 1) := by decide +kernel
theorem dj52_16_6 : decode jdk_52_method_16_code 6 = .ok (.aload_n 3, 1) := by decide +kernel
theorem dj52_16_7 : decode jdk_52_method_16_code 7 = .ok (.iconst 0, 1) := by decide +kernel
theorem dj52_16_8 : decode jdk_52_method_16_code 8 = .ok (.iload_n 2, 1) := by decide +kernel
theorem dj52_16_9 : decode jdk_52_method_16_code 9 = .ok (.invokestatic 115, 3) := by decide +kernel
theorem dj52_16_12 : decode jdk_52_method_16_code 12 = .ok (.istore 4, 2) := by decide +kernel
theorem dj52_16_14 : decode jdk_52_method_16_code 14 = .ok (.iload 4, 2) := by decide +kernel
theorem dj52_16_16 : decode jdk_52_method_16_code 16 = .ok (.iload_n 2, 1) := by decide +kernel
theorem dj52_16_17 : decode jdk_52_method_16_code 17 = .ok (.if_icmp .eq 40, 3) := by decide +kernel
theorem dj52_16_20 : decode jdk_52_method_16_code 20 = .ok (.aload_n 0, 1) := by decide +kernel
theorem dj52_16_21 : decode jdk_52_method_16_code 21 = .ok (.iload_n 1, 1) := by decide +kernel
theorem dj52_16_22 : decode jdk_52_method_16_code 22 = .ok (.iload_n 2, 1) := by decide +kernel
theorem dj52_16_23 : decode jdk_52_method_16_code 23 = .ok (.invokestatic 119, 3) := by decide +kernel
theorem dj52_16_26 : decode jdk_52_method_16_code 26 = .ok (.astore 5, 2) := by decide +kernel
theorem dj52_16_28 : decode jdk_52_method_16_code 28 = .ok (.aload 5, 2) := by decide +kernel
theorem dj52_16_30 : decode jdk_52_method_16_code 30 = .ok (.iload 4, 2) := by decide +kernel
theorem dj52_16_32 : decode jdk_52_method_16_code 32 = .ok (.invokestatic 71, 3) := by decide +kernel
theorem dj52_16_35 : decode jdk_52_method_16_code 35 = .ok (.sipush 255, 3) := by decide +kernel
theorem dj52_16_38 : decode jdk_52_method_16_code 38 = .ok (.if_icmp .gt 16, 3) := by decide +kernel
theorem dj52_16_41 : decode jdk_52_method_16_code 41 = .ok (.aload 5, 2) := by decide +kernel
theorem dj52_16_43 : decode jdk_52_method_16_code 43 = .ok (.iconst 0, 1) := by decide +kernel
theorem dj52_16_44 : decode jdk_52_method_16_code 44 = .ok (.aload_n 3, 1) := by decide +kernel
theorem dj52_16_45 : decode jdk_52_method_16_code 45 = .ok (.iconst 0, 1) := by decide +kernel
theorem dj52_16_46 : decode jdk_52_method_16_code 46 = .ok (.iload_n 2, 1) := by decide +kernel
theorem dj52_16_47 : decode jdk_52_method_16_code 47 = .ok (.invokestatic 123, 3) := by decide +kernel
theorem dj52_16_50 : decode jdk_52_method_16_code 50 = .ok (.iload_n 2, 1) := by decide +kernel
theorem dj52_16_51 : decode jdk_52_method_16_code 51 = .ok (.if_icmp .eq 6, 3) := by decide +kernel
theorem dj52_16_54 : decode jdk_52_method_16_code 54 = .ok (.aload 5, 2) := by decide +kernel
theorem dj52_16_56 : decode jdk_52_method_16_code 56 = .ok (.areturn, 1) := by decide +kernel
theorem dj52_16_57 : decode jdk_52_method_16_code 57 = .ok (.aload_n 3, 1) := by decide +kernel
theorem dj52_16_58 : decode jdk_52_method_16_code 58 = .ok (.areturn, 1) := by decide +kernel
theorem dj52_21_0 : decode jdk_52_method_21_code 0 = .ok (.iconst 0, 1) := by decide +kernel
theorem dj52_21_1 : decode jdk_52_method_21_code 1 = .ok (.istore 5, 2) := by decide +kernel
theorem dj52_21_3 : decode jdk_52_method_21_code 3 = .ok (.iload 5, 2) := by decide +kernel
theorem dj52_21_5 : decode jdk_52_method_21_code 5 = .ok (.iload 4, 2) := by decide +kernel
theorem dj52_21_7 : decode jdk_52_method_21_code 7 = .ok (.if_icmp .ge 37, 3) := by decide +kernel
theorem dj52_21_10 : decode jdk_52_method_21_code 10 = .ok (.aload_n 0, 1) := by decide +kernel
theorem dj52_21_11 : decode jdk_52_method_21_code 11 = .ok (.iload_n 1, 1) := by decide +kernel
theorem dj52_21_12 : decode jdk_52_method_21_code 12 = .ok (.caload, 1) := by decide +kernel
theorem dj52_21_13 : decode jdk_52_method_21_code 13 = .ok (.istore 6, 2) := by decide +kernel
theorem dj52_21_15 : decode jdk_52_method_21_code 15 = .ok (.iload 6, 2) := by decide +kernel
theorem dj52_21_17 : decode jdk_52_method_21_code 17 = .ok (.sipush 255, 3) := by decide +kernel
theorem dj52_21_20 : decode jdk_52_method_21_code 20 = .ok (.if_icmp .le 6, 3) := by decide +kernel
theorem dj52_21_23 : decode jdk_52_method_21_code 23 = .ok (.iload 5, 2) := by decide +kernel
theorem dj52_21_25 : decode jdk_52_method_21_code 25 = .ok (.ireturn, 1) := by decide +kernel
theorem dj52_21_26 : decode jdk_52_method_21_code 26 = .ok (.aload_n 2, 1) := by decide +kernel
theorem dj52_21_27 : decode jdk_52_method_21_code 27 = .ok (.iload_n 3, 1) := by decide +kernel
theorem dj52_21_28 : decode jdk_52_method_21_code 28 = .ok (.iload 6, 2) := by decide +kernel
theorem dj52_21_30 : decode jdk_52_method_21_code 30 = .ok (.i2b, 1) := by decide +kernel
theorem dj52_21_31 : decode jdk_52_method_21_code 31 = .ok (.bastore, 1) := by decide +kernel
theorem dj52_21_32 : decode jdk_52_method_21_code 32 = .ok (.iinc 1 1, 3) := by decide +kernel
theorem dj52_21_35 : decode jdk_52_method_21_code 35 = .ok (.iinc 3 1, 3) := by decide +kernel
theorem dj52_21_38 : decode jdk_52_method_21_code 38 = .ok (.iinc 5 1, 3) := by decide +kernel
theorem dj52_21_41 : decode jdk_52_method_21_code 41 = .ok (.goto (-38), 3) := by decide +kernel
theorem dj52_21_44 : decode jdk_52_method_21_code 44 = .ok (.iload 4, 2) := by decide +kernel
theorem dj52_21_46 : decode jdk_52_method_21_code 46 = .ok (.ireturn, 1) := by decide +kernel
theorem dj52_15_0 : decode jdk_52_method_15_code 0 = .ok (.iload_n 1, 1) := by decide +kernel
theorem dj52_15_1 : decode jdk_52_method_15_code 1 = .ok (.aload_n 0, 1) := by decide +kernel
theorem dj52_15_2 : decode jdk_52_method_15_code 2 = .ok (.arraylength, 1) := by decide +kernel
theorem dj52_15_3 : decode jdk_52_method_15_code 3 = .ok (.isub, 1) := by decide +kernel
theorem dj52_15_4 : decode jdk_52_method_15_code 4 = .ok (.bipush 31, 2) := by decide +kernel
theorem dj52_15_6 : decode jdk_52_method_15_code 6 = .ok (.iushr, 1) := by decide +kernel
theorem dj52_15_7 : decode jdk_52_method_15_code 7 = .ok (.i2b, 1) := by decide +kernel
theorem dj52_15_8 : decode jdk_52_method_15_code 8 = .ok (.ireturn, 1) := by decide +kernel
theorem dj44_3_0 : decode jdk_44_method_3_code 0 = .ok (.aload_n 0, 1) := by decide +kernel
theorem dj44_3_1 : decode jdk_44_method_3_code 1 = .ok (.getfield 24, 3) := by decide +kernel
theorem dj44_3_4 : decode jdk_44_method_3_code 4 = .ok (.getstatic 19, 3) := by decide +kernel
theorem dj44_3_7 : decode jdk_44_method_3_code 7 = .ok (.if_acmp .eq 7, 3) := by decide +kernel
theorem dj44_3_10 : decode jdk_44_method_3_code 10 = .ok (.iconst 2, 1) := by decide +kernel
theorem dj44_3_11 : decode jdk_44_method_3_code 11 = .ok (.goto 4, 3) := by decide +kernel
theorem dj44_3_14 : decode jdk_44_method_3_code 14 = .ok (.iconst 1, 1) := by decide +kernel
theorem dj44_3_15 : decode jdk_44_method_3_code 15 = .ok (.ireturn, 1) := by decide +kernel
theorem dj44_5_0 : decode jdk_44_method_5_code 0 = .ok (.iload_n 1, 1) := by decide +kernel
theorem dj44_5_1 : decode jdk_44_method_5_code 1 = .ok (.ifCond .ne 8, 3) := by decide +kernel
theorem dj44_5_4 : decode jdk_44_method_5_code 4 = .ok (.aload_n 0, 1) := by decide +kernel
theorem dj44_5_5 : decode jdk_44_method_5_code 5 = .ok (.getfield 13, 3) := by decide +kernel
theorem dj44_5_8 : decode jdk_44_method_5_code 8 = .ok (.areturn, 1) := by decide +kernel
theorem dj44_5_9 : decode jdk_44_method_5_code 9 = .ok (.iload_n 1, 1) := by decide +kernel
theorem dj44_5_10 : decode jdk_44_method_5_code 10 = .ok (.iconst 1, 1) := by decide +kernel
theorem dj44_5_11 : decode jdk_44_method_5_code 11 = .ok (.if_icmp .ne 18, 3) := by decide +kernel
theorem dj44_5_14 : decode jdk_44_method_5_code 14 = .ok (.aload_n 0, 1) := by decide +kernel
theorem dj44_5_15 : decode jdk_44_method_5_code 15 = .ok (.getfield 24, 3) := by decide +kernel
theorem dj44_5_18 : decode jdk_44_method_5_code 18 = .ok (.getstatic 19, 3) := by decide +kernel
theorem dj44_5_21 : decode jdk_44_method_5_code 21 = .ok (.if_acmp .eq 8, 3) := by decide +kernel
theorem dj44_5_24 : decode jdk_44_method_5_code 24 = .ok (.aload_n 0, 1) := by decide +kernel
theorem dj44_5_25 : decode jdk_44_method_5_code 25 = .ok (.getfield 24, 3) := by decide +kernel
theorem dj44_5_28 : decode jdk_44_method_5_code 28 = .ok (.areturn, 1) := by decide +kernel
theorem dj44_5_29 : decode jdk_44_method_5_code 29 = .ok (.aload_n 0, 1) := by decide +kernel
theorem dj44_5_30 : decode jdk_44_method_5_code 30 = .ok (.iload_n 1, 1) := by decide +kernel
theorem dj44_5_31 : decode jdk_44_method_5_code 31 = .ok (.invokevirtual 27, 3) := by decide +kernel
theorem dj44_5_34 : decode jdk_44_method_5_code 34 = .ok (.athrow, 1) := by decide +kernel
theorem dj31_4_0 : decode jdk_31_method_4_code 0 = .ok (.aload_n 0, 1) := by decide +kernel
theorem dj31_4_1 : decode jdk_31_method_4_code 1 = .ok (.ifnull 10, 3) := by decide +kernel
theorem dj31_4_4 : decode jdk_31_method_4_code 4 = .ok (.aload_n 0, 1) := by decide +kernel
theorem dj31_4_5 : decode jdk_31_method_4_code 5 = .ok (.invokevirtual 24, 3) := by decide +kernel
theorem dj31_4_8 : decode jdk_31_method_4_code 8 = .ok (.goto 4, 3) := by decide +kernel
theorem dj31_4_11 : decode jdk_31_method_4_code 11 = .ok (.iconst 0, 1) := by decide +kernel
theorem dj31_4_12 : decode jdk_31_method_4_code 12 = .ok (.ireturn, 1) := by decide +kernel
theorem dj48_4_0 : decode jdk_48_method_4_code 0 = .ok (.iload 4, 2) := by decide +kernel
theorem dj48_4_2 : decode jdk_48_method_4_code 2 = .ok (.tableswitch 127 4 10 #[42, 55, 127, 127, 88, 101, 114], 42) := by decide +kernel
theorem dj48_4_44 : decode jdk_48_method_4_code 44 = .ok (.iload_n 3, 1) := by decide +kernel
theorem dj48_4_45 : decode jdk_48_method_4_code 45 = .ok (.aload_n 0, 1) := by decide +kernel
theorem dj48_4_46 : decode jdk_48_method_4_code 46 = .ok (.checkcast 60, 3) := by decide +kernel
theorem dj48_4_49 : decode jdk_48_method_4_code 49 = .ok (.iload_n 1, 1) := by decide +kernel
theorem dj48_4_50 : decode jdk_48_method_4_code 50 = .ok (.iload_n 2, 1) := by decide +kernel
theorem dj48_4_51 : decode jdk_48_method_4_code 51 = .ok (.invokestatic 62, 3) := by decide +kernel
theorem dj48_4_54 : decode jdk_48_method_4_code 54 = .ok (.goto 103, 3) := by decide +kernel
theorem dj48_4_57 : decode jdk_48_method_4_code 57 = .ok (.aload_n 0, 1) := by decide +kernel
theorem dj48_4_58 : decode jdk_48_method_4_code 58 = .ok (.instanceof 60, 3) := by decide +kernel
theorem dj48_4_61 : decode jdk_48_method_4_code 61 = .ok (.ifCond .eq 16, 3) := by decide +kernel
theorem dj48_4_64 : decode jdk_48_method_4_code 64 = .ok (.iload_n 3, 1) := by decide +kernel
theorem dj48_4_65 : decode jdk_48_method_4_code 65 = .ok (.aload_n 0, 1) := by decide +kernel
theorem dj48_4_66 : decode jdk_48_method_4_code 66 = .ok (.checkcast 60, 3) := by decide +kernel
theorem dj48_4_69 : decode jdk_48_method_4_code 69 = .ok (.iload_n 1, 1) := by decide +kernel
theorem dj48_4_70 : decode jdk_48_method_4_code 70 = .ok (.iload_n 2, 1) := by decide +kernel
theorem dj48_4_71 : decode jdk_48_method_4_code 71 = .ok (.invokestatic 66, 3) := by decide +kernel
theorem dj48_4_74 : decode jdk_48_method_4_code 74 = .ok (.goto 83, 3) := by decide +kernel
theorem dj48_4_77 : decode jdk_48_method_4_code 77 = .ok (.iload_n 3, 1) := by decide +kernel
theorem dj48_4_78 : decode jdk_48_method_4_code 78 = .ok (.aload_n 0, 1) := by decide +kernel
theorem dj48_4_79 : decode jdk_48_method_4_code 79 = .ok (.checkcast 69, 3) := by decide +kernel
theorem dj48_4_82 : decode jdk_48_method_4_code 82 = .ok (.iload_n 1, 1) := by decide +kernel
theorem dj48_4_83 : decode jdk_48_method_4_code 83 = .ok (.iload_n 2, 1) := by decide +kernel
theorem dj48_4_84 : decode jdk_48_method_4_code 84 = .ok (.invokestatic 71, 3) := by decide +kernel
theorem dj48_4_87 : decode jdk_48_method_4_code 87 = .ok (.goto 70, 3) := by decide +kernel
theorem dj48_4_90 : decode jdk_48_method_4_code 90 = .ok (.iload_n 3, 1) := by decide +kernel
theorem dj48_4_91 : decode jdk_48_method_4_code 91 = .ok (.aload_n 0, 1) := by decide +kernel
theorem dj48_4_92 : decode jdk_48_method_4_code 92 = .ok (.checkcast 60, 3) := by decide +kernel
theorem dj48_4_95 : decode jdk_48_method_4_code 95 = .ok (.iload_n 1, 1) := by decide +kernel
theorem dj48_4_96 : decode jdk_48_method_4_code 96 = .ok (.iload_n 2, 1) := by decide +kernel
theorem dj48_4_97 : decode jdk_48_method_4_code 97 = .ok (.invokestatic 75, 3) := by decide +kernel
theorem dj48_4_100 : decode jdk_48_method_4_code 100 = .ok (.goto 57, 3) := by decide +kernel
theorem dj48_4_103 : decode jdk_48_method_4_code 103 = .ok (.iload_n 3, 1) := by decide +kernel
theorem dj48_4_104 : decode jdk_48_method_4_code 104 = .ok (.aload_n 0, 1) := by decide +kernel
theorem dj48_4_105 : decode jdk_48_method_4_code 105 = .ok (.checkcast 77, 3) := by decide +kernel
theorem dj48_4_108 : decode jdk_48_method_4_code 108 = .ok (.iload_n 1, 1) := by decide +kernel
theorem dj48_4_109 : decode jdk_48_method_4_code 109 = .ok (.iload_n 2, 1) := by decide +kernel
theorem dj48_4_110 : decode jdk_48_method_4_code 110 = .ok (.invokestatic 79, 3) := by decide +kernel
theorem dj48_4_113 : decode jdk_48_method_4_code 113 = .ok (.goto 44, 3) := by decide +kernel
theorem dj48_4_116 : decode jdk_48_method_4_code 116 = .ok (.iload_n 3, 1) := by decide +kernel
theorem dj48_4_117 : decode jdk_48_method_4_code 117 = .ok (.aload_n 0, 1) := by decide +kernel
theorem dj48_4_118 : decode jdk_48_method_4_code 118 = .ok (.checkcast 82, 3) := by decide +kernel
theorem dj48_4_121 : decode jdk_48_method_4_code 121 = .ok (.iload_n 1, 1) := by decide +kernel
theorem dj48_4_122 : decode jdk_48_method_4_code 122 = .ok (.iload_n 2, 1) := by decide +kernel
theorem dj48_4_123 : decode jdk_48_method_4_code 123 = .ok (.invokestatic 84, 3) := by decide +kernel
theorem dj48_4_126 : decode jdk_48_method_4_code 126 = .ok (.goto 31, 3) := by decide +kernel
theorem dj48_4_129 : decode jdk_48_method_4_code 129 = .ok (.new 87, 3) := by decide +kernel
theorem dj48_4_132 : decode jdk_48_method_4_code 132 = .ok (.dup, 1) := by decide +kernel
theorem dj48_4_133 : decode jdk_48_method_4_code 133 = .ok (.new 89, 3) := by decide +kernel
theorem dj48_4_136 : decode jdk_48_method_4_code 136 = .ok (.dup, 1) := by decide +kernel
theorem dj48_4_137 : decode jdk_48_method_4_code 137 = .ok (.invokespecial 91, 3) := by decide +kernel
theorem dj48_4_140 : decode jdk_48_method_4_code 140 = .ok (.ldc 92, 2) := by decide +kernel
theorem dj48_4_142 : decode jdk_48_method_4_code 142 = .ok (.invokevirtual 94, 3) := by decide +kernel
theorem dj48_4_145 : decode jdk_48_method_4_code 145 = .ok (.iload 4, 2) := by decide +kernel
theorem dj48_4_147 : decode jdk_48_method_4_code 147 = .ok (.invokevirtual 98, 3) := by decide +kernel
theorem dj48_4_150 : decode jdk_48_method_4_code 150 = .ok (.invokevirtual 101, 3) := by decide +kernel
theorem dj48_4_153 : decode jdk_48_method_4_code 153 = .ok (.invokespecial 105, 3) := by decide +kernel
theorem dj48_4_156 : decode jdk_48_method_4_code 156 = .ok (.athrow, 1) := by decide +kernel
theorem dj48_4_157 : decode jdk_48_method_4_code 157 = .ok (.ireturn, 1) := by decide +kernel
theorem dj48_5_0 : decode jdk_48_method_5_code 0 = .ok (.iload_n 2, 1) := by decide +kernel
theorem dj48_5_1 : decode jdk_48_method_5_code 1 = .ok (.iload_n 3, 1) := by decide +kernel
theorem dj48_5_2 : decode jdk_48_method_5_code 2 = .ok (.iadd, 1) := by decide +kernel
theorem dj48_5_3 : decode jdk_48_method_5_code 3 = .ok (.istore 4, 2) := by decide +kernel
theorem dj48_5_5 : decode jdk_48_method_5_code 5 = .ok (.iload_n 2, 1) := by decide +kernel
theorem dj48_5_6 : decode jdk_48_method_5_code 6 = .ok (.istore 5, 2) := by decide +kernel
theorem dj48_5_8 : decode jdk_48_method_5_code 8 = .ok (.iload 5, 2) := by decide +kernel
theorem dj48_5_10 : decode jdk_48_method_5_code 10 = .ok (.iload 4, 2) := by decide +kernel
theorem dj48_5_12 : decode jdk_48_method_5_code 12 = .ok (.if_icmp .ge 23, 3) := by decide +kernel
theorem dj48_5_15 : decode jdk_48_method_5_code 15 = .ok (.bipush 31, 2) := by decide +kernel
theorem dj48_5_17 : decode jdk_48_method_5_code 17 = .ok (.iload_n 0, 1) := by decide +kernel
theorem dj48_5_18 : decode jdk_48_method_5_code 18 = .ok (.imul, 1) := by decide +kernel
theorem dj48_5_19 : decode jdk_48_method_5_code 19 = .ok (.aload_n 1, 1) := by decide +kernel
theorem dj48_5_20 : decode jdk_48_method_5_code 20 = .ok (.iload 5, 2) := by decide +kernel
theorem dj48_5_22 : decode jdk_48_method_5_code 22 = .ok (.baload, 1) := by decide +kernel
theorem dj48_5_23 : decode jdk_48_method_5_code 23 = .ok (.sipush 255, 3) := by decide +kernel
theorem dj48_5_26 : decode jdk_48_method_5_code 26 = .ok (.iand, 1) := by decide +kernel
theorem dj48_5_27 : decode jdk_48_method_5_code 27 = .ok (.iadd, 1) := by decide +kernel
theorem dj48_5_28 : decode jdk_48_method_5_code 28 = .ok (.istore_n 0, 1) := by decide +kernel
theorem dj48_5_29 : decode jdk_48_method_5_code 29 = .ok (.iinc 5 1, 3) := by decide +kernel
theorem dj48_5_32 : decode jdk_48_method_5_code 32 = .ok (.goto (-24), 3) := by decide +kernel
theorem dj48_5_35 : decode jdk_48_method_5_code 35 = .ok (.iload_n 0, 1) := by decide +kernel
theorem dj48_5_36 : decode jdk_48_method_5_code 36 = .ok (.ireturn, 1) := by decide +kernel
theorem dj46_10_0 : decode jdk_46_method_10_code 0 = .ok (.new 61, 3) := by decide +kernel
theorem dj46_10_3 : decode jdk_46_method_10_code 3 = .ok (.dup, 1) := by decide +kernel
theorem dj46_10_4 : decode jdk_46_method_10_code 4 = .ok (.aload_n 0, 1) := by decide +kernel
theorem dj46_10_5 : decode jdk_46_method_10_code 5 = .ok (.aload_n 0, 1) := by decide +kernel
theorem dj46_10_6 : decode jdk_46_method_10_code 6 = .ok (.invokevirtual 13, 3) := by decide +kernel
theorem dj46_10_9 : decode jdk_46_method_10_code 9 = .ok (.invokespecial 63, 3) := by decide +kernel
theorem dj46_10_12 : decode jdk_46_method_10_code 12 = .ok (.areturn, 1) := by decide +kernel
theorem dj53_1_0 : decode jdk_53_method_1_code 0 = .ok (.aload_n 0, 1) := by decide +kernel
theorem dj53_1_1 : decode jdk_53_method_1_code 1 = .ok (.invokespecial 1, 3) := by decide +kernel
theorem dj53_1_4 : decode jdk_53_method_1_code 4 = .ok (.aload_n 0, 1) := by decide +kernel
theorem dj53_1_5 : decode jdk_53_method_1_code 5 = .ok (.aload_n 1, 1) := by decide +kernel
theorem dj53_1_6 : decode jdk_53_method_1_code 6 = .ok (.putfield 7, 3) := by decide +kernel
theorem dj53_1_9 : decode jdk_53_method_1_code 9 = .ok (.aload_n 0, 1) := by decide +kernel
theorem dj53_1_10 : decode jdk_53_method_1_code 10 = .ok (.iload_n 2, 1) := by decide +kernel
theorem dj53_1_11 : decode jdk_53_method_1_code 11 = .ok (.putfield 13, 3) := by decide +kernel
theorem dj53_1_14 : decode jdk_53_method_1_code 14 = .ok (.aload_n 0, 1) := by decide +kernel
theorem dj53_1_15 : decode jdk_53_method_1_code 15 = .ok (.iconst 0, 1) := by decide +kernel
theorem dj53_1_16 : decode jdk_53_method_1_code 16 = .ok (.putfield 17, 3) := by decide +kernel
theorem dj53_1_19 : decode jdk_53_method_1_code 19 = .ok (.aload_n 0, 1) := by decide +kernel
theorem dj53_1_20 : decode jdk_53_method_1_code 20 = .ok (.iconst 0, 1) := by decide +kernel
theorem dj53_1_21 : decode jdk_53_method_1_code 21 = .ok (.putfield 20, 3) := by decide +kernel
theorem dj53_1_24 : decode jdk_53_method_1_code 24 = .ok (.return_, 1) := by decide +kernel
theorem dj53_3_0 : decode jdk_53_method_3_code 0 = .ok (.aload_n 0, 1) := by decide +kernel
theorem dj53_3_1 : decode jdk_53_method_3_code 1 = .ok (.getfield 17, 3) := by decide +kernel
theorem dj53_3_4 : decode jdk_53_method_3_code 4 = .ok (.aload_n 0, 1) := by decide +kernel
theorem dj53_3_5 : decode jdk_53_method_3_code 5 = .ok (.getfield 13, 3) := by decide +kernel
theorem dj53_3_8 : decode jdk_53_method_3_code 8 = .ok (.if_icmp .eq 7, 3) := by decide +kernel
theorem dj53_3_11 : decode jdk_53_method_3_code 11 = .ok (.iconst 1, 1) := by decide +kernel
theorem dj53_3_12 : decode jdk_53_method_3_code 12 = .ok (.goto 4, 3) := by decide +kernel
theorem dj53_3_15 : decode jdk_53_method_3_code 15 = .ok (.iconst 0, 1) := by decide +kernel
theorem dj53_3_16 : decode jdk_53_method_3_code 16 = .ok (.ireturn, 1) := by decide +kernel
theorem dj44_1_0 : decode jdk_44_method_1_code 0 = .ok (.aload_n 0, 1) := by decide +kernel
theorem dj44_1_1 : decode jdk_44_method_1_code 1 = .ok (.invokespecial 1, 3) := by decide +kernel
theorem dj44_1_4 : decode jdk_44_method_1_code 4 = .ok (.aload_n 0, 1) := by decide +kernel
theorem dj44_1_5 : decode jdk_44_method_1_code 5 = .ok (.aload_n 1, 1) := by decide +kernel
theorem dj44_1_6 : decode jdk_44_method_1_code 6 = .ok (.invokestatic 7, 3) := by decide +kernel
theorem dj44_1_9 : decode jdk_44_method_1_code 9 = .ok (.putfield 13, 3) := by decide +kernel
theorem dj44_1_12 : decode jdk_44_method_1_code 12 = .ok (.aload_n 0, 1) := by decide +kernel
theorem dj44_1_13 : decode jdk_44_method_1_code 13 = .ok (.getstatic 19, 3) := by decide +kernel
theorem dj44_1_16 : decode jdk_44_method_1_code 16 = .ok (.putfield 24, 3) := by decide +kernel
theorem dj44_1_19 : decode jdk_44_method_1_code 19 = .ok (.return_, 1) := by decide +kernel
theorem dj53_4_0 : decode jdk_53_method_4_code 0 = .ok (.aload_n 0, 1) := by decide +kernel
theorem dj53_4_1 : decode jdk_53_method_4_code 1 = .ok (.getfield 17, 3) := by decide +kernel
theorem dj53_4_4 : decode jdk_53_method_4_code 4 = .ok (.istore_n 1, 1) := by decide +kernel
theorem dj53_4_5 : decode jdk_53_method_4_code 5 = .ok (.aload_n 0, 1) := by decide +kernel
theorem dj53_4_6 : decode jdk_53_method_4_code 6 = .ok (.getfield 7, 3) := by decide +kernel
theorem dj53_4_9 : decode jdk_53_method_4_code 9 = .ok (.iload_n 1, 1) := by decide +kernel
theorem dj53_4_10 : decode jdk_53_method_4_code 10 = .ok (.invokeinterface 24 2, 5) := by decide +kernel
theorem dj53_4_15 : decode jdk_53_method_4_code 15 = .ok (.astore_n 2, 1) := by decide +kernel
theorem dj53_4_16 : decode jdk_53_method_4_code 16 = .ok (.aload_n 0, 1) := by decide +kernel
theorem dj53_4_17 : decode jdk_53_method_4_code 17 = .ok (.iload_n 1, 1) := by decide +kernel
theorem dj53_4_18 : decode jdk_53_method_4_code 18 = .ok (.iconst 1, 1) := by decide +kernel
theorem dj53_4_19 : decode jdk_53_method_4_code 19 = .ok (.iadd, 1) := by decide +kernel
theorem dj53_4_20 : decode jdk_53_method_4_code 20 = .ok (.putfield 17, 3) := by decide +kernel
theorem dj53_4_23 : decode jdk_53_method_4_code 23 = .ok (.aload_n 2, 1) := by decide +kernel
theorem dj53_4_24 : decode jdk_53_method_4_code 24 = .ok (.areturn, 1) := by decide +kernel
theorem dj53_4_25 : decode jdk_53_method_4_code 25 = .ok (.astore_n 1, 1) := by decide +kernel
theorem dj53_4_26 : decode jdk_53_method_4_code 26 = .ok (.new 32, 3) := by decide +kernel
theorem dj53_4_29 : decode jdk_53_method_4_code 29 = .ok (.dup, 1) := by decide +kernel
theorem dj53_4_30 : decode jdk_53_method_4_code 30 = .ok (.invokespecial 34, 3) := by decide +kernel
theorem dj53_4_33 : decode jdk_53_method_4_code 33 = .ok (.athrow, 1) := by decide +kernel
theorem dj31_2_0 : decode jdk_31_method_2_code 0 = .ok (.aload_n 0, 1) := by decide +kernel
theorem dj31_2_1 : decode jdk_31_method_2_code 1 = .ok (.aload_n 1, 1) := by decide +kernel
theorem dj31_2_2 : decode jdk_31_method_2_code 2 = .ok (.if_acmp .eq 15, 3) := by decide +kernel
theorem dj31_2_5 : decode jdk_31_method_2_code 5 = .ok (.aload_n 0, 1) := by decide +kernel
theorem dj31_2_6 : decode jdk_31_method_2_code 6 = .ok (.ifnull 15, 3) := by decide +kernel
theorem dj31_2_9 : decode jdk_31_method_2_code 9 = .ok (.aload_n 0, 1) := by decide +kernel
theorem dj31_2_10 : decode jdk_31_method_2_code 10 = .ok (.aload_n 1, 1) := by decide +kernel
theorem dj31_2_11 : decode jdk_31_method_2_code 11 = .ok (.invokevirtual 14, 3) := by decide +kernel
theorem dj31_2_14 : decode jdk_31_method_2_code 14 = .ok (.ifCond .eq 7, 3) := by decide +kernel
theorem dj31_2_17 : decode jdk_31_method_2_code 17 = .ok (.iconst 1, 1) := by decide +kernel
theorem dj31_2_18 : decode jdk_31_method_2_code 18 = .ok (.goto 4, 3) := by decide +kernel
theorem dj31_2_21 : decode jdk_31_method_2_code 21 = .ok (.iconst 0, 1) := by decide +kernel
theorem dj31_2_22 : decode jdk_31_method_2_code 22 = .ok (.ireturn, 1) := by decide +kernel
theorem pd_lIIrLcomexamplesimple_rocchiosimplerocchioCollectionDocumentSText : parseMethodDescriptor "(II)Lcom/example/simple_rocchio/simplerocchio/CollectionDocument$Text;" = some ⟨[.int, .int], some (.object "com/example/simple_rocchio/simplerocchio/CollectionDocument$Text")⟩ := by decide +kernel
theorem pd_lIIrLjavalangString : parseMethodDescriptor "(II)Ljava/lang/String;" = some ⟨[.int, .int], some (.object "java/lang/String")⟩ := by decide +kernel
theorem pd_lACrV : parseMethodDescriptor "([C)V" = some ⟨[(.array .char)], none⟩ := by decide +kernel
theorem pd_lACIILjavalangVoidrV : parseMethodDescriptor "([CIILjava/lang/Void;)V" = some ⟨[(.array .char), .int, .int, (.object "java/lang/Void")], none⟩ := by decide +kernel
theorem pd_lrV : parseMethodDescriptor "()V" = some ⟨[], none⟩ := by decide +kernel
theorem pd_lIrLjavautilList : parseMethodDescriptor "(I)Ljava/util/List;" = some ⟨[.int], some (.object "java/util/List")⟩ := by decide +kernel
theorem pd_lLjavalangStringLjavautilListrV : parseMethodDescriptor "(Ljava/lang/String;Ljava/util/List;)V" = some ⟨[(.object "java/lang/String"), (.object "java/util/List")], none⟩ := by decide +kernel
theorem pd_lLjavautilCollectionrLjavautilList : parseMethodDescriptor "(Ljava/util/Collection;)Ljava/util/List;" = some ⟨[(.object "java/util/Collection")], some (.object "java/util/List")⟩ := by decide +kernel
theorem pd_lrZ : parseMethodDescriptor "()Z" = some ⟨[], some .boolean⟩ := by decide +kernel
theorem pd_lrLjavautilList : parseMethodDescriptor "()Ljava/util/List;" = some ⟨[], some (.object "java/util/List")⟩ := by decide +kernel
theorem pd_lLjavalangObjectrZ : parseMethodDescriptor "(Ljava/lang/Object;)Z" = some ⟨[(.object "java/lang/Object")], some .boolean⟩ := by decide +kernel
theorem pd_lABABrZ : parseMethodDescriptor "([B[B)Z" = some ⟨[(.array .byte), (.array .byte)], some .boolean⟩ := by decide +kernel
theorem pd_lrI : parseMethodDescriptor "()I" = some ⟨[], some .int⟩ := by decide +kernel
theorem pd_lALjavalangObjectrI : parseMethodDescriptor "([Ljava/lang/Object;)I" = some ⟨[(.array (.object "java/lang/Object"))], some .int⟩ := by decide +kernel
theorem pd_lABrI : parseMethodDescriptor "([B)I" = some ⟨[(.array .byte)], some .int⟩ := by decide +kernel
theorem pd_lCrLjavalangString : parseMethodDescriptor "(C)Ljava/lang/String;" = some ⟨[.char], some (.object "java/lang/String")⟩ := by decide +kernel
theorem pd_lCrZ : parseMethodDescriptor "(C)Z" = some ⟨[.char], some .boolean⟩ := by decide +kernel
theorem pd_lCrAB : parseMethodDescriptor "(C)[B" = some ⟨[.char], some (.array .byte)⟩ := by decide +kernel
theorem pd_lABBrV : parseMethodDescriptor "([BB)V" = some ⟨[(.array .byte), .byte], none⟩ := by decide +kernel
theorem pd_lLjavalangObjectALjavalangObjectIrV : parseMethodDescriptor "(Ljava/lang/Object;[Ljava/lang/Object;I)V" = some ⟨[(.object "java/lang/Object"), (.array (.object "java/lang/Object")), .int], none⟩ := by decide +kernel
theorem pd_lrALjavalangObject : parseMethodDescriptor "()[Ljava/lang/Object;" = some ⟨[], some (.array (.object "java/lang/Object"))⟩ := by decide +kernel
theorem pd_lIrALjavalangObject : parseMethodDescriptor "(I)[Ljava/lang/Object;" = some ⟨[.int], some (.array (.object "java/lang/Object"))⟩ := by decide +kernel
theorem pd_lIIrI : parseMethodDescriptor "(II)I" = some ⟨[.int, .int], some .int⟩ := by decide +kernel
theorem pd_lALjavalangObjectIrALjavalangObject : parseMethodDescriptor "([Ljava/lang/Object;I)[Ljava/lang/Object;" = some ⟨[(.array (.object "java/lang/Object")), .int], some (.array (.object "java/lang/Object"))⟩ := by decide +kernel
theorem pd_lrLjavalangClass : parseMethodDescriptor "()Ljava/lang/Class;" = some ⟨[], some (.object "java/lang/Class")⟩ := by decide +kernel
theorem pd_lALjavalangObjectILjavalangClassrALjavalangObject : parseMethodDescriptor "([Ljava/lang/Object;ILjava/lang/Class;)[Ljava/lang/Object;" = some ⟨[(.array (.object "java/lang/Object")), .int, (.object "java/lang/Class")], some (.array (.object "java/lang/Object"))⟩ := by decide +kernel
theorem pd_lLjavalangObjectILjavalangObjectIIrV : parseMethodDescriptor "(Ljava/lang/Object;ILjava/lang/Object;II)V" = some ⟨[(.object "java/lang/Object"), .int, (.object "java/lang/Object"), .int, .int], none⟩ := by decide +kernel
theorem pd_lALjavalangObjectrLjavautilList : parseMethodDescriptor "([Ljava/lang/Object;)Ljava/util/List;" = some ⟨[(.array (.object "java/lang/Object"))], some (.object "java/util/List")⟩ := by decide +kernel
theorem pd_lLjavalangObjectLjavalangObjectrV : parseMethodDescriptor "(Ljava/lang/Object;Ljava/lang/Object;)V" = some ⟨[(.object "java/lang/Object"), (.object "java/lang/Object")], none⟩ := by decide +kernel
theorem pd_lLjavalangObjectrLjavalangObject : parseMethodDescriptor "(Ljava/lang/Object;)Ljava/lang/Object;" = some ⟨[(.object "java/lang/Object")], some (.object "java/lang/Object")⟩ := by decide +kernel
theorem pd_lACIIrAB : parseMethodDescriptor "([CII)[B" = some ⟨[(.array .char), .int, .int], some (.array .byte)⟩ := by decide +kernel
theorem pd_lACIABIIrI : parseMethodDescriptor "([CI[BII)I" = some ⟨[(.array .char), .int, (.array .byte), .int, .int], some .int⟩ := by decide +kernel
theorem pd_lABIrB : parseMethodDescriptor "([BI)B" = some ⟨[(.array .byte), .int], some .byte⟩ := by decide +kernel
theorem pd_lIrLjavalangObject : parseMethodDescriptor "(I)Ljava/lang/Object;" = some ⟨[.int], some (.object "java/lang/Object")⟩ := by decide +kernel
theorem pd_lLjavalangObjectrI : parseMethodDescriptor "(Ljava/lang/Object;)I" = some ⟨[(.object "java/lang/Object")], some .int⟩ := by decide +kernel
theorem pd_lLjavalangObjectIIIIrI : parseMethodDescriptor "(Ljava/lang/Object;IIII)I" = some ⟨[(.object "java/lang/Object"), .int, .int, .int, .int], some .int⟩ := by decide +kernel
theorem pd_lIABIIrI : parseMethodDescriptor "(I[BII)I" = some ⟨[.int, (.array .byte), .int, .int], some .int⟩ := by decide +kernel
theorem pd_lrLjavautilIterator : parseMethodDescriptor "()Ljava/util/Iterator;" = some ⟨[], some (.object "java/util/Iterator")⟩ := by decide +kernel
theorem pd_lLjavautilListIrV : parseMethodDescriptor "(Ljava/util/List;I)V" = some ⟨[(.object "java/util/List"), .int], none⟩ := by decide +kernel
theorem pd_lLjavalangObjectrV : parseMethodDescriptor "(Ljava/lang/Object;)V" = some ⟨[(.object "java/lang/Object")], none⟩ := by decide +kernel
theorem pd_lrLjavalangObject : parseMethodDescriptor "()Ljava/lang/Object;" = some ⟨[], some (.object "java/lang/Object")⟩ := by decide +kernel
theorem pd_lLjavalangObjectLjavalangObjectrZ : parseMethodDescriptor "(Ljava/lang/Object;Ljava/lang/Object;)Z" = some ⟨[(.object "java/lang/Object"), (.object "java/lang/Object")], some .boolean⟩ := by decide +kernel
open Own
set_option maxHeartbeats 40000000
set_option maxRecDepth 65536
theorem own_new {a0 : Array Value} {Z : State} (hw : ∀ d ∈ tables_1, d.before a0 Z = true) : ∀ d ∈ StrChars.Road.words, d.before a0 Z = true := fun d hd => hw d ((by decide +kernel : ∀ d ∈ StrChars.Road.words, d ∈ tables_1) d hd)
theorem own_eq {a0 : Array Value} {Z : State} (hw : ∀ d ∈ tables_1, d.before a0 Z = true) : ∀ d ∈ StrChars.Road.wordsEq, d.before a0 Z = true := fun d hd => hw d ((by decide +kernel : ∀ d ∈ StrChars.Road.wordsEq, d ∈ tables_1) d hd)
/-! new String(new char[0]), walked: the constant "" is loaded twice -/
section New0
variable {l : Launch} {R : Room} {Z : State} {a0 : Array Value} {EL : List (String × Nat)} {h : Heap} {W : Nat}
abbrev yI4 : MethodName := ⟨"java/lang/String", "<init>", "([CIILjava/lang/Void;)V"⟩
abbrev yI1 : MethodName := ⟨"java/lang/String", "<init>", "([C)V"⟩
theorem own_atoms (hw : ∀ d ∈ tables_1, d.before a0 Z = true) : ∀ a ∈ Bundle.stringAtoms, a.before a0 Z = true := fun d hd => hw d ((by decide +kernel : ∀ d ∈ Bundle.stringAtoms, d ∈ tables_1) d hd)
theorem met_I4z (hw : ∀ d ∈ tables_1, d.before a0 Z = true) (hm : ("java/lang/String", 7) ∈ EL) {x b : Addr} {v0 c0 : Value} (hx : Z.heap.size ≤ x) (E : Exa Z h x "java/lang/String") (V : Fld Z h x "java/lang/String" "value" "[B" v0) (C : Fld Z h x "java/lang/String" "coder" "B" c0) :
    MetW [] l yI4 jdk_42_method_149_code 6 none (Rm 1 4 8 12) #[.ref x, .ref b, .int 0, .int 0, .null] Z a0 EL false [x] h (fun v h' => v = none ∧ Keep h h' [x] ∧ Str Z h' x []) := by
  refine MetW.of (plainFor_of_name (by first | (simp [plainName, overriddenIn]; done) | decide +kernel)) fun X hX => ?_
  show Go X _ _ _ _ _ _ _ _ _ _ _ _ _ _ _ _ (mkF X.m 0 #[.val (.ref x), .val (.ref b), .val (.int 0), .val (.int 0), .val .null, .unset] [])
  have ne : RoadKit.slotOf Z "java/lang/String" "coder" "B" ≠ RoadKit.slotOf Z "java/lang/String" "value" "[B" := slot_ne (Or.inr (wy_String_String_coder hw)) (Or.inr (wy_String_String_value hw)) (by decide) (t := .byte) (t' := .array .byte) (by decide) (by decide)
  refine g_aloadN (pc' := 1) dj42_149_0 rfl rfl rfl ?_
  refine g_objinit (pc' := 4) dj42_149_1 rfl (wl_String_1 hw) (wm_Object_init_lrV hw) (wb_Object_init_lrV hw) rfl rfl rfl ?_
  refine g_iloadN (pc' := 5) dj42_149_4 rfl rfl ?_
  refine g_ifne (pc' := 8) (pc2 := 27) dj42_149_5 rfl (by decide) rfl (fun c5 => ?_) (fun c5 => absurd rfl c5)
  refine g_aloadN (pc' := 9) dj42_149_8 rfl rfl rfl ?_
  refine g_lit (pc' := 11) rfl [] 0 dj42_149_9 rfl (wt_String_7 hw) (own_atoms hw) hm ⟨by decide, rfl⟩ (by decide) (by decide) (by decide) rfl rfl rfl rfl rfl fun h9 a9 E9 T9 n9 => ?_
  have hxa9 : x ≠ a9 := n9 x (List.mem_cons_self ..)
  obtain ⟨t, kb, N2, vs, V9, C9, A9, hcod, -, -⟩ := T9.lat (fun c hc => nomatch hc)
  refine g_getfield (pc' := 14) dj42_149_11 rfl (wf_String_9 hw) V9 ?_
  refine g_putfield (pc' := 17) dj42_149_14 rfl (wf_String_9 hw) (V.ext E9) (E.ext E9) (Or.inr ⟨wy_String_String_value hw, rfl, rfl⟩) (wn_String hw) (ty := .array .byte) (by decide) rfl rfl hx (List.mem_cons_self ..) fun h14 W14 => ?_
  refine g_aloadN (pc' := 18) dj42_149_17 rfl rfl rfl ?_
  refine g_lit (pc' := 20) rfl [] 0 dj42_149_18 rfl (wt_String_7 hw) (own_atoms hw) hm ⟨by decide, rfl⟩ (by decide) (by decide) (by decide) rfl rfl rfl rfl rfl fun h18 a18 E18 T18 n18 => ?_
  obtain ⟨t', kb', N2', vs', V18, C18, A18, -, -, -⟩ := T18.lat (fun c hc => nomatch hc)
  refine g_getfield (pc' := 23) dj42_149_20 rfl (wf_String_15 hw) C18 ?_
  refine g_putfield (pc' := 26) dj42_149_23 rfl (wf_String_15 hw) (((C.ext E9).other W14 (Or.inr ne)).ext E18) (((E.ext E9).wr W14).ext E18) (Or.inr ⟨wy_String_String_coder hw, rfl, rfl⟩) (wn_String hw) (ty := .byte) (by decide) rfl rfl hx (List.mem_cons_self ..) fun h23 W23 => ?_
  have hxt : x ≠ t := (E.ext E9).neArv A9 (wn_String hw)
  have Ex : Exa Z h23 x "java/lang/String" := (((E.ext E9).wr W14).ext E18).wr W23
  have Vx : Fld Z h23 x "java/lang/String" "value" "[B" (.ref t) := (((V.ext E9).same W14).ext E18).other W23 (Or.inr ne.symm)
  have Cx : Fld Z h23 x "java/lang/String" "coder" "B" (.int 0) := (((C.ext E9).other W14 (Or.inr ne)).ext E18).same W23
  have Ax : Arv Z h23 t kb .byte N2 vs (.int 0) := (((A9.other W14 hxt.symm).ext E18).other W23 hxt.symm)
  exact g_return dj42_149_26 rfl rfl rfl ⟨rfl, ((((Keep.refl h [x]).ext E9).wr W14 (Or.inl (List.mem_cons_self ..))).ext E18).wr W23 (Or.inl (List.mem_cons_self ..)), Ex, t, kb, 0, N2, vs, Vx, Cx, Ax, hcod, (fun c hc => nomatch hc), Nat.zero_le _⟩
theorem met_I1z (hw : ∀ d ∈ tables_1, d.before a0 Z = true) (hm : ("java/lang/String", 7) ∈ EL) {x b : Addr} {kC : ClassId} {d v0 c0 : Value} {vs : List Value} (hx : Z.heap.size ≤ x) (E : Exa Z h x "java/lang/String") (V : Fld Z h x "java/lang/String" "value" "[B" v0) (C : Fld Z h x "java/lang/String" "coder" "B" c0) (K : Arv Z h b kC .char 0 vs d) :
    MetW [] l yI1 jdk_42_method_3_code 2 none (Rm 2 4 8 29) #[.ref x, .ref b] Z a0 EL false [x] h (fun v h' => v = none ∧ Keep h h' [x] ∧ Str Z h' x []) := by
  refine MetW.of (plainFor_of_name (by first | (simp [plainName, overriddenIn]; done) | decide +kernel)) fun X hX => ?_
  show Go X _ _ _ _ _ _ _ _ _ _ _ _ _ _ _ _ (mkF X.m 0 #[.val (.ref x), .val (.ref b)] [])
  refine g_aloadN (pc' := 1) dj42_3_0 rfl rfl rfl ?_
  refine g_aloadN (pc' := 2) dj42_3_1 rfl rfl rfl ?_
  refine g_iconst (pc' := 3) (w := 0) dj42_3_2 rfl (by decide) ?_
  refine g_aloadN (pc' := 4) dj42_3_3 rfl rfl rfl ?_
  refine g_arraylength (pc' := 5) dj42_3_4 rfl K ?_
  refine g_aconst_null (pc' := 6) dj42_3_5 rfl ?_
  refine g_invokespecial (pc' := 9) [x] [_, _, _, _] dj42_3_6 rfl rfl (wl_String_27 hw) (wm_String_init_lACIILjavalangVoidrV hw) (wb_String_init_lACIILjavalangVoidrV hw) (by decide) (Pay.of_met (met_I4z hw hm (b := b) hx E V C) (wb_String_init_lACIILjavalangVoidrV hw) (wi_String hw) rfl rfl) pd_lACIILjavalangVoidrV rfl rfl rfl rfl rfl (fun _ q => q) fun v6 h6 q6 l6 => ?_
  obtain ⟨rfl, K6, T6⟩ := q6
  exact g_return dj42_3_9 rfl rfl rfl ⟨rfl, K6, T6⟩
theorem pay_new0 (hw : ∀ d ∈ tables_1, d.before a0 Z = true) (hm : ("java/lang/String", 7) ∈ EL) {x b : Addr} {kC : ClassId} {d v0 c0 : Value} {vs : List Value} (hx : Z.heap.size ≤ x) (E : Exa Z h x "java/lang/String") (V : Fld Z h x "java/lang/String" "value" "[B" v0) (C : Fld Z h x "java/lang/String" "coder" "B" c0) (K : Arv Z h b kC .char 0 vs d) (hf : Nat.ble 3 R.frames = true) (hl : Nat.ble (W + 42) R.locals = true) :
    Pay l R yI1 W #[.ref x, .ref b] Z a0 EL false [x] h 4 8 (fun v h' => v = none ∧ Keep h h' [x] ∧ Str Z h' x []) := Pay.of_met (met_I1z hw hm hx E V C K) (wb_String_init_lACrV hw) (wi_String hw) hf (by exact hl)
end New0
theorem Go.sub {X : Cx} {R : Room} {Z : State} {a0 : Array Value} {EL : List (String × Nat)} {nw : Bool} {y : MethodName} {bs : ByteArray} {ml : Nat} {rt : Option FieldType} {Q : Option Value → Heap → Prop} {kc ks : Nat} {sf : List Addr} (sf' : List Addr) {h : Heap} {k n : Nat} {g : JFrame} (q : ∀ x ∈ sf', x ∈ sf) (G : Go X R Z a0 EL nw y bs ml rt Q kc ks sf' h k n g) : Go X R Z a0 EL nw y bs ml rt Q kc ks sf h k n g := fun T S => by
  obtain ⟨F, vm0, L, X1, eT, hS, hZ, hown, hC, hF, hE, hs, hN⟩ := S
  exact G T ⟨F, vm0, L, X1, eT, hS, hZ, hown, hC, hF, hE, fun x hx => hs x (q x hx), hN⟩
/-! Strings whose hash is known: their constructors, walked so that hash and hashIsZero are seen to stay 0; hashCode() -/
section HStrs
variable {l : Launch} {R : Room} {Z : State} {a0 : Array Value} {EL : List (String × Nat)} {nw : Bool} {h : Heap} {W : Nat} {z : Int32}
abbrev SN : String := "java/lang/String"
abbrev bys (cs : List Int32) : List Value := cs.map fun c => Value.int (StrChars.lo8 c)
/-- nothing is kept as x's hash yet -/
def HF (Z : State) (h : Heap) (x : Addr) : Prop := Fld Z h x SN "hash" "I" (.int 0) ∧ Fld Z h x SN "hashIsZero" "Z" (.int 0)
theorem HF.ext {h' : Heap} {x : Addr} (S : HF Z h x) (E : Ext h h') : HF Z h' x := ⟨S.1.ext E, S.2.ext E⟩
theorem ha_ne1 (hw : ∀ d ∈ tables_1, d.before a0 Z = true) : RoadKit.slotOf Z SN "hash" "I" ≠ RoadKit.slotOf Z SN "value" "[B" := slot_ne (Or.inl (wy_String_String_hash hw)) (Or.inr (wy_String_String_value hw)) (by decide) (t := .int) (t' := .array .byte) (by decide) (by decide)
theorem ha_ne2 (hw : ∀ d ∈ tables_1, d.before a0 Z = true) : RoadKit.slotOf Z SN "hash" "I" ≠ RoadKit.slotOf Z SN "coder" "B" := slot_ne (Or.inl (wy_String_String_hash hw)) (Or.inr (wy_String_String_coder hw)) (by decide) (t := .int) (t' := .byte) (by decide) (by decide)
theorem ha_ne3 (hw : ∀ d ∈ tables_1, d.before a0 Z = true) : RoadKit.slotOf Z SN "hashIsZero" "Z" ≠ RoadKit.slotOf Z SN "value" "[B" := slot_ne (Or.inl (wy_String_String_hashIsZero hw)) (Or.inr (wy_String_String_value hw)) (by decide) (t := .boolean) (t' := .array .byte) (by decide) (by decide)
theorem ha_ne4 (hw : ∀ d ∈ tables_1, d.before a0 Z = true) : RoadKit.slotOf Z SN "hashIsZero" "Z" ≠ RoadKit.slotOf Z SN "coder" "B" := slot_ne (Or.inl (wy_String_String_hashIsZero hw)) (Or.inr (wy_String_String_coder hw)) (by decide) (t := .boolean) (t' := .byte) (by decide) (by decide)
theorem ha_ne5 (hw : ∀ d ∈ tables_1, d.before a0 Z = true) : RoadKit.slotOf Z SN "hash" "I" ≠ RoadKit.slotOf Z SN "hashIsZero" "Z" := slot_ne (Or.inl (wy_String_String_hash hw)) (Or.inl (wy_String_String_hashIsZero hw)) (by decide) (t := .int) (t' := .boolean) (by decide) (by decide)
theorem HF.wv {h' : Heap} {x : Addr} {v : Value} (hw : ∀ d ∈ tables_1, d.before a0 Z = true) (S : HF Z h x) (w : Wr h h' x (RoadKit.slotOf Z SN "value" "[B") v) : HF Z h' x := ⟨S.1.other w (Or.inr (ha_ne1 hw)), S.2.other w (Or.inr (ha_ne3 hw))⟩
theorem HF.wc {h' : Heap} {x : Addr} {v : Value} (hw : ∀ d ∈ tables_1, d.before a0 Z = true) (S : HF Z h x) (w : Wr h h' x (RoadKit.slotOf Z SN "coder" "B") v) : HF Z h' x := ⟨S.1.other w (Or.inr (ha_ne2 hw)), S.2.other w (Or.inr (ha_ne4 hw))⟩
theorem st_ne (hw : ∀ d ∈ tables_1, d.before a0 Z = true) : RoadKit.slotOf Z SN "coder" "B" ≠ RoadKit.slotOf Z SN "value" "[B" := slot_ne (Or.inr (wy_String_String_coder hw)) (Or.inr (wy_String_String_value hw)) (by decide) (t := .byte) (t' := .array .byte) (by decide) (by decide)
abbrev yCp5 : MethodName := ⟨"java/lang/StringUTF16", "compress", "([CI[BII)I"⟩
abbrev yCp3 : MethodName := ⟨"java/lang/StringUTF16", "compress", "([CII)[B"⟩
abbrev yCfl : MethodName := ⟨"java/lang/StringUTF16", "coderFromArrayLen", "([BI)B"⟩
abbrev yI4h : MethodName := ⟨"java/lang/String", "<init>", "([CIILjava/lang/Void;)V"⟩
abbrev yI1h : MethodName := ⟨"java/lang/String", "<init>", "([C)V"⟩
theorem ch_at {cs : List Int32} {d : Value} {i : Nat} (hi : i < cs.length) : (cs.map Value.int).getD i d = .int (cs.getD i 0) := by
  simp [List.getD_eq_getElem?_getD, hi]
theorem by_step (cs : List Int32) (i : Nat) (hi : i < cs.length) : (bys (cs.take i) ++ List.replicate (cs.length - i) (Value.int 0)).set i (.int (StrChars.lo8 (cs.getD i 0))) = bys (cs.take (i + 1)) ++ List.replicate (cs.length - (i + 1)) (Value.int 0) := by
  have hl : (bys (cs.take i)).length = i := by rw [List.length_map, List.length_take]; omega
  have e1 : cs.take (i + 1) = cs.take i ++ [cs.getD i 0] := by
    rw [List.take_add_one]
    simp [List.getD_eq_getElem?_getD, hi]
  rw [show cs.length - i = (cs.length - (i + 1)) + 1 by omega, List.replicate_succ, List.set_append_right _ _ (by omega), hl, Nat.sub_self, e1]
  show bys (cs.take i) ++ _ :: _ = (cs.take i ++ [cs.getD i 0]).map _ ++ _
  rw [List.map_append, List.append_assoc]
  rfl
theorem nar_b8h (x : Int32) : nar .byte x.toInt8.toInt32 = x.toInt8.toInt32 := by simp [nar]
theorem met_C5n (hw : ∀ d ∈ tables_1, d.before a0 Z = true) {src dst : Addr} {kC kb : ClassId} {cs : List Int32} {d : Value} (hn : cs.length ≤ 4000) (hc : ∀ c ∈ cs, ¬ (255 : Int32) < c) (A : Arv Z h src kC .char (Int32.ofNat cs.length) (cs.map Value.int) d) (hd : Z.heap.size ≤ dst) (hsd : src ≠ dst) (B : Arv Z h dst kb .byte (Int32.ofNat cs.length) (List.replicate cs.length (.int 0)) (.int 0)) :
    MetW [] l yCp5 jdk_52_method_21_code 7 (some .int) (Rm 0 0 0 0) #[.ref src, .int 0, .ref dst, .int 0, .int (Int32.ofNat cs.length)] Z a0 EL nw [dst] h (fun v h' => v = some (.int (Int32.ofNat cs.length)) ∧ Keep h h' [dst] ∧ Arv Z h' dst kb .byte (Int32.ofNat cs.length) (bys cs) (.int 0)) := by
  refine MetW.of (by first | exact plainFor_of_name (by first | (simp [plainName, overriddenIn]; done) | decide +kernel) | decide +kernel) fun X hX => Go.old fun EZ => ?_
  show Go X _ _ _ _ _ _ _ _ _ _ _ _ _ _ _ _ (mkF X.m 0 #[.val (.ref src), .val (.int 0), .val (.ref dst), .val (.int 0), .val (.int (Int32.ofNat cs.length)), .unset, .unset] [])
  refine g_iconst (pc' := 1) (w := 0) dj52_21_0 rfl (by decide) ?_
  refine g_istore (pc' := 3) (Ls' := #[_, _, _, _, _, _, _]) dj52_21_1 rfl rfl ?_
  have loop : ∀ r i hh (o : Slot), (o = .unset ∨ ∃ q, o = .val (.int q)) → cs.length - i = r → i ≤ cs.length → Keep h hh [dst] → Arv Z hh dst kb .byte (Int32.ofNat cs.length) (bys (cs.take i) ++ List.replicate (cs.length - i) (Value.int 0)) (.int 0) →
      Go X (Rm 0 0 0 0) Z a0 EL nw yCp5 jdk_52_method_21_code 7 (some .int) (fun v h' => v = some (.int (Int32.ofNat cs.length)) ∧ Keep h h' [dst] ∧ Arv Z h' dst kb .byte (Int32.ofNat cs.length) (bys cs) (.int 0)) (Rm 0 0 0 0).cells (Rm 0 0 0 0).slots [dst] hh 0 0 (mkF X.m 3 #[.val (.ref src), .val (.int (Int32.ofNat i)), .val (.ref dst), .val (.int (Int32.ofNat i)), .val (.int (Int32.ofNat cs.length)), .val (.int (Int32.ofNat i)), o] []) := by
    intro r
    induction r with
    | zero =>
      intro i hh o ho hr hi K B'
      have ei : i = cs.length := by omega
      subst ei
      refine g_iload (pc' := 5) dj52_21_3 rfl rfl ?_
      refine g_iload (pc' := 7) dj52_21_5 rfl rfl ?_
      refine g_icmpge (pc' := 10) (pc2 := 44) dj52_21_7 rfl (by decide) rfl (fun c7 => False.elim (absurd c7 (fun q => absurd ((ofNat_lt (by omega) (by omega)).mp q) (by omega)))) (fun c7 => ?_)
      refine g_iload (pc' := 46) dj52_21_44 rfl rfl ?_
      rw [List.take_length, Nat.sub_self, List.replicate_zero, List.append_nil] at B'
      refine g_ireturn (t := .int) dj52_21_46 rfl (by simp) rfl rfl rfl (⟨rfl, K, B'⟩)
    | succ r ih =>
      intro i hh o ho hr hi K B'
      have ci : i < cs.length := by omega
      have hst : ∀ q : Int32, storeLocals #[.val (.ref src), .val (.int (Int32.ofNat i)), .val (.ref dst), .val (.int (Int32.ofNat i)), .val (.int (Int32.ofNat cs.length)), .val (.int (Int32.ofNat i)), o] 6 (.int q) = some #[.val (.ref src), .val (.int (Int32.ofNat i)), .val (.ref dst), .val (.int (Int32.ofNat i)), .val (.int (Int32.ofNat cs.length)), .val (.int (Int32.ofNat i)), .val (.int q)] := by
        intro q
        rcases ho with rfl | ⟨q', rfl⟩ <;> rfl
      refine g_iload (pc' := 5) dj52_21_3 rfl rfl ?_
      refine g_iload (pc' := 7) dj52_21_5 rfl rfl ?_
      refine g_icmpge (pc' := 10) (pc2 := 44) dj52_21_7 rfl (by decide) rfl (fun c7 => ?_) (fun c7 => False.elim (c7 ((ofNat_lt (by omega) (by omega)).mpr ci)))
      refine g_aloadN (pc' := 11) dj52_21_10 rfl rfl rfl ?_
      refine g_iloadN (pc' := 12) dj52_21_11 rfl rfl ?_
      refine g_caload (pc' := 13) (w := cs.getD i 0) dj52_21_12 rfl (A.keep K (ninS hsd nin0)) (⟨ofNat_nn (by omega), c7⟩) (by rw [ofNat_clamp (by omega)]; exact ch_at ci) ?_
      refine g_istore (pc' := 15) dj52_21_13 rfl (hst _) ?_
      refine g_iload (pc' := 17) dj52_21_15 rfl rfl ?_
      refine g_sipush (pc' := 20) (w := 255) dj52_21_17 rfl (by decide) ?_
      refine g_icmple (pc' := 23) (pc2 := 26) dj52_21_20 rfl (by decide) rfl (fun c20 => False.elim (hc (cs.getD i 0) (by simp [List.getD_eq_getElem?_getD, ci]) c20)) (fun c20 => ?_)
      refine g_aloadN (pc' := 27) dj52_21_26 rfl rfl rfl ?_
      refine g_iloadN (pc' := 28) dj52_21_27 rfl rfl ?_
      refine g_iload (pc' := 30) dj52_21_28 rfl rfl ?_
      refine g_i2b (pc' := 31) dj52_21_30 rfl ?_
      refine g_bastore (pc' := 32) (i := i) dj52_21_31 rfl B' hd (List.mem_cons_self ..) ⟨ofNat_nn (by omega), c7⟩ (ofNat_clamp (by omega)) (by rw [List.length_append, List.length_map, List.length_take, List.length_replicate]; omega) fun h31 K31 A31 => ?_
      rw [nar_b8h] at A31
      have A31 : Arv Z h31 dst kb .byte (Int32.ofNat cs.length) ((bys (cs.take i) ++ List.replicate (cs.length - i) (Value.int 0)).set i (.int (StrChars.lo8 (cs.getD i 0)))) (.int 0) := A31
      rw [by_step cs i ci] at A31
      refine g_iinc (pc' := 35) (Ls' := #[.val (.ref src), .val (.int (Int32.ofNat (i + 1))), .val (.ref dst), .val (.int (Int32.ofNat i)), .val (.int (Int32.ofNat cs.length)), .val (.int (Int32.ofNat i)), .val (.int (cs.getD i 0))]) dj52_21_32 rfl rfl (by rw [ofNat_succ]; rfl) ?_
      refine g_iinc (pc' := 38) (Ls' := #[.val (.ref src), .val (.int (Int32.ofNat (i + 1))), .val (.ref dst), .val (.int (Int32.ofNat (i + 1))), .val (.int (Int32.ofNat cs.length)), .val (.int (Int32.ofNat i)), .val (.int (cs.getD i 0))]) dj52_21_35 rfl rfl (by rw [ofNat_succ]; rfl) ?_
      refine g_iinc (pc' := 41) (Ls' := #[.val (.ref src), .val (.int (Int32.ofNat (i + 1))), .val (.ref dst), .val (.int (Int32.ofNat (i + 1))), .val (.int (Int32.ofNat cs.length)), .val (.int (Int32.ofNat (i + 1))), .val (.int (cs.getD i 0))]) dj52_21_38 rfl rfl (by rw [ofNat_succ]; rfl) ?_
      refine g_goto (pc' := 3) dj52_21_41 (by decide) rfl ?_
      exact ih (i + 1) h31 _ (Or.inr ⟨_, rfl⟩) (by omega) (by omega) (K.trans K31 (fun _ q => Or.inl q)) A31
  exact loop _ 0 h .unset (Or.inl rfl) rfl (Nat.zero_le _) (Keep.refl _ _) B
/-- a String of two chars or more: its bytes' class is byte[] itself -/
def BA (Z : State) (h : Heap) (x : Addr) (cs : List Int32) : Prop := cs.length ≤ 1 ∨ ∃ t, Fld Z h x SN "value" "[B" (.ref t) ∧ Exa Z h t "[B"
theorem met_C3n (hw : ∀ d ∈ tables_1, d.before a0 Z = true) (EZ : Ext Z.heap h) {src : Addr} {kC : ClassId} {cs : List Int32} {d : Value} (hn : cs.length ≤ 2) (hc : ∀ c ∈ cs, ¬ (255 : Int32) < c) (A : Arv Z h src kC .char (Int32.ofNat cs.length) (cs.map Value.int) d) :
    MetW [] l yCp3 jdk_52_method_16_code 6 (some (.array .byte)) (Rm 1 1 2 30) #[.ref src, .int 0, .int (Int32.ofNat cs.length)] Z a0 EL nw [] h (fun v h' => ∃ b kb, v = some (.ref b) ∧ h.size ≤ b ∧ b < h'.size ∧ Ext h h' ∧ Z.vm.findClass "[B" = some kb ∧ Arv Z h' b kb .byte (Int32.ofNat cs.length) (bys cs) (.int 0)) := by
  refine MetW.of (by first | exact plainFor_of_name (by first | (simp [plainName, overriddenIn]; done) | decide +kernel) | decide +kernel) fun X hX => Go.old fun EZ => ?_
  show Go X _ _ _ _ _ _ _ _ _ _ _ _ _ _ _ _ (mkF X.m 0 #[.val (.ref src), .val (.int 0), .val (.int (Int32.ofNat cs.length)), .unset, .unset, .unset] [])
  refine g_iloadN (pc' := 1) dj52_16_0 rfl rfl ?_
  refine g_newarrayX (pc' := 3) (cap := cs.length) dj52_16_1 rfl (wa_byte hw) (ofNat_nn (by omega)) (ofNat_clamp (by omega)) (bl (by omega)) rfl (bl (by show 0 + cs.length ≤ 2; omega)) fun h1 a1 k1 e1 E1 F1 A1 => ?_
  have zb : Z.heap.size ≤ a1 := by rw [e1]; exact EZ.1
  have hsd : src ≠ a1 := Nat.ne_of_lt (by rw [e1]; exact A.lt)
  refine g_astoreN (pc' := 4) (Ls' := #[_, _, _, _, _, _]) dj52_16_3 rfl rfl rfl ?_
  refine g_aloadN (pc' := 5) dj52_16_4 rfl rfl rfl ?_
  refine g_iloadN (pc' := 6) dj52_16_5 rfl rfl ?_
  refine g_aloadN (pc' := 7) dj52_16_6 rfl rfl rfl ?_
  refine g_iconst (pc' := 8) (w := 0) dj52_16_7 rfl (by decide) ?_
  refine g_iloadN (pc' := 9) dj52_16_8 rfl rfl ?_
  refine g_invokestatic (pc' := 12) [a1] [_, _, _, _, _] dj52_16_9 rfl (wl_StringUTF16_115 hw) (ws_StringUTF16_compress_lACIABIIrI hw) (wi_StringUTF16 hw) (wb_StringUTF16_compress_lACIABIIrI hw) (by decide) (Pay.of_met (met_C5n hw (by omega) hc (A.ext E1) zb hsd A1) (wb_StringUTF16_compress_lACIABIIrI hw) (wi_StringUTF16 hw) rfl rfl) pd_lACIABIIrI rfl rfl rfl rfl (bl (by show 0 + cs.length + 0 ≤ 2; omega)) (fun _ q => q) fun v9 h9 q9 l9 => ?_
  obtain ⟨rfl, K9, A9⟩ := q9
  refine g_istore (pc' := 14) (Ls' := #[_, _, _, _, _, _]) dj52_16_12 rfl rfl ?_
  refine g_iload (pc' := 16) dj52_16_14 rfl rfl ?_
  refine g_iloadN (pc' := 17) dj52_16_16 rfl rfl ?_
  refine g_icmpeq (pc' := 20) (pc2 := 57) dj52_16_17 rfl (by decide) rfl (fun c17 => False.elim (c17 rfl)) (fun c17 => ?_)
  refine g_aloadN (pc' := 58) dj52_16_57 rfl rfl rfl ?_
  refine g_areturn dj52_16_58 rfl rfl rfl rfl rfl (bl (by show 0 + cs.length + 0 ≤ 2; omega)) ⟨a1, k1, rfl, Nat.le_of_eq e1.symm, A9.lt, ext_keep E1 K9 (allS (Nat.le_of_eq e1.symm) all0), F1, A9⟩
theorem cod0 : ∀ n : Fin 3, 0 < n.val → ((Int32.ofNat n.val - Int32.ofNat n.val).toUInt32 >>> ((31 : Int32) &&& 31).toUInt32).toInt32.toInt8.toInt32 = 0 := by decide
theorem met_CFn (hw : ∀ d ∈ tables_1, d.before a0 Z = true) {b : Addr} {kb : ClassId} {n : Nat} {vs : List Value} {d : Value} (h0 : 0 < n) (hn : n ≤ 2) (B : Arv Z h b kb .byte (Int32.ofNat n) vs d) : MetW [] l yCfl jdk_52_method_15_code 2 (some .byte) (Rm 0 0 0 0) #[.ref b, .int (Int32.ofNat n)] Z a0 EL nw [] h (fun v h' => v = some (.int 0) ∧ h' = h) := by
  refine MetW.of (by first | exact plainFor_of_name (by first | (simp [plainName, overriddenIn]; done) | decide +kernel) | decide +kernel) fun X hX => Go.old fun EZ => ?_
  show Go X _ _ _ _ _ _ _ _ _ _ _ _ _ _ _ _ (mkF X.m 0 #[.val (.ref b), .val (.int (Int32.ofNat n))] [])
  refine g_iloadN (pc' := 1) dj52_15_0 rfl rfl ?_
  refine g_aloadN (pc' := 2) dj52_15_1 rfl rfl rfl ?_
  refine g_arraylength (pc' := 3) dj52_15_2 rfl (B) ?_
  refine g_isub (pc' := 4) dj52_15_3 rfl ?_
  refine g_bipush (pc' := 6) (w := 31) dj52_15_4 rfl (by decide) ?_
  refine g_iushr (pc' := 7) dj52_15_6 rfl ?_
  refine g_i2b (pc' := 8) dj52_15_7 rfl ?_
  rw [cod0 ⟨n, by omega⟩ h0]
  refine g_ireturn (t := .byte) dj52_15_8 rfl (by simp) rfl rfl rfl (⟨rfl, rfl⟩)
/-- String.<init>(char[], int, int, Void) of narrow chars -/
theorem met_I4h (hw : ∀ d ∈ tables_1, d.before a0 Z = true) (S : Sta Z Z.heap "java/lang/String" "COMPACT_STRINGS" "Z" (.int z)) (hz : ¬ z = 0) (hm : ("java/lang/String", 7) ∈ EL) (EZ : Ext Z.heap h) {x b : Addr} {kC : ClassId} {cs : List Int32} {d v0 c0 : Value} (hn : cs.length ≤ 2) (hc : ∀ c ∈ cs, ¬ c < 0 ∧ ¬ (255 : Int32) < c) (hx : Z.heap.size ≤ x) (E : Exa Z h x SN) (V : Fld Z h x SN "value" "[B" v0) (C : Fld Z h x SN "coder" "B" c0) (H : HF Z h x) (A : Arv Z h b kC .char (Int32.ofNat cs.length) (cs.map Value.int) d) :
    MetW [] l yI4h jdk_42_method_149_code 6 none (Rm 2 4 8 60) #[.ref x, .ref b, .int 0, .int (Int32.ofNat cs.length), .null] Z a0 EL false [x] h (fun v h' => v = none ∧ Keep h h' [x] ∧ Str Z h' x cs ∧ HF Z h' x ∧ BA Z h' x cs) := by
  by_cases h0 : cs = []
  · subst h0
    refine MetW.of (by first | exact plainFor_of_name (by first | (simp [plainName, overriddenIn]; done) | decide +kernel) | decide +kernel) fun X hX => Go.old fun EZ => ?_
    show Go X _ _ _ _ _ _ _ _ _ _ _ _ _ _ _ _ (mkF X.m 0 #[.val (.ref x), .val (.ref b), .val (.int 0), .val (.int (Int32.ofNat 0)), .val (.null), .unset] [])
    refine g_aloadN (pc' := 1) dj42_149_0 rfl rfl rfl ?_
    refine g_objinit (pc' := 4) dj42_149_1 rfl (wl_String_1 hw) (wm_Object_init_lrV hw) (wb_Object_init_lrV hw) rfl rfl rfl ?_
    refine g_iloadN (pc' := 5) dj42_149_4 rfl rfl ?_
    refine g_ifne (pc' := 8) (pc2 := 27) dj42_149_5 rfl (by decide) rfl (fun c5 => ?_) (fun c5 => False.elim (c5 rfl))
    refine g_aloadN (pc' := 9) dj42_149_8 rfl rfl rfl ?_
    refine g_lit (pc' := 11) rfl [] 0 dj42_149_9 rfl (wt_String_7 hw) (own_atoms hw) hm ⟨by decide, rfl⟩ (by decide) (by decide) (by decide) rfl rfl rfl rfl rfl fun h9 a9 E9 T9 n9 => ?_
    obtain ⟨t, kb, N2, vs, V9, C9, A9, hcod, -, -⟩ := T9.lat (fun c hc => nomatch hc)
    refine g_getfield (pc' := 14) dj42_149_11 rfl (wf_String_9 hw) (V9) ?_
    refine g_putfield (pc' := 17) dj42_149_14 rfl (wf_String_9 hw) (V.ext E9) (E.ext E9) (Or.inr ⟨wy_String_String_value hw, rfl, rfl⟩) (wn_String hw) (ty := (.array .byte)) (by decide) rfl rfl (hx) (by simp) fun h14 W14 => ?_
    refine g_aloadN (pc' := 18) dj42_149_17 rfl rfl rfl ?_
    refine g_lit (pc' := 20) rfl [] 0 dj42_149_18 rfl (wt_String_7 hw) (own_atoms hw) hm ⟨by decide, rfl⟩ (by decide) (by decide) (by decide) rfl rfl rfl rfl rfl fun h18 a18 E18 T18 n18 => ?_
    obtain ⟨t', kb', N2', vs', V18, C18, A18, -, -, -⟩ := T18.lat (fun c hc => nomatch hc)
    refine g_getfield (pc' := 23) dj42_149_20 rfl (wf_String_15 hw) (C18) ?_
    refine g_putfield (pc' := 26) dj42_149_23 rfl (wf_String_15 hw) (((C.ext E9).other W14 (Or.inr (st_ne hw))).ext E18) (((E.ext E9).wr W14).ext E18) (Or.inr ⟨wy_String_String_coder hw, rfl, rfl⟩) (wn_String hw) (ty := .byte) (by decide) rfl rfl (hx) (by simp) fun h23 W23 => ?_
    have hxt : x ≠ t := (E.ext E9).neArv A9 (wn_String hw)
    exact g_return dj42_149_26 rfl rfl rfl ⟨rfl, ((((Keep.refl h [x]).ext E9).wr W14 (Or.inl (List.mem_cons_self ..))).ext E18).wr W23 (Or.inl (List.mem_cons_self ..)), ⟨(((E.ext E9).wr W14).ext E18).wr W23, t, kb, 0, N2, vs, (((V.ext E9).same W14).ext E18).other W23 (Or.inr (st_ne hw).symm), (((C.ext E9).other W14 (Or.inr (st_ne hw))).ext E18).same W23, (((A9.other W14 hxt.symm).ext E18).other W23 hxt.symm), hcod, (fun c hc => nomatch hc), Nat.zero_le _⟩, (((H.ext E9).wv hw W14).ext E18).wc hw W23, Or.inl (Nat.zero_le _)⟩
  · have l0 : 0 < cs.length := List.length_pos_iff.mpr h0
    refine MetW.of (by first | exact plainFor_of_name (by first | (simp [plainName, overriddenIn]; done) | decide +kernel) | decide +kernel) fun X hX => Go.old fun EZ => ?_
    show Go X _ _ _ _ _ _ _ _ _ _ _ _ _ _ _ _ (mkF X.m 0 #[.val (.ref x), .val (.ref b), .val (.int 0), .val (.int (Int32.ofNat cs.length)), .val (.null), .unset] [])
    refine g_aloadN (pc' := 1) dj42_149_0 rfl rfl rfl ?_
    refine g_objinit (pc' := 4) dj42_149_1 rfl (wl_String_1 hw) (wm_Object_init_lrV hw) (wb_Object_init_lrV hw) rfl rfl rfl ?_
    refine g_iloadN (pc' := 5) dj42_149_4 rfl rfl ?_
    refine g_ifne (pc' := 8) (pc2 := 27) dj42_149_5 rfl (by decide) rfl (fun c5 => False.elim (absurd ((ofNat_inj (b := 0) (by omega) (by decide)).mp c5) (by omega))) (fun c5 => ?_)
    refine g_getstatic (pc' := 30) dj42_149_27 rfl (wf_String_38 hw) (S) ?_
    refine g_ifeq (pc' := 33) (pc2 := 58) dj42_149_30 rfl (by decide) rfl (fun c30 => ?_) (fun c30 => False.elim (hz c30))
    refine g_aloadN (pc' := 34) dj42_149_33 rfl rfl rfl ?_
    refine g_iloadN (pc' := 35) dj42_149_34 rfl rfl ?_
    refine g_iloadN (pc' := 36) dj42_149_35 rfl rfl ?_
    refine g_invokestatic (pc' := 39) [] [_, _, _] dj42_149_36 rfl (wl_String_177 hw) (ws_StringUTF16_compress_lACIIrAB hw) (wi_StringUTF16 hw) (wb_StringUTF16_compress_lACIIrAB hw) (by decide) (Pay.of_met (met_C3n hw EZ hn (fun c q => (hc c q).2) A) (wb_StringUTF16_compress_lACIIrAB hw) (wi_StringUTF16 hw) rfl rfl) pd_lACIIrAB rfl rfl rfl rfl rfl (fun _ q => nomatch q) fun v36 h36 q36 l36 => ?_
    obtain ⟨t, kb, rfl, t1, t2, E36, F36, A36⟩ := q36
    have hxt : x ≠ t := Nat.ne_of_lt (Nat.lt_of_lt_of_le E.lt t1)
    refine g_astore (pc' := 41) (Ls' := #[_, _, _, _, _, _]) dj42_149_39 rfl rfl rfl ?_
    refine g_aloadN (pc' := 42) dj42_149_41 rfl rfl rfl ?_
    refine g_aload (pc' := 44) dj42_149_42 rfl rfl rfl ?_
    refine g_iloadN (pc' := 45) dj42_149_44 rfl rfl ?_
    refine g_invokestatic (pc' := 48) [] [_, _] dj42_149_45 rfl (wl_String_47 hw) (ws_StringUTF16_coderFromArrayLen_lABIrB hw) (wi_StringUTF16 hw) (wb_StringUTF16_coderFromArrayLen_lABIrB hw) (by decide) (Pay.of_met (met_CFn hw l0 hn A36) (wb_StringUTF16_coderFromArrayLen_lABIrB hw) (wi_StringUTF16 hw) rfl rfl) pd_lABIrB rfl rfl rfl rfl rfl (fun _ q => nomatch q) fun v45 h45 q45 l45 => ?_
    obtain ⟨rfl, e45⟩ := q45
    have e45 := e45.symm
    subst e45
    refine g_putfield (pc' := 51) dj42_149_48 rfl (wf_String_15 hw) (C.ext E36) (E.ext E36) (Or.inr ⟨wy_String_String_coder hw, rfl, rfl⟩) (wn_String hw) (ty := .byte) (by decide) rfl rfl (hx) (by simp) fun h48 W48 => ?_
    refine g_aloadN (pc' := 52) dj42_149_51 rfl rfl rfl ?_
    refine g_aload (pc' := 54) dj42_149_52 rfl rfl rfl ?_
    refine g_putfield (pc' := 57) dj42_149_54 rfl (wf_String_9 hw) ((V.ext E36).other W48 (Or.inr (st_ne hw).symm)) ((E.ext E36).wr W48) (Or.inr ⟨wy_String_String_value hw, rfl, rfl⟩) (wn_String hw) (ty := (.array .byte)) (by decide) rfl rfl (hx) (by simp) fun h54 W54 => ?_
    exact g_return dj42_149_57 rfl rfl rfl ⟨rfl, (((Keep.refl h [x]).ext E36).wr W48 (Or.inl (List.mem_cons_self ..))).wr W54 (Or.inl (List.mem_cons_self ..)), Str.of_lit (((E.ext E36).wr W48).wr W54) (((C.ext E36).same W48).other W54 (Or.inr (st_ne hw))) (((V.ext E36).other W48 (Or.inr (st_ne hw).symm)).same W54) ((A36.other W48 hxt.symm).other W54 hxt.symm) rfl rfl hc (by omega), ((H.ext E36).wc hw W48).wv hw W54, Or.inr ⟨t, ((V.ext E36).other W48 (Or.inr (st_ne hw).symm)).same W54, Arv.exa ((A36.other W48 hxt.symm).other W54 hxt.symm) F36⟩⟩
theorem met_I1h (hw : ∀ d ∈ tables_1, d.before a0 Z = true) (S : Sta Z Z.heap "java/lang/String" "COMPACT_STRINGS" "Z" (.int z)) (hz : ¬ z = 0) (hm : ("java/lang/String", 7) ∈ EL) (EZ : Ext Z.heap h) {x b : Addr} {kC : ClassId} {cs : List Int32} {d v0 c0 : Value} (hn : cs.length ≤ 2) (hc : ∀ c ∈ cs, ¬ c < 0 ∧ ¬ (255 : Int32) < c) (hx : Z.heap.size ≤ x) (E : Exa Z h x SN) (V : Fld Z h x SN "value" "[B" v0) (C : Fld Z h x SN "coder" "B" c0) (H : HF Z h x) (A : Arv Z h b kC .char (Int32.ofNat cs.length) (cs.map Value.int) d) :
    MetW [] l yI1h jdk_42_method_3_code 2 none (Rm 3 4 8 80) #[.ref x, .ref b] Z a0 EL false [x] h (fun v h' => v = none ∧ Keep h h' [x] ∧ Str Z h' x cs ∧ HF Z h' x ∧ BA Z h' x cs) := by
  refine MetW.of (by first | exact plainFor_of_name (by first | (simp [plainName, overriddenIn]; done) | decide +kernel) | decide +kernel) fun X hX => Go.old fun EZ => ?_
  show Go X _ _ _ _ _ _ _ _ _ _ _ _ _ _ _ _ (mkF X.m 0 #[.val (.ref x), .val (.ref b)] [])
  refine g_aloadN (pc' := 1) dj42_3_0 rfl rfl rfl ?_
  refine g_aloadN (pc' := 2) dj42_3_1 rfl rfl rfl ?_
  refine g_iconst (pc' := 3) (w := 0) dj42_3_2 rfl (by decide) ?_
  refine g_aloadN (pc' := 4) dj42_3_3 rfl rfl rfl ?_
  refine g_arraylength (pc' := 5) dj42_3_4 rfl (A) ?_
  refine g_aconst_null (pc' := 6) dj42_3_5 rfl ?_
  refine g_invokespecial (pc' := 9) [x] [_, _, _, _] dj42_3_6 rfl rfl (wl_String_27 hw) (wm_String_init_lACIILjavalangVoidrV hw) (wb_String_init_lACIILjavalangVoidrV hw) (by decide) (Pay.of_met (met_I4h hw S hz hm EZ hn hc hx E V C H A) (wb_String_init_lACIILjavalangVoidrV hw) (wi_String hw) rfl rfl) pd_lACIILjavalangVoidrV rfl rfl rfl rfl rfl (fun _ q => q) fun v6 h6 q6 l6 => ?_
  obtain ⟨rfl, q⟩ := q6
  refine g_return dj42_3_9 rfl rfl rfl (⟨rfl, q⟩)
theorem ofNat_add2 (a b : Nat) : Int32.ofNat a + Int32.ofNat b = Int32.ofNat (a + b) := (Int32.ofNat_add ..).symm
abbrev yMax : MethodName := ⟨"java/lang/Math", "max", "(II)I"⟩
abbrev yMin : MethodName := ⟨"java/lang/Math", "min", "(II)I"⟩
theorem met_max (hw : ∀ d ∈ tables_1, d.before a0 Z = true) {a b : Nat} (ha : a < 100000) (hb : b < 100000) : MetW [] l yMax jdk_29_method_65_code 2 (some .int) (Rm 0 0 0 0) #[.int (Int32.ofNat a), .int (Int32.ofNat b)] Z a0 EL nw [] h (fun v h' => v = some (.int (Int32.ofNat (max a b))) ∧ h' = h) := by
  refine MetW.of (by first | exact plainFor_of_name (by first | (simp [plainName, overriddenIn]; done) | decide +kernel) | decide +kernel) fun X hX => Go.old fun EZ => ?_
  show Go X _ _ _ _ _ _ _ _ _ _ _ _ _ _ _ _ (mkF X.m 0 #[.val (.int (Int32.ofNat a)), .val (.int (Int32.ofNat b))] [])
  refine g_iloadN (pc' := 1) dj29_65_0 rfl rfl ?_
  refine g_iloadN (pc' := 2) dj29_65_1 rfl rfl ?_
  refine g_icmplt (pc' := 5) (pc2 := 9) dj29_65_2 rfl (by decide) rfl (fun c2 => ?_) (fun c2 => ?_)
  · refine g_iloadN (pc' := 6) dj29_65_5 rfl rfl ?_
    refine g_goto (pc' := 10) dj29_65_6 (by decide) rfl ?_
    rw [ofNat_lt (by omega) (by omega)] at c2
    refine g_ireturn (t := .int) dj29_65_10 rfl (by simp) rfl rfl rfl (⟨by rw [Nat.max_eq_left (by omega)], rfl⟩)
  · refine g_iloadN (pc' := 10) dj29_65_9 rfl rfl ?_
    rw [ofNat_lt (by omega) (by omega)] at c2
    refine g_ireturn (t := .int) dj29_65_10 rfl (by simp) rfl rfl rfl (⟨by rw [Nat.max_eq_right (by omega)], rfl⟩)
theorem met_min (hw : ∀ d ∈ tables_1, d.before a0 Z = true) {a b : Nat} (ha : a < 100000) (hb : b < 100000) : MetW [] l yMin jdk_29_method_69_code 2 (some .int) (Rm 0 0 0 0) #[.int (Int32.ofNat a), .int (Int32.ofNat b)] Z a0 EL nw [] h (fun v h' => v = some (.int (Int32.ofNat (min a b))) ∧ h' = h) := by
  refine MetW.of (by first | exact plainFor_of_name (by first | (simp [plainName, overriddenIn]; done) | decide +kernel) | decide +kernel) fun X hX => Go.old fun EZ => ?_
  show Go X _ _ _ _ _ _ _ _ _ _ _ _ _ _ _ _ (mkF X.m 0 #[.val (.int (Int32.ofNat a)), .val (.int (Int32.ofNat b))] [])
  refine g_iloadN (pc' := 1) dj29_69_0 rfl rfl ?_
  refine g_iloadN (pc' := 2) dj29_69_1 rfl rfl ?_
  refine g_icmpgt (pc' := 5) (pc2 := 9) dj29_69_2 rfl (by decide) rfl (fun c2 => ?_) (fun c2 => ?_)
  · refine g_iloadN (pc' := 6) dj29_69_5 rfl rfl ?_
    refine g_goto (pc' := 10) dj29_69_6 (by decide) rfl ?_
    rw [ofNat_lt (by omega) (by omega)] at c2
    refine g_ireturn (t := .int) dj29_69_10 rfl (by simp) rfl rfl rfl (⟨by rw [Nat.min_eq_left (by omega)], rfl⟩)
  · refine g_iloadN (pc' := 10) dj29_69_9 rfl rfl ?_
    rw [ofNat_lt (by omega) (by omega)] at c2
    refine g_ireturn (t := .int) dj29_69_10 rfl (by simp) rfl rfl rfl (⟨by rw [Nat.min_eq_right (by omega)], rfl⟩)
end HStrs
/-! String.valueOf(char) of a char 0 to 255, walked -/
section ValueOf
variable {l : Launch} {R : Room} {Z : State} {a0 : Array Value} {EL : List (String × Nat)} {nw : Bool} {sf : List Addr} {h : Heap} {W : Nat}
abbrev yToB : MethodName := ⟨"java/lang/StringLatin1", "toBytes", "(C)[B"⟩
abbrev yCan : MethodName := ⟨"java/lang/StringLatin1", "canEncode", "(C)Z"⟩
abbrev yIBB : MethodName := ⟨"java/lang/String", "<init>", "([BB)V"⟩
abbrev yVal : MethodName := ⟨"java/lang/String", "valueOf", "(C)Ljava/lang/String;"⟩
theorem nar_b8 (x : Int32) : nar .byte x.toInt8.toInt32 = x.toInt8.toInt32 := by simp [nar]
theorem met_toB (hw : ∀ d ∈ tables_1, d.before a0 Z = true) (c : Int32) : MetW [] l yToB jdk_43_method_46_code 1 (some (.array .byte)) (Rm 0 1 1 0) #[.int c] Z a0 EL nw [] h
    (fun v h' => ∃ a kA, v = some (.ref a) ∧ h.size ≤ a ∧ Ext h h' ∧ Arv Z h' a kA .byte 1 [.int c.toInt8.toInt32] (.int 0)) := by
  refine MetW.of (plainFor_of_name (by first | (simp [plainName, overriddenIn]; done) | decide +kernel)) fun X hX => Go.old fun EZ => ?_
  show Go X _ _ _ _ _ _ _ _ _ _ _ _ _ _ _ _ (mkF X.m 0 #[.val (.int c)] [])
  refine g_iconst (pc' := 1) (w := 1) dj43_46_0 rfl (by decide) ?_
  refine g_newarray (pc' := 3) (cap := 1) dj43_46_1 rfl (wa_byte hw) (by decide) (by decide) rfl rfl rfl fun h1 a1 k1 e1 E1 A1 => ?_
  refine g_dup (pc' := 4) dj43_46_3 rfl rfl ?_
  refine g_iconst (pc' := 5) (w := 0) dj43_46_4 rfl (by decide) ?_
  refine g_iloadN (pc' := 6) dj43_46_5 rfl rfl ?_
  refine g_i2b (pc' := 7) dj43_46_6 rfl ?_
  refine g_bastore (pc' := 8) (i := 0) dj43_46_7 rfl A1 (by rw [e1]; exact EZ.1) (List.mem_cons_self ..) (by decide) (by decide) (by decide) fun h7 K7 A7 => ?_
  refine g_areturn dj43_46_8 rfl rfl rfl rfl rfl rfl ⟨a1, k1, rfl, Nat.le_of_eq e1.symm, ext_keep E1 K7 (allS (Nat.le_of_eq e1.symm) all0), ?_⟩
  rw [nar_b8] at A7
  exact A7
theorem met_can (c : Int32) (hc : ¬ (255 : Int32) < c) : MetW [] l yCan jdk_43_method_3_code 1 (some .boolean) (Rm 0 0 0 0) #[.int c] Z a0 EL nw [] h (fun v h' => v = some (.int 1) ∧ h' = h) := by
  refine MetW.of (plainFor_of_name (by first | (simp [plainName, overriddenIn]; done) | decide +kernel)) fun X hX => ?_
  show Go X _ _ _ _ _ _ _ _ _ _ _ _ _ _ _ _ (mkF X.m 0 #[.val (.int c)] [])
  refine g_iloadN (pc' := 1) dj43_3_0 rfl rfl ?_
  refine g_sipush (pc' := 4) (w := 255) dj43_3_1 rfl (by decide) ?_
  refine g_icmpgt (pc' := 7) (pc2 := 11) dj43_3_4 rfl (by decide) rfl (fun c4 => ?_) (fun c4 => absurd c4 hc)
  refine g_iconst (pc' := 8) (w := 1) dj43_3_7 rfl (by decide) ?_
  refine g_goto (pc' := 12) dj43_3_8 (by decide) rfl ?_
  exact g_ireturn (t := .boolean) dj43_3_12 rfl (by simp) rfl rfl rfl ⟨rfl, rfl⟩
theorem met_IBB (hw : ∀ d ∈ tables_1, d.before a0 Z = true) {x b : Addr} {cd : Int32} {v0 c0 : Value} (hcd : narrow .byte (.int cd) = .int cd) (hcf : fits .byte (.int cd) = true) (hx : Z.heap.size ≤ x) (E : Exa Z h x "java/lang/String") (V : Fld Z h x "java/lang/String" "value" "[B" v0) (C : Fld Z h x "java/lang/String" "coder" "B" c0) :
    MetW [] l yIBB jdk_42_method_151_code 3 none (Rm 1 0 0 12) #[.ref x, .ref b, .int cd] Z a0 EL nw [x] h
    (fun v h' => v = none ∧ Keep h h' [x] ∧ Exa Z h' x "java/lang/String" ∧ Fld Z h' x "java/lang/String" "value" "[B" (.ref b) ∧ Fld Z h' x "java/lang/String" "coder" "B" (.int cd)) := by
  refine MetW.of (plainFor_of_name (by first | (simp [plainName, overriddenIn]; done) | decide +kernel)) fun X hX => ?_
  show Go X _ _ _ _ _ _ _ _ _ _ _ _ _ _ _ _ (mkF X.m 0 #[.val (.ref x), .val (.ref b), .val (.int cd)] [])
  refine g_aloadN (pc' := 1) dj42_151_0 rfl rfl rfl ?_
  refine g_objinit (pc' := 4) dj42_151_1 rfl (wl_String_1 hw) (wm_Object_init_lrV hw) (wb_Object_init_lrV hw) rfl rfl rfl ?_
  refine g_aloadN (pc' := 5) dj42_151_4 rfl rfl rfl ?_
  refine g_aloadN (pc' := 6) dj42_151_5 rfl rfl rfl ?_
  refine g_putfield (pc' := 9) dj42_151_6 rfl (wf_String_9 hw) V E (Or.inr ⟨wy_String_String_value hw, rfl, rfl⟩) (wn_String hw) (ty := .array .byte) (by decide) rfl rfl hx (List.mem_cons_self ..) fun h6 W6 => ?_
  refine g_aloadN (pc' := 10) dj42_151_9 rfl rfl rfl ?_
  refine g_iloadN (pc' := 11) dj42_151_10 rfl rfl ?_
  have ne : RoadKit.slotOf Z "java/lang/String" "coder" "B" ≠ RoadKit.slotOf Z "java/lang/String" "value" "[B" := slot_ne (Or.inr (wy_String_String_coder hw)) (Or.inr (wy_String_String_value hw)) (by decide) (t := .byte) (t' := .array .byte) (by decide) (by decide)
  refine g_putfield (pc' := 14) dj42_151_11 rfl (wf_String_15 hw) (C.other W6 (Or.inr ne)) (E.wr W6) (Or.inr ⟨wy_String_String_coder hw, rfl, rfl⟩) (wn_String hw) (ty := .byte) (by decide) hcd hcf hx (List.mem_cons_self ..) fun h11 W11 => ?_
  exact g_return dj42_151_14 rfl rfl rfl ⟨rfl, ((Keep.refl _ _).wr W6 (Or.inl (List.mem_cons_self ..))).wr W11 (Or.inl (List.mem_cons_self ..)), (E.wr W6).wr W11, (V.same W6).other W11 (Or.inr ne.symm), (C.other W6 (Or.inr ne)).same W11⟩
theorem met_val {z : Int32} (hw : ∀ d ∈ tables_1, d.before a0 Z = true) (S : Sta Z Z.heap "java/lang/String" "COMPACT_STRINGS" "Z" (.int z)) (hz : ¬ z = 0) (c : Int32) (hc0 : ¬ c < 0) (hc : ¬ (255 : Int32) < c) : MetW [] l yVal jdk_42_method_139_code 1 (some (.object "java/lang/String")) (Rm 2 2 5 40) #[.int c] Z a0 EL nw [] h
    (fun v h' => ∃ a, v = some (.ref a) ∧ h.size ≤ a ∧ Ext h h' ∧ Str Z h' a [c]) := by
  refine MetW.of (plainFor_of_name (by first | (simp [plainName, overriddenIn]; done) | decide +kernel)) fun X hX => Go.old fun EZ => ?_
  show Go X _ _ _ _ _ _ _ _ _ _ _ _ _ _ _ _ (mkF X.m 0 #[.val (.int c)] [])
  refine g_getstatic (pc' := 3) dj42_139_0 rfl (wf_String_38 hw) S ?_
  refine g_ifeq (pc' := 6) (pc2 := 26) dj42_139_3 rfl (by decide) rfl (fun c3 => ?_) (fun c3 => absurd c3 hz)
  refine g_iloadN (pc' := 7) dj42_139_6 rfl rfl ?_
  refine g_invokestatic (pc' := 10) [] [_] dj42_139_7 rfl (wl_String_1015 hw) (ws_StringLatin1_canEncode_lCrZ hw) (wi_StringLatin1 hw) (wb_StringLatin1_canEncode_lCrZ hw) (by decide) (Pay.of_met (met_can c hc) (wb_StringLatin1_canEncode_lCrZ hw) (wi_StringLatin1 hw) rfl rfl) pd_lCrZ rfl rfl rfl rfl rfl (fun _ q => nomatch q) fun v7 h7 q7 l7 => ?_
  obtain ⟨rfl, rfl⟩ := q7
  refine g_ifeq (pc' := 13) (pc2 := 26) dj42_139_10 rfl (by decide) rfl (fun c10 => ?_) (fun c10 => absurd c10 (by decide))
  refine g_new (pc' := 16) dj42_139_13 rfl (wc_String_10 hw) (wn_String hw) (wi_String hw) rfl rfl fun h13 a13 e13 E13 A13 D13 => ?_
  refine g_dup (pc' := 17) dj42_139_16 rfl rfl ?_
  refine g_iloadN (pc' := 18) dj42_139_17 rfl rfl ?_
  refine g_invokestatic (pc' := 21) [] [_] dj42_139_18 rfl (wl_String_1018 hw) (ws_StringLatin1_toBytes_lCrAB hw) (wi_StringLatin1 hw) (wb_StringLatin1_toBytes_lCrAB hw) (by decide) (Pay.of_met (met_toB hw c) (wb_StringLatin1_toBytes_lCrAB hw) (wi_StringLatin1 hw) rfl rfl) pd_lCrAB rfl rfl rfl rfl rfl (fun _ q => nomatch q) fun v18 h18 q18 l18 => ?_
  obtain ⟨b, kb, rfl, lb, E18, A18⟩ := q18
  refine g_iconst (pc' := 22) (w := 0) dj42_139_21 rfl (by decide) ?_
  refine g_invokespecial (pc' := 25) [a13] [_, _] dj42_139_22 rfl rfl (wl_String_209 hw) (wm_String_init_lABBrV hw) (wb_String_init_lABBrV hw) (by decide) (Pay.of_met (met_IBB hw (b := b) rfl rfl (by rw [e13]; exact EZ.1) (A13.ext E18) ((D13 (Or.inr (wy_String_String_value hw)) (ty := .array .byte) (by decide)).ext E18) ((D13 (Or.inr (wy_String_String_coder hw)) (ty := .byte) (by decide)).ext E18)) (wb_String_init_lABBrV hw) (wi_String hw) rfl rfl) pd_lABBrV rfl rfl rfl rfl rfl (fun _ q => List.mem_cons.mpr (Or.inl (List.mem_singleton.mp q))) fun v22 h22 q22 l22 => ?_
  obtain ⟨rfl, K22, E22, V22, C22⟩ := q22
  have hne : b ∉ [a13] := ninS (Nat.ne_of_gt (Nat.lt_of_lt_of_le A13.lt lb)) nin0
  exact g_areturn dj42_139_25 rfl rfl rfl rfl rfl rfl ⟨a13, rfl, Nat.le_of_eq e13.symm, ext_keep (ext_trans E13 E18) K22 (allS (Nat.le_of_eq e13.symm) all0), Str.of_lit E22 C22 V22 (A18.keep K22 hne) rfl rfl (by intro c' hc'; cases List.mem_singleton.mp hc'; exact ⟨hc0, hc⟩) (ble rfl)⟩
end ValueOf
/-! more steps: an array of references with its class, instanceof that says no, a tableswitch, methods with handlers -/
section More
variable {X : Cx} {R : Room} {Z : State} {a0 : Array Value} {EL : List (String × Nat)} {nw : Bool} {y : MethodName} {bs : ByteArray} {ml : Nat} {rt : Option FieldType} {Q : Option Value → Heap → Prop} {kc ks : Nat} {sf : List Addr} {h : Heap} {k n : Nat} {pc pc' : Nat} {Ls : Array Slot} {st : List Value}
theorem g_anewarrayX {C ad : String} {ix : Nat} {z : Int32} {cap : Nat} (had : "[" ++ (FieldType.object C).toString = ad) (hd : decode bs pc = .ok (.anewarray ix, 3)) (hp : pc + 3 = pc') (w : (Jvm.Cond.classLink y.cls ix C).before a0 Z = true) (w2 : (Jvm.Cond.arrayOver (.object C)).before a0 Z = true) (hz : ¬ z < 0) (hcap : z.toNatClampNeg = cap) (h8 : Nat.ble (cap * 8) 536870912 = true) (hk : Nat.ble (k + 1) R.cells = true) (hn : Nat.ble (n + cap) R.slots = true)
    (G : ∀ h' a kA, a = h.size → Ext h h' → Ovr Z kA C → Exa Z h' a ad → Arv Z h' a kA (.object C) z (List.replicate cap .null) .null → Go X R Z a0 EL nw y bs ml rt Q kc ks (a :: sf) h' (k + 1) (n + cap) (mkF X.m pc' Ls (.ref a :: st))) : Go X R Z a0 EL nw y bs ml rt Q kc ks sf h k n (mkF X.m pc Ls (.int z :: st)) := fun T S => by
  subst hp
  obtain ⟨F, vm0, L, X1, eT, hS, hZ, hown, hC, hF, hE, hs, hN⟩ := S
  obtain ⟨T', h', cA, X2, e2, E2, A2, B2, O2, stp⟩ := newRE X1 F.1 (Z := Z) hZ hown w w2 eT (g := mkF X.m pc Ls (.int z :: st)) rfl (hb F.2.1 hd) rfl hz (cap := cap) (Nat.le_of_eq hcap) (ble h8) (ble hk) (ble hn) had
  have A3 := (Arv.new A2 hz).pad (vs' := List.replicate cap (defaultValue (.object C))) (fun i => by have := pad_rep [] (defaultValue (.object C)) cap i; simpa using this)
  refine (G h' _ cA rfl E2 O2 B2 A3 T' ?_).back stp
  exact ⟨F, vm0, _, X2, e2, ⟨hS.1, hS.2.mono E2.1⟩, hZ, hown, hC.trans (CHr.ext E2 hC.1), hF, ext_trans hE E2, fun x hx => by
    rcases List.mem_cons.mp hx with rfl | hx
    · exact ⟨A3.lt, Safe.ext E2 hC.1 (Safe.new (Nat.le_refl _))⟩
    · exact ⟨Nat.lt_of_lt_of_le (hs x hx).1 E2.1, Safe.ext E2 hC.1 (hs x hx).2⟩, hN⟩
theorem g_instanceofN {K C : String} {ix : Nat} {a : Addr} (hd : decode bs pc = .ok (.instanceof ix, 3)) (hp : pc + 3 = pc') (w : (Jvm.Cond.classLink y.cls ix K).before a0 Z = true) (E : Exa Z h a C) (N : ∃ c t, Z.vm.findClass C = some c ∧ Z.vm.findClass K = some t ∧ Z.vm.assignable c t = false) (G : Go X R Z a0 EL nw y bs ml rt Q kc ks sf h k n (mkF X.m pc' Ls (.int 0 :: st))) : Go X R Z a0 EL nw y bs ml rt Q kc ks sf h k n (mkF X.m pc Ls (.ref a :: st)) := by
  subst hp
  exact Go.same (fun F X1 eT hZ hown => instNo X1 F.1 (Z := Z) hZ hown w eT E N (g := mkF X.m pc Ls (.ref a :: st)) rfl rfl (hb F.2.1 hd)) G
theorem g_tsw {dflt low high : Int} {offs : Array Int} {len : Nat} {o : Int} {i : Int32} (hd : decode bs pc = .ok (.tableswitch dflt low high offs, len)) (hin : ¬ (i.toInt < low ∨ i.toInt > high)) (hoff : offs[(i.toInt - low).toNat]? = some o) (ho : 0 ≤ (pc : Int) + o) (hp : ((pc : Int) + o).toNat = pc')
    (G : Go X R Z a0 EL nw y bs ml rt Q kc ks sf h k n (mkF X.m pc' Ls st)) : Go X R Z a0 EL nw y bs ml rt Q kc ks sf h k n (mkF X.m pc Ls (.int i :: st)) :=
  Go.step (fun T t hT hx hc q => XS.tswIn hT hx rfl rfl (hb hc hd) rfl hin hoff ho hp q) G
theorem g_getfieldV {R0 O nm d : String} {ix : Nat} {a : Addr} {v : Value} (hd : decode bs pc = .ok (.getfield ix, 3)) (hp : pc + 3 = pc') (w : (Jvm.Cond.fieldLink y.cls ix R0 nm d).before a0 Z = true) (via : Via Z R0 O nm d) (Fl : Fld Z h a O nm d v) (G : Go X R Z a0 EL nw y bs ml rt Q kc ks sf h k n (mkF X.m pc' Ls (v :: st))) : Go X R Z a0 EL nw y bs ml rt Q kc ks sf h k n (mkF X.m pc Ls (.ref a :: st)) := by
  subst hp
  exact Go.same (fun F X1 eT hZ hown => getF X1 F.1 (Z := Z) hZ hown (host := "") (Or.inl w) via eT Fl (g := mkF X.m pc Ls (.ref a :: st)) rfl rfl (hb F.2.1 hd)) G
theorem g_putfieldV {R0 O nm d C : String} {ix kk : Nat} {ty : FieldType} {a : Addr} {v old : Value} (hd : decode bs pc = .ok (.putfield ix, 3)) (hp : pc + 3 = pc') (w : (Jvm.Cond.fieldLink y.cls ix R0 nm d).before a0 Z = true) (via : Via Z R0 O nm d) (Fl : Fld Z h a O nm d old) (E : Exa Z h a C)
    (L : (Jvm.Cond.lays C O nm d).before a0 Z = true) (wi : (Jvm.Cond.instantiable C kk).before a0 Z = true) (hty : parseFieldDescriptor d = some ty) (hn : narrow ty v = v) (hf : fits ty v = true) (ha : Z.heap.size ≤ a) (hm : a ∈ sf)
    (G : ∀ h', Wr h h' a (RoadKit.slotOf Z O nm d) v → Go X R Z a0 EL nw y bs ml rt Q kc ks sf h' k n (mkF X.m pc' Ls st)) : Go X R Z a0 EL nw y bs ml rt Q kc ks sf h k n (mkF X.m pc Ls (v :: .ref a :: st)) := by
  subst hp
  exact Go.write (v := v) ha (sfIn hm) (fun F X1 eT hZ hown => putF X1 F.1 (Z := Z) hZ hown (host := "") (Or.inl w) via eT Fl E (Or.inl L) wi hty hn hf (g := mkF X.m pc Ls (v :: .ref a :: st)) rfl rfl (hb F.2.1 hd)) G
theorem g_getstaticN {O nm d host : String} {ix : Nat} {v : Value} (hd : decode bs pc = .ok (.getstatic ix, 3)) (hp : pc + 3 = pc') (w : (Jvm.Cond.fieldLinkNest y.cls ix O nm d host).before a0 Z = true) (Fl : Sta Z Z.heap O nm d v) (G : Go X R Z a0 EL nw y bs ml rt Q kc ks sf h k n (mkF X.m pc' Ls (v :: st))) : Go X R Z a0 EL nw y bs ml rt Q kc ks sf h k n (mkF X.m pc Ls st) := by
  subst hp
  exact Go.old fun E => Go.same (fun F X1 eT hZ hown => getS2 X1 F.1 (Z := Z) hZ hown (Or.inr w) Via.refl eT (Fl.ext E) (g := mkF X.m pc Ls st) rfl (hb F.2.1 hd)) G
theorem ns_root {O K : String} (w : (Jvm.Cond.noSuperclass O).before a0 Z = true) (ni : NI Z K) (hn : O ≠ K) : NS Z O K := by
  obtain ⟨c, k, h1, h2, h3, -, -⟩ := Cond.noSuperclass_spec w
  obtain ⟨t, kt, g1, g2, g3⟩ := ni
  have ne := ids_ne h1 g1 hn
  refine ⟨c, t, h1, g1, fun fuel => ?_⟩
  cases fuel with
  | zero => rfl
  | succ f => simp [Vm.isSubclassAux, ne, h2, h3]
theorem ns_no {C S K : String} (w : (Jvm.Cond.superclass C S).before a0 Z = true) (ni : NI Z K) (n : NS Z C K) (hn : C ≠ K) : ∃ c t, Z.vm.findClass C = some c ∧ Z.vm.findClass K = some t ∧ Z.vm.assignable c t = false := by
  obtain ⟨c, t, h0, g0, n3⟩ := n
  obtain ⟨p, k, kp, h1, h2, h3, h4, h5, -, h7⟩ := Cond.superclass_spec h0 w
  obtain ⟨t', kt, g1, g2, g3⟩ := ni
  cases g0.symm.trans g1
  have ne := ids_ne h0 g0 hn
  refine ⟨c, t, h0, g0, ?_⟩
  show Z.vm.assignableAux (255 + 1) c t = false
  cases hk : kt.kind <;> simp [Vm.assignableAux, ne, h2, g2, h5, hk, g3, Vm.isSubclass, n3]
/-- a method with an exception table, whose walk throws and interns nothing -/
theorem Pay.of_with {l : Launch} {rm : Room} {as' : Array Value} {W : Nat} {hsn : List (Nat × Nat × Nat × Nat)} (wsl : List Addr) (hpl : plainFor y = true) (EZ : Ext Z.heap h) (hlt : ∀ x ∈ wsl, x < h.size)
    (H : ∀ X : Cx, X.l = l → Go X rm Z a0 [] true y bs ml rt (fun v h' => Q v h' ∧ Keep h h' wsl) rm.cells rm.slots wsl h 0 0 (entryFrame X.m as' ml))
    (wc : (Jvm.Cond.codeWith y bs ml rt hsn).before a0 Z = true) (wz : (Jvm.Cond.initialized y.cls).before a0 Z = true) (hf : Nat.ble (rm.frames + 1) R.frames = true) (hl : Nat.ble (W + (ml + 11) + rm.locals) R.locals = true) (hw : ∀ x ∈ wsl, x ∈ sf ∧ Z.heap.size ≤ x) :
    Pay l R y W as' Z a0 EL nw sf h rm.cells rm.slots Q := by
  refine Pay.of_back (Q0 := fun v h' L => (Q v h' ∧ Keep h h' wsl) ∧ Fr Z.heap.size L) wsl (fun p e below s args len hZ => backOfWith (rm := rm) (hs := hsn) (as' := as') (h := h) (l := l) (p := p) (e := e) (below := below) (args := args) (len := len) (Q := fun v h' L => (Q v h' ∧ Keep h h' wsl) ∧ Fr Z.heap.size L) ?_ hZ wc wz (ble hf) (ble hl)) hw fun v h' L q => ⟨q.1.1, q.1.2, q.2⟩
  refine MetFree.of_bodySF hpl hisWith ?_
  intro p e s m args below meth c s₁ Bd hml0 hP hK
  obtain ⟨rfl, hZ, rfl⟩ := hP
  have e0 : s₁.heap = s.heap := by rw [Bd.state]; rfl
  have hC : CHv Z [] s.vm s.heap := fun p hp => nomatch hp
  obtain ⟨s₂, o, r1, r2, r3, v, L, ho, ⟨q1, q2, q3⟩, -, hN, hR⟩ := H (p, l, e, s, m, args, below, meth, c) rfl s₁ ⟨⟨Bd.exec, Bd.bytes, hml0, Bd.returns, (name_of_methodNamed Bd.named Bd.method).1, Bd.notSynchronized, EW.nil⟩, s.vm, [], Stand.of_body Bd, e0, (State.WarmedH.refl s).since _, hZ, findClass_of_methodNamed Bd.named, CHr.refl hC, Fr.nil _, EZ, fun x hx => ⟨hlt x hx, fun B => by obtain ⟨p, hp, -⟩ := B; exact nomatch hp⟩, fun _ => State.WarmedH.refl s⟩
  exact ⟨s₂, o, r1, r2, r3, v, L, ho, ⟨q1, q2⟩, hR.1, hN rfl, hR.2.2.2⟩
end More
/-! exceptions made by the walk: a stack trace is filled in beneath, so the tables' methods and the frames beneath must be known -/
section ExcW
open Jvm.Free.Exc
variable {X : Cx} {R : Room} {Z : State} {a0 : Array Value} {EL : List (String × Nat)} {nw : Bool} {y : MethodName} {bs : ByteArray} {ml : Nat} {rt : Option FieldType} {Q : Option Value → Heap → Prop} {kc ks : Nat} {sf : List Addr} {h : Heap} {k n : Nat} {pc pc' : Nat} {Ls : Array Slot} {st : List Value}
/-- what such a walk must know of its start -/
def Kn (X : Cx) (Z : State) : Prop := X.s.vm.MethodsKnown ∧ X.s.vm.FramesKnown X.below ∧ Ext Z.heap X.s.heap
def MetK (ws : List Jvm.Cond) (l : Launch) (y : MethodName) (bs : ByteArray) (ml : Nat) (rt : Option FieldType) (rm : Room) (as' : Array Value) (Z : State) (a0 : Array Value) (EL : List (String × Nat)) (nw : Bool) (sf : List Addr) (h : Heap) (Q : Option Value → Heap → Prop) : Prop :=
  MetFree l y (head1 (Jvm.Cond.code y bs ml rt :: ws) rm) (fun a U => a = as' ∧ Z.Warmed39 U.vm ∧ U.heap = h ∧ CHv Z EL U.vm h ∧ Ext Z.heap h ∧ EW Z a0 EL ∧ ∀ x ∈ sf, x < h.size ∧ Safe Z EL U.vm h x) (fun _ _ bl s _ => s.vm.MethodsKnown ∧ s.vm.FramesKnown bl)
    (fun _ U o U' => ∃ v L, o = .returned v ∧ (Q v U'.heap ∧ Fr Z.heap.size L ∧ Ext Z.heap U'.heap) ∧ CHr Z EL U.vm U.heap U'.vm U'.heap ∧ (nw = true → U.WarmedH U'.vm) ∧ ReturnedEndW U o U' L rm.cells rm.slots)
theorem MetK.of {ws : List Jvm.Cond} {l : Launch} {rm : Room} {as' : Array Value} (hpl : plainFor y = true)
    (H : ∀ X : Cx, X.l = l → Kn X Z → Go X rm Z a0 EL nw y bs ml rt Q rm.cells rm.slots sf h 0 0 (entryFrame X.m as' ml)) : MetK ws l y bs ml rt rm as' Z a0 EL nw sf h Q := by
  refine MetFree.of_bodySF hpl hisR ?_
  intro p e s m args below meth c s₁ Bd hml0 hP hK
  obtain ⟨rfl, hZ, rfl, hC, hE, hEL, hs⟩ := hP
  have e0 : s₁.heap = s.heap := by rw [Bd.state]; rfl
  exact H (p, l, e, s, m, args, below, meth, c) rfl ⟨hK.1, hK.2, hE⟩ s₁ ⟨⟨Bd.exec, Bd.bytes, hml0, Bd.returns, (name_of_methodNamed Bd.named Bd.method).1, Bd.notSynchronized, hEL⟩, s.vm, [], Stand.of_body Bd, e0, (State.WarmedH.refl s).since _, hZ, findClass_of_methodNamed Bd.named, CHr.refl hC, Fr.nil _, hE, hs, fun _ => State.WarmedH.refl s⟩
def PayK (l : Launch) (R : Room) (y : MethodName) (W : Nat) (as' : Array Value) (Z : State) (a0 : Array Value) (EL : List (String × Nat)) (nw : Bool) (sf : List Addr) (h : Heap) (kc ks : Nat) (Q : Option Value → Heap → Prop) : Prop :=
  ∀ (p : Program) (e : Env) (below : List Frame) (s : State) (args : Array Value) (len : Nat) (vm0 : Vm), p.tables.exec = Jvm.exec → Ext Z.heap s.heap → vm0.MethodsKnown → vm0.FramesKnown below → Z.Warmed39 vm0 → CHv Z EL vm0 h → Ext Z.heap h → (∀ x ∈ sf, x < h.size ∧ Safe Z EL vm0 h x) → EW Z a0 EL →
    BackS l R p e below (s.setVm vm0) args y len W (fun A a => a = as' ∧ A.U.heap = h ∧ A.cells + kc ≤ R.cells ∧ A.slots + ks ≤ R.slots)
      (fun A _ v B => ∃ L, (Q v B.U.heap ∧ Fr Z.heap.size L ∧ Ext Z.heap B.U.heap) ∧ B.locs = A.locs ++ L ∧ B.cells = A.cells + kc ∧ B.slots = A.slots + ks ∧ CHr Z EL vm0 h B.U.vm B.U.heap ∧ (nw = true → (s.setVm vm0).WarmedH B.U.vm))
theorem PayK.of_met {l : Launch} {rm : Room} {as' : Array Value} {W : Nat} (hM : MetK [] l y bs ml rt rm as' Z a0 EL nw sf h Q) (wc : (Jvm.Cond.code y bs ml rt).before a0 Z = true) (wz : (Jvm.Cond.initialized y.cls).before a0 Z = true) (hf : Nat.ble (rm.frames + 1) R.frames = true) (hl : Nat.ble (W + (ml + 11) + rm.locals) R.locals = true) :
    PayK l R y W as' Z a0 EL nw sf h rm.cells rm.slots Q := fun p e below s args len vm0 _ _ hTK hBelow hZ H hE hs hEL =>
  BackS.of_freeWG (bytes := bs) (maxL := ml) (ret := rt) (E := fun _ first o t L k n => k = rm.cells ∧ n = rm.slots ∧ (∃ v, o = .returned v ∧ Q v t.heap ∧ Fr Z.heap.size L ∧ Ext Z.heap t.heap) ∧ CHr Z EL first.vm first.heap t.vm t.heap ∧ (nw = true → first.WarmedH t.vm)) hM (ble hf) (ble hl)
    (fun m meth c A a Y hp => have hU : Z.Warmed39 A.U.vm := wtrans (s := s.setVm vm0) hZ Y.warmed
      ⟨by show (Jvm.Cond.and _ .tt).before a A.U = true; rw [Cond.before_and, mv hU wc]; rfl, mv hU wc, mv hU wz, hp.2.2.1, hp.2.2.2⟩)
    (fun m meth c A a g mk Y hp => ⟨hp.1, wtrans (s := s.setVm vm0) hZ Y.warmed, hp.2.1, (CHv.at Y hZ hEL H).1, hE, hEL, fun x hx => ⟨(hs x hx).1, (CHv.at Y hZ hEL H).safe (hs x hx).1 (hs x hx).2⟩⟩) (fun m meth c A a g mk Y _ hg => known_frames Y hg hTK hBelow)
    (fun _ _ _ _ ⟨v, L, h1, h2, h3, h5, h4⟩ => ⟨L, _, _, h4, rfl, rfl, ⟨v, h1, h2⟩, h3, h5⟩)
    (fun m meth c A a g mk v t L k n Y hp _ _ ⟨e1, e2, ⟨v', e3, e4⟩, e5, e6⟩ => by
      cases e3; subst e1 e2
      refine ⟨L, e4, rfl, rfl, rfl, (CHv.at Y hZ hEL H).trans ?_, fun q => State.WarmedH.trans Y.warmed (e6 q)⟩
      rw [← hp.2.1]; exact e5)
theorem g_staticK {ix : Nat} {y' : MethodName} {bs' : ByteArray} {ml' : Nat} {rt' : Option FieldType} {as' : Array Value} {kc' ks' : Nat} {Q' : Option Value → Heap → Prop} (Kx : Kn X Z) (sfc : List Addr) (argsL : List Value) {ps : List FieldType} {r : Option FieldType} (hd : decode bs pc = .ok (.invokestatic ix, 3)) (hp : pc + 3 = pc')
    (w1 : (Jvm.Cond.methodLink y.cls ix y').before a0 Z = true) (w2 : (Jvm.Cond.static y').before a0 Z = true) (w3 : (Jvm.Cond.initialized y'.cls).before a0 Z = true) (w4 : (Jvm.Cond.code y' bs' ml' rt').before a0 Z = true) (hy : y'.cls ≠ "java/lang/invoke/MethodHandle" ∧ y'.cls ≠ "java/lang/invoke/VarHandle")
    (P : PayK X.l R y' (st.map fun v => v.category).sum as' Z a0 EL nw sfc h kc' ks' Q') (hpd : parseMethodDescriptor y'.desc = some ⟨ps, r⟩) (hlen : argsL.length = ps.length) (hargs : argsL.toArray = as') (hz : Ls.size = ml) (hk : Nat.ble (k + kc') R.cells = true) (hn : Nat.ble (n + ks') R.slots = true) (hsf : ∀ x ∈ sfc, x ∈ sf)
    (G : ∀ v h', Q' v h' → h.size ≤ h'.size → Go X R Z a0 EL nw y bs ml rt Q kc ks sf h' (k + kc') (n + ks') (mkF X.m pc' Ls (v.toList ++ st))) : Go X R Z a0 EL nw y bs ml rt Q kc ks sf h k n (mkF X.m pc Ls (argsL.reverse ++ st)) := fun T S => by
  subst hp
  obtain ⟨F, vm0, L, X1, eT, hS, hZ, hown, hC, hF, hE, hs, hN⟩ := S
  have hal := hS.1.alike
  obtain ⟨v, vm1, B, -, X2, hS2, hle, hq, stp⟩ := callSS X1 F.1 (y := y') hown (mvT (s := X.s.setVm vm0) hZ w1) (mvT (s := X.s.setVm vm0) hZ w2) (mvT (s := X.s.setVm vm0) hZ w3) (mvT (s := X.s.setVm vm0) hZ w4) hy (P _ _ _ _ _ _ vm0 F.1 Kx.2.2 (Vm.MethodsKnown.alikeC hal Kx.1) (Vm.FramesKnown.alikeC hal Kx.2.1) hZ hC.1 hE (fun x hx => hs x (hsf x hx)) F.2.2.2.2.2.2) (g := mkF X.m pc Ls (argsL.reverse ++ st)) rfl (by rw [F.2.2.1]; exact hz) (argsL := argsL) (rest := st) (lenOf hpd hlen) rfl (by show 2 * 0 + _ ≤ _; omega) (hb F.2.1 hd) (fun _ _ => ⟨hargs, eT, ble hk, ble hn⟩)
  exact (Go.back F eT hS hZ hown hC hF hs X2 hS2 hle hq hN G).back fun t q => stp.trans q
/-- new, and the object is untouched -/
theorem g_newU {C : String} {ix sz : Nat} (hd : decode bs pc = .ok (.new ix, 3)) (hp : pc + 3 = pc') (w : (Jvm.Cond.classLink y.cls ix C).before a0 Z = true) (wi : (Jvm.Cond.instantiable C sz).before a0 Z = true) (wz : (Jvm.Cond.initialized C).before a0 Z = true) (hk : Nat.ble (k + 1) R.cells = true) (hn : Nat.ble (n + sz) R.slots = true)
    (G : ∀ h' a, a = h.size → Ext h h' → Exa Z h' a C → (∀ {O nm d : String} {ty : FieldType}, Laid Z a0 C O nm d → parseFieldDescriptor d = some ty → Fld Z h' a O nm d (defaultValue ty)) → Unt h' a → Go X R Z a0 EL nw y bs ml rt Q kc ks (a :: sf) h' (k + 1) (n + sz) (mkF X.m pc' Ls (.ref a :: st))) : Go X R Z a0 EL nw y bs ml rt Q kc ks sf h k n (mkF X.m pc Ls st) := fun T S => by
  subst hp
  obtain ⟨F, vm0, L, X1, eT, hS, hZ, hown, hC, hF, hE, hs, hN⟩ := S
  obtain ⟨T', h', X2, e2, E2, A2, D2, U2, stp⟩ := newO X1 F.1 (Z := Z) hZ hown w wi wz eT (g := mkF X.m pc Ls st) rfl (hb F.2.1 hd) (ble hk) (ble hn)
  refine (G h' _ rfl E2 A2 D2 U2 T' ?_).back stp
  exact ⟨F, vm0, _, X2, e2, ⟨hS.1, hS.2.mono E2.1⟩, hZ, hown, hC.trans (CHr.ext E2 hC.1), hF, ext_trans hE E2, fun x hx => by
    rcases List.mem_cons.mp hx with rfl | hx
    · exact ⟨A2.lt, Safe.ext E2 hC.1 (Safe.new (Nat.le_refl _))⟩
    · exact ⟨Nat.lt_of_lt_of_le (hs x hx).1 E2.1, Safe.ext E2 hC.1 (hs x hx).2⟩, hN⟩
/-- the constructor X(String) of a Throwable that only passes its argument on -/
theorem g_exc1 {ic nI : Nat} {rc : String} {links : List Link} {a : Addr} {msg : Value} (Kx : Kn X Z) (hl : X.l.stackTraces = true) (hd : decode bs pc = .ok (.invokespecial ic, 3)) (hp : pc + 3 = pc') (hok : linksOk 1 links = true)
    (w1 : (Jvm.Cond.methodLink y.cls ic (ctor 1 (headName links))).before a0 Z = true) (w2 : (Jvm.Cond.instanceMethod (ctor 1 (headName links))).before a0 Z = true) (wT : (chainTab 1 rc links).before a0 Z = true) (wi : (Jvm.Cond.instantiable rc nI).before a0 Z = true) (r : ∀ d ∈ twoRefs, d.before a0 Z = true)
    (E : Exa Z h a rc) (N : Unt h a) (B : Fld Z h a tN "backtrace" obD .null) (B2 : Fld Z h a tN "detailMessage" msgD .null) (hmsg : msg.isRef = true) (ha : Z.heap.size ≤ a) (hm : a ∈ sf) (hz : Ls.size = ml) (hf : Nat.ble (4 + links.length) R.frames = true) (hlo : Nat.ble ((st.map fun v => v.category).sum + (56 + 14 * links.length)) R.locals = true) (hk : Nat.ble (k + 1) R.cells = true) (hn : Nat.ble (n + 2752) R.slots = true)
    (G : ∀ h', Keep h h' [a] → Exa Z h' a rc → Unt h' a → Fld Z h' a tN "detailMessage" msgD msg → Fld Z h' a tN "cause" thD (.ref a) → Go X R Z a0 EL nw y bs ml rt Q kc ks sf h' (k + 1) (n + 2752) (mkF X.m pc' Ls st)) : Go X R Z a0 EL nw y bs ml rt Q kc ks sf h k n (mkF X.m pc Ls (msg :: .ref a :: st)) := fun T S => by
  subst hp
  obtain ⟨F, vm0, L, X1, eT, hS, hZ, hown, hC, hF, hE, hs, hN⟩ := S
  have hal := hS.1.alike
  obtain ⟨T', h', X2, e2, K, E', N', M', C', -, stp⟩ := excL1 X1 F.1 hl (Z := Z) (a0 := a0) hZ hown hok w1 w2 wT wi r (ThS.ext Kx.2.2 ThS.start) (ThS.ext hE ThS.start) (Vm.MethodsKnown.alikeC hal Kx.1) (Vm.FramesKnown.alikeC hal Kx.2.1) eT E N B B2 hmsg (g := mkF X.m pc Ls (msg :: .ref a :: st)) rfl (by rw [F.2.2.1]; exact hz) rfl (hb F.2.1 hd) (ble hf) (by show 2 * 0 + _ + _ ≤ _; have := ble hlo; omega) (ble hk) (ble hn)
  have KK := keep_of_kp K
  refine (G h' KK E' N' M' C' T' ?_).back stp
  exact Spot.next F X2 e2 hS hZ hown hC (CHr.keep KK (fun x hx => by cases List.mem_singleton.mp hx; exact (hs a hm).2) hC.1) (Fr.six hF ha) (ext_keep hE KK fun x hx => by cases List.mem_singleton.mp hx; exact ha) hs hN
/-- a call of a method that the named class inherits -/
theorem g_virtualUp {ix : Nat} {C owner : String} {y' z' : MethodName} {as' : Array Value} {kc' ks' : Nat} {Q' : Option Value → Heap → Prop} (sfc : List Addr) {a : Addr} (argsL : List Value) {ps : List FieldType} {r : Option FieldType} (hd : decode bs pc = .ok (.invokevirtual ix, 3)) (hp : pc + 3 = pc')
    (w1 : (Jvm.Cond.methodLink y.cls ix y').before a0 Z = true) (w0 : (Jvm.Cond.sameMethod y'.cls owner y'.name y'.desc).before a0 Z = true) (w2 : (Jvm.Cond.declares ⟨owner, y'.name, y'.desc⟩).before a0 Z = true) (ho : owner ≠ "java/lang/invoke/MethodHandle" ∧ owner ≠ "java/lang/invoke/VarHandle") (w3 : (Jvm.Cond.selects C y' z').before a0 Z = true) (w4 : (Jvm.Cond.instanceMethod z').before a0 Z = true)
    (E : Exa Z h a C) (P : Pay X.l R z' (st.map fun v => v.category).sum as' Z a0 EL nw sfc h kc' ks' Q') (hpd : parseMethodDescriptor y'.desc = some ⟨ps, r⟩) (hlen : argsL.length = ps.length) (hargs : (Value.ref a :: argsL).toArray = as') (hz : Ls.size = ml) (hk : Nat.ble (k + kc') R.cells = true) (hn : Nat.ble (n + ks') R.slots = true) (hsf : ∀ x ∈ sfc, x ∈ sf)
    (G : ∀ v h', Q' v h' → h.size ≤ h'.size → Go X R Z a0 EL nw y bs ml rt Q kc ks sf h' (k + kc') (n + ks') (mkF X.m pc' Ls (v.toList ++ st))) : Go X R Z a0 EL nw y bs ml rt Q kc ks sf h k n (mkF X.m pc Ls (argsL.reverse ++ .ref a :: st)) := fun T S => by
  subst hp
  obtain ⟨F, vm0, L, X1, eT, hS, hZ, hown, hC, hF, hE, hs, hN⟩ := S
  obtain ⟨cq, kq, qa, qb, qc⟩ := isOf (s := X.s.setVm vm0) hZ eT E
  obtain ⟨v, vm1, B, -, X2, hS2, hle, hq, stp⟩ := X1.virtualBackUpS F.1 (x := y') (y := z') hown (mvT (s := X.s.setVm vm0) hZ w1) (mvT (s := X.s.setVm vm0) hZ w0) (mvT (s := X.s.setVm vm0) hZ w2) ho (mvT (s := X.s.setVm vm0) hZ w3) (mvT (s := X.s.setVm vm0) hZ w4) (P _ _ _ _ _ _ vm0 hZ hC.1 hE (fun x hx => hs x (hsf x hx)) F.2.2.2.2.2.2) qa qc (g := mkF X.m pc Ls (argsL.reverse ++ .ref a :: st)) rfl (by rw [F.2.2.1]; exact hz) (Steps.refl _) (argsL := argsL) (rest := st) (lenOf hpd hlen) rfl (by show 2 * 0 + _ ≤ _; omega) (hb F.2.1 hd) (fun _ _ => ⟨hargs, eT, ble hk, ble hn⟩)
  exact (Go.back F eT hS hZ hown hC hF hs X2 hS2 hle hq hN G).back fun t q => stp.trans q
theorem g_specialK {ix : Nat} {y' : MethodName} {bs' : ByteArray} {ml' : Nat} {as' : Array Value} {kc' ks' : Nat} {Q' : Option Value → Heap → Prop} (Kx : Kn X Z) (sfc : List Addr) {a : Addr} (argsL : List Value) {ps : List FieldType} {r : Option FieldType} (hd : decode bs pc = .ok (.invokespecial ix, 3)) (hp : pc + 3 = pc') (hi : y'.name = "<init>")
    (w1 : (Jvm.Cond.methodLink y.cls ix y').before a0 Z = true) (w2 : (Jvm.Cond.instanceMethod y').before a0 Z = true) (w4 : (Jvm.Cond.code y' bs' ml' none).before a0 Z = true) (hy : y'.cls ≠ "java/lang/invoke/MethodHandle" ∧ y'.cls ≠ "java/lang/invoke/VarHandle")
    (P : PayK X.l R y' (st.map fun v => v.category).sum as' Z a0 EL nw sfc h kc' ks' Q') (hpd : parseMethodDescriptor y'.desc = some ⟨ps, r⟩) (hlen : argsL.length = ps.length) (hargs : (Value.ref a :: argsL).toArray = as') (hz : Ls.size = ml) (hk : Nat.ble (k + kc') R.cells = true) (hn : Nat.ble (n + ks') R.slots = true) (hsf : ∀ x ∈ sfc, x ∈ sf)
    (G : ∀ v h', Q' v h' → h.size ≤ h'.size → Go X R Z a0 EL nw y bs ml rt Q kc ks sf h' (k + kc') (n + ks') (mkF X.m pc' Ls (v.toList ++ st))) : Go X R Z a0 EL nw y bs ml rt Q kc ks sf h k n (mkF X.m pc Ls (argsL.reverse ++ .ref a :: st)) := fun T S => by
  subst hp
  obtain ⟨F, vm0, L, X1, eT, hS, hZ, hown, hC, hF, hE, hs, hN⟩ := S
  have hal := hS.1.alike
  obtain ⟨v, vm1, B, -, X2, hS2, hle, hq, stp⟩ := X1.specialBackS F.1 (y := y') hi hown (mvT (s := X.s.setVm vm0) hZ w1) (mvT (s := X.s.setVm vm0) hZ w2) (mvT (s := X.s.setVm vm0) hZ w4) hy (P _ _ _ _ _ _ vm0 F.1 Kx.2.2 (Vm.MethodsKnown.alikeC hal Kx.1) (Vm.FramesKnown.alikeC hal Kx.2.1) hZ hC.1 hE (fun x hx => hs x (hsf x hx)) F.2.2.2.2.2.2) (g := mkF X.m pc Ls (argsL.reverse ++ .ref a :: st)) rfl (by rw [F.2.2.1]; exact hz) (Steps.refl _) (a := a) (argsL := argsL) (rest := st) (lenOf hpd hlen) rfl (by show 2 * 0 + _ ≤ _; omega) (hb F.2.1 hd) (fun _ _ => ⟨hargs, eT, ble hk, ble hn⟩)
  exact (Go.back F eT hS hZ hown hC hF hs X2 hS2 hle hq hN G).back fun t q => stp.trans q
theorem g_virtualK {ix : Nat} {C : String} {y' z' : MethodName} {as' : Array Value} {kc' ks' : Nat} {Q' : Option Value → Heap → Prop} (Kx : Kn X Z) (sfc : List Addr) {a : Addr} (argsL : List Value) {ps : List FieldType} {r : Option FieldType} (hd : decode bs pc = .ok (.invokevirtual ix, 3)) (hp : pc + 3 = pc')
    (w1 : (Jvm.Cond.methodLink y.cls ix y').before a0 Z = true) (w2 : (Jvm.Cond.declares y').before a0 Z = true) (w3 : (Jvm.Cond.selects C y' z').before a0 Z = true) (w4 : (Jvm.Cond.instanceMethod z').before a0 Z = true) (hy : y'.cls ≠ "java/lang/invoke/MethodHandle" ∧ y'.cls ≠ "java/lang/invoke/VarHandle")
    (hnf : NF Z y') (E : Exa Z h a C) (P : PayK X.l R z' (st.map fun v => v.category).sum as' Z a0 EL nw sfc h kc' ks' Q') (hpd : parseMethodDescriptor y'.desc = some ⟨ps, r⟩) (hlen : argsL.length = ps.length) (hargs : (Value.ref a :: argsL).toArray = as') (hz : Ls.size = ml) (hk : Nat.ble (k + kc') R.cells = true) (hn : Nat.ble (n + ks') R.slots = true) (hsf : ∀ x ∈ sfc, x ∈ sf)
    (G : ∀ v h', Q' v h' → h.size ≤ h'.size → Go X R Z a0 EL nw y bs ml rt Q kc ks sf h' (k + kc') (n + ks') (mkF X.m pc' Ls (v.toList ++ st))) : Go X R Z a0 EL nw y bs ml rt Q kc ks sf h k n (mkF X.m pc Ls (argsL.reverse ++ .ref a :: st)) := fun T S => by
  subst hp
  obtain ⟨F, vm0, L, X1, eT, hS, hZ, hown, hC, hF, hE, hs, hN⟩ := S
  have hal := hS.1.alike
  obtain ⟨cq, kq, qa, qb, qc⟩ := isOf (s := X.s.setVm vm0) hZ eT E
  obtain ⟨v, vm1, B, -, X2, hS2, hle, hq, stp⟩ := X1.virtualBackS F.1 (y := y') (z := z') hown (mvT (s := X.s.setVm vm0) hZ w1) (mvT (s := X.s.setVm vm0) hZ w2) (hnf (X.s.setVm vm0) hZ) (mvT (s := X.s.setVm vm0) hZ w3) (mvT (s := X.s.setVm vm0) hZ w4) hy (P _ _ _ _ _ _ vm0 F.1 Kx.2.2 (Vm.MethodsKnown.alikeC hal Kx.1) (Vm.FramesKnown.alikeC hal Kx.2.1) hZ hC.1 hE (fun x hx => hs x (hsf x hx)) F.2.2.2.2.2.2) qa qc (g := mkF X.m pc Ls (argsL.reverse ++ .ref a :: st)) rfl (by rw [F.2.2.1]; exact hz) (Steps.refl _) (argsL := argsL) (rest := st) (lenOf hpd hlen) rfl (by show 2 * 0 + _ ≤ _; omega) (hb F.2.1 hd) (fun _ _ => ⟨hargs, eT, ble hk, ble hn⟩)
  exact (Go.back F eT hS hZ hown hC hF hs X2 hS2 hle hq hN G).back fun t q => stp.trans q
end ExcW
/-! String.hashCode() of Strings that may be a literal's: the cell's hash is no part of what a literal spells -/
section Hash
variable {X : Cx} {l : Launch} {R : Room} {Z : State} {a0 : Array Value} {EL : List (String × Nat)} {nw : Bool} {y : MethodName} {bs : ByteArray} {ml : Nat} {rt : Option FieldType} {Q : Option Value → Heap → Prop} {kc ks : Nat} {sf : List Addr} {h h' : Heap} {k n : Nat} {pc pc' : Nat} {Ls : Array Slot} {st : List Value} {W : Nat} {z : Int32}
theorem slb_wr {vm : Vm} {q : Jvm.Free.SB.SQ} {u : Array UInt16} {a : Addr} {sl : Nat} {v : Value} (F : SlB (Wst Z vm h) q u) (w : Wr h h' a sl v) (n1 : sl ≠ q.fSV.slot) (n2 : sl ≠ q.fSC.slot) (nd : a ≠ q.sd) : ∃ q' : Jvm.Free.SB.SQ, q'.sa = q.sa ∧ q'.sd = q.sd ∧ SlB (Wst Z vm h') q' u := by
  obtain ⟨c0, e1, e2, e3, rfl⟩ := w
  have hd : (h.setIfInBounds a (c0.setSlot sl v))[q.sd]? = some q.SA := by rw [Array.getElem?_setIfInBounds_ne nd]; exact F.hd
  by_cases ha : a = q.sa
  · subst ha
    obtain ⟨cS, ⟨⟨h1, h2, h3, h4, h5, h6, h7, h8, h9, h10, h11, rest⟩, hc, hcl⟩, ⟨kS, k1, k2, k3⟩, g1, g2⟩ := F
    have ec : c0 = q.sC := Option.some.inj (e1.symm.trans h1)
    subst ec
    have hlt := (Array.getElem?_eq_some_iff.mp e1).1
    refine ⟨(q.sa, q.sC.setSlot sl v, q.fSV, q.fSC, q.sd, q.SA, q.len), rfl, rfl, cS, ⟨⟨?_, h2, h3, Jvm.Free.SBG.found_asg (Vm.Alike.refl vm) h4, Jvm.Free.SBG.found_asg (Vm.Alike.refl vm) h5, h6, h7, ?_, ?_, hd, h11, rest⟩, hc, hcl⟩, ⟨kS, k1, k2, ?_⟩, g1, g2⟩
    · show (h.setIfInBounds q.sa (q.sC.setSlot sl v))[q.sa]? = _
      exact Array.getElem?_setIfInBounds_self_of_lt hlt
    · show (q.sC.slots.setIfInBounds sl v)[q.fSV.slot]? = _
      rw [Array.getElem?_setIfInBounds_ne n1]; exact h8
    · show (q.sC.slots.setIfInBounds sl v)[q.fSC.slot]? = _
      rw [Array.getElem?_setIfInBounds_ne n2]; exact h9
    · show (q.sC.slots.setIfInBounds sl v).size = _
      rw [Array.size_setIfInBounds]; exact k3
  · exact ⟨q, rfl, rfl, F.carry (V := Wst Z vm (h.setIfInBounds a (c0.setSlot sl v))) (Vm.Alike.refl _) (by show (h.setIfInBounds a _)[q.sa]? = _; rw [Array.getElem?_setIfInBounds_ne ha]; exact F.ha) hd⟩
theorem slot_found {vm : Vm} {nm d : String} {f : Field} {cl : ClassId} (hal : Z.vm.Alike vm) (q : ∃ c k i, (Wst Z vm h).fieldFound? SN nm d = some (c, k, i, f) ∧ (Wst Z vm h).vm.assignable cl c = true) : RoadKit.slotOf Z SN nm d = f.slot := by
  obtain ⟨c, k, i, e, -⟩ := q
  obtain ⟨k', e', -⟩ := State.fieldFound?_setVm (s := Wst Z vm h) (vm' := Z.vm) hal.symm e
  have e2 : Z.fieldFound? SN nm d = some (c, k', i, f) := e'
  show ((Z.fieldFound? SN nm d).map (·.2.2.2.slot)).getD 0 = _
  rw [e2]
  rfl
theorem CHr.wrh {vm : Vm} {a : Addr} {sl : Nat} {v : Value} (hal : Z.vm.Alike vm) (E : Exa Z h a SN) (w : Wr h h' a sl v) (n1 : sl ≠ RoadKit.slotOf Z SN "value" "[B") (n2 : sl ≠ RoadKit.slotOf Z SN "coder" "B") (H : CHv Z EL vm h) : CHr Z EL vm h vm h' := by
  have key : ∀ p ∈ EL, ∀ (u : Array UInt16) (b : Addr), Booksv vm p.1 p.2 u b → ∃ q q' : Jvm.Free.SB.SQ, q.sa = b ∧ SlB (Wst Z vm h) q u ∧ q'.sa = q.sa ∧ q'.sd = q.sd ∧ SlB (Wst Z vm h') q' u := fun p hp u b hb => by
    obtain ⟨q, hq, F⟩ := SlB.of (H p hp u b hb)
    have s1 : RoadKit.slotOf Z SN "value" "[B" = q.fSV.slot := by obtain ⟨cS, ⟨⟨-, -, -, h4, -⟩, -⟩, -⟩ := F; exact slot_found hal h4
    have s2 : RoadKit.slotOf Z SN "coder" "B" = q.fSC.slot := by obtain ⟨cS, ⟨⟨-, -, -, -, h5, -⟩, -⟩, -⟩ := F; exact slot_found hal h5
    have nd : a ≠ q.sd := fun e => by
      obtain ⟨cell, kk, c1, c2, -⟩ := E
      have c3 := F.hd
      obtain ⟨cS, -, -, g1, -⟩ := F
      rw [e] at c1
      have c4 : cell = q.SA := Option.some.inj (c1.symm.trans c3)
      have g2 : Z.vm.findClass "[B" = some q.SA.cls := by rw [← hal.findClass]; exact g1
      rw [← c4] at g2
      obtain ⟨k1, q1, q2⟩ := Vm.findClass_spec g2
      obtain ⟨k2, q3, q4⟩ := Vm.findClass_spec c2
      cases q1.symm.trans q3
      exact absurd (q2.symm.trans q4) (by decide)
    obtain ⟨q', r1, r2, r3⟩ := slb_wr F w (by rw [← s1]; exact n1) (by rw [← s2]; exact n2) nd
    exact ⟨q, q', hq, F, r1, r2, r3⟩
  refine ⟨fun p hp u b hb => by obtain ⟨q, q', rfl, -, e, -, F⟩ := key p hp u b hb; rw [← e]; exact F.to, by obtain ⟨c0, -, -, -, rfl⟩ := w; simp, fun y B => Or.inl ?_⟩
  obtain ⟨p, hp, u, b, hb, q2, hq2, F2, hy⟩ := B
  obtain ⟨q, q', hq, F, r1, r2, G⟩ := key p hp u b hb
  have e1 : q2.sa = q'.sa := by rw [hq2, r1, hq]
  have e2 : q2.sC = q'.sC := by have := F2.ha; rw [e1, G.ha] at this; exact (Option.some.inj this).symm
  have e3 := G.same F2 (Vm.Alike.refl _) e1 e2
  exact ⟨p, hp, u, b, hb, q, hq, F, hy.imp (fun t => by rw [t, e1, r1]) (fun t => by rw [t, e3, r2])⟩
/-- a put into a String's field that is neither value nor coder -/
theorem g_putfieldH {nm d : String} {ix kk : Nat} {ty : FieldType} {a : Addr} {v old : Value} (hd : decode bs pc = .ok (.putfield ix, 3)) (hp : pc + 3 = pc') (w : (Jvm.Cond.fieldLink y.cls ix SN nm d).before a0 Z = true) (Fl : Fld Z h a SN nm d old) (E : Exa Z h a SN)
    (L : (Jvm.Cond.lays SN SN nm d).before a0 Z = true) (wi : (Jvm.Cond.instantiable SN kk).before a0 Z = true) (hty : parseFieldDescriptor d = some ty) (hn : narrow ty v = v) (hf : fits ty v = true) (ha : Z.heap.size ≤ a) (n1 : RoadKit.slotOf Z SN nm d ≠ RoadKit.slotOf Z SN "value" "[B") (n2 : RoadKit.slotOf Z SN nm d ≠ RoadKit.slotOf Z SN "coder" "B")
    (G : ∀ h', Wr h h' a (RoadKit.slotOf Z SN nm d) v → Go X R Z a0 EL nw y bs ml rt Q kc ks sf h' k n (mkF X.m pc' Ls st)) : Go X R Z a0 EL nw y bs ml rt Q kc ks sf h k n (mkF X.m pc Ls (v :: .ref a :: st)) := fun T S => by
  subst hp
  obtain ⟨F, vm0, L', X1, eT, hS, hZ, hown, hC, hF, hE, hs, hN⟩ := S
  obtain ⟨T', h', X2, e2, w2, q⟩ := putF X1 F.1 (Z := Z) hZ hown (host := "") (Or.inl w) Via.refl eT Fl E (Or.inl L) wi hty hn hf (g := mkF X.m pc Ls (v :: .ref a :: st)) rfl rfl (hb F.2.1 hd)
  exact (G h' w2 T' (Spot.next F X2 e2 hS hZ hown hC (CHr.wrh hZ.alike E w2 n1 n2 hC.1) (Fr.snoc X2 hF ha) (ext_keep hE (Keep.of_wr w2) (allS ha all0)) hs hN)).back q
theorem own_lsw {tb : Tables} [Ours tb] {e : Env} {below : List Frame} {T target : State} {m : MethodId} {c : Code} {g : JFrame} (h : At T m c below) (hx : tb.exec = Jvm.exec) (hg : g.method = m) {dflt : Int} {pairs : Array (Int × Int)} {len : Nat} {o : Int} {pc0 pc' : Nat} (hpc : g.pc = pc0) (hd : decode c.code g.pc = .ok (.lookupswitch dflt pairs, len)) {i : Int32} {rest : List Value} (hs : g.stack = .int i :: rest)
    (hsrt : ∀ a b a1 b1 : Int, ((a, b), a1, b1) ∈ pairs.toList.zip pairs.toList.tail → a < a1) (hoff : Op.lookupswitch.offset pairs.toList dflt i.toInt = o) (ho : 0 ≤ (pc0 : Int) + o) (hp : ((pc0 : Int) + o).toNat = pc')
    (hr : Steps tb e below (T.setTop { g with pc := pc', stack := rest }) target) : Steps tb e below (T.setTop g) target := by
  subst hg hpc hp hoff
  jvm_step h [h.top, hx, hd, hs, ho, Op.lookupswitch.wp_chain]
  first | exact hr | exact ⟨hsrt, hr⟩
theorem g_lsw {dflt : Int} {pairs : Array (Int × Int)} {len : Nat} {o : Int} {i : Int32} (hd : decode bs pc = .ok (.lookupswitch dflt pairs, len)) (hsrt : ∀ a b a1 b1 : Int, ((a, b), a1, b1) ∈ pairs.toList.zip pairs.toList.tail → a < a1) (hoff : Op.lookupswitch.offset pairs.toList dflt i.toInt = o) (ho : 0 ≤ (pc : Int) + o) (hp : ((pc : Int) + o).toNat = pc')
    (G : Go X R Z a0 EL nw y bs ml rt Q kc ks sf h k n (mkF X.m pc' Ls st)) : Go X R Z a0 EL nw y bs ml rt Q kc ks sf h k n (mkF X.m pc Ls (.int i :: st)) :=
  Go.step (fun T t hT hx hc q => own_lsw hT hx rfl rfl (hb hc hd) rfl hsrt hoff ho hp q) G
/-! what the hash is -/
def hS (cs : List Int32) : Int32 := cs.foldl (fun r c => 31 * r + c) 0
theorem hS_step (cs : List Int32) (i : Nat) (hi : i < cs.length) : hS (cs.take (i + 1)) = 31 * hS (cs.take i) + cs.getD i 0 := by
  have e1 : cs.take (i + 1) = cs.take i ++ [cs.getD i 0] := by
    rw [List.take_add_one]
    simp [List.getD_eq_getElem?_getD, hi]
  rw [e1, hS, List.foldl_append]
  rfl
theorem by_at {cs : List Int32} {d : Value} {i : Nat} (hi : i < cs.length) : (bys cs).getD i d = .int (StrChars.lo8 (cs.getD i 0)) := by
  simp [bys, List.getD_eq_getElem?_getD, hi]
abbrev ySHC : MethodName := ⟨"jdk/internal/util/ArraysSupport", "signedHashCode", "(I[BII)I"⟩
abbrev yVHC : MethodName := ⟨"jdk/internal/util/ArraysSupport", "vectorizedHashCode", "(Ljava/lang/Object;IIII)I"⟩
abbrev yLHC : MethodName := ⟨"java/lang/StringLatin1", "hashCode", "([B)I"⟩
abbrev yIsL : MethodName := ⟨"java/lang/String", "isLatin1", "()Z"⟩
abbrev yHsh : MethodName := ⟨"java/lang/String", "hashCode", "()I"⟩
theorem met_SHC (hw : ∀ d ∈ tables_1, d.before a0 Z = true) {t : Addr} {kb : ClassId} {cs : List Int32} (hl : cs.length ≤ 4000) (hc : ∀ c ∈ cs, ¬ c < 0 ∧ ¬ (255 : Int32) < c) (A : Arv Z h t kb .byte (Int32.ofNat cs.length) (bys cs) (.int 0)) :
    MetW [] l ySHC jdk_48_method_5_code 6 (some .int) (Rm 0 0 0 0) #[.int 0, .ref t, .int 0, .int (Int32.ofNat cs.length)] Z a0 EL nw [] h (fun v h' => v = some (.int (hS cs)) ∧ h' = h) := by
  refine MetW.of (by first | exact plainFor_of_name (by first | (simp [plainName, overriddenIn]; done) | decide +kernel) | decide +kernel) fun X hX => Go.old fun EZ => ?_
  show Go X _ _ _ _ _ _ _ _ _ _ _ _ _ _ _ _ (mkF X.m 0 #[.val (.int 0), .val (.ref t), .val (.int 0), .val (.int (Int32.ofNat cs.length)), .unset, .unset] [])
  refine g_iloadN (pc' := 1) dj48_5_0 rfl rfl ?_
  refine g_iloadN (pc' := 2) dj48_5_1 rfl rfl ?_
  refine g_iadd (pc' := 3) dj48_5_2 rfl ?_
  refine g_istore (pc' := 5) (Ls' := #[_, _, _, _, _, _]) dj48_5_3 rfl rfl ?_
  refine g_iloadN (pc' := 6) dj48_5_5 rfl rfl ?_
  refine g_istore (pc' := 8) (Ls' := #[_, _, _, _, _, _]) dj48_5_6 rfl rfl ?_
  rw [Int32.zero_add]
  have loop : ∀ r i acc, cs.length - i = r → i ≤ cs.length → acc = hS (cs.take i) →
      Go X (Rm 0 0 0 0) Z a0 EL nw ySHC jdk_48_method_5_code 6 (some .int) (fun v h' => v = some (.int (hS cs)) ∧ h' = h) (Rm 0 0 0 0).cells (Rm 0 0 0 0).slots [] h 0 0 (mkF X.m 8 #[.val (.int acc), .val (.ref t), .val (.int 0), .val (.int (Int32.ofNat cs.length)), .val (.int (Int32.ofNat cs.length)), .val (.int (Int32.ofNat i))] []) := by
    intro r
    induction r with
    | zero =>
      intro i acc hr hi ha
      have ei : i = cs.length := by omega
      subst ei
      rw [List.take_length] at ha
      subst ha
      refine g_iload (pc' := 10) dj48_5_8 rfl rfl ?_
      refine g_iload (pc' := 12) dj48_5_10 rfl rfl ?_
      refine g_icmpge (pc' := 15) (pc2 := 35) dj48_5_12 rfl (by decide) rfl (fun c12 => False.elim (absurd c12 (fun q => absurd ((ofNat_lt (by omega) (by omega)).mp q) (by omega)))) (fun c12 => ?_)
      refine g_iloadN (pc' := 36) dj48_5_35 rfl rfl ?_
      refine g_ireturn (t := .int) dj48_5_36 rfl (by simp) rfl rfl rfl (⟨rfl, rfl⟩)
    | succ r ih =>
      intro i acc hr hi ha
      have ci : i < cs.length := by omega
      have hcc := hc (cs.getD i 0) (by simp [List.getD_eq_getElem?_getD, ci])
      refine g_iload (pc' := 10) dj48_5_8 rfl rfl ?_
      refine g_iload (pc' := 12) dj48_5_10 rfl rfl ?_
      refine g_icmpge (pc' := 15) (pc2 := 35) dj48_5_12 rfl (by decide) rfl (fun c12 => ?_) (fun c12 => False.elim (c12 ((ofNat_lt (by omega) (by omega)).mpr ci)))
      refine g_bipush (pc' := 17) (w := 31) dj48_5_15 rfl (by decide) ?_
      refine g_iloadN (pc' := 18) dj48_5_17 rfl rfl ?_
      refine g_imul (pc' := 19) dj48_5_18 rfl ?_
      refine g_aloadN (pc' := 20) dj48_5_19 rfl rfl rfl ?_
      refine g_iload (pc' := 22) dj48_5_20 rfl rfl ?_
      refine g_baload (pc' := 23) (w := StrChars.lo8 (cs.getD i 0)) dj48_5_22 rfl (A) (⟨ofNat_nn (by omega), c12⟩) (by rw [ofNat_clamp (by omega)]; exact by_at ci) ?_
      refine g_sipush (pc' := 26) (w := 255) dj48_5_23 rfl (by decide) ?_
      refine g_iand (pc' := 27) dj48_5_26 rfl ?_
      rw [StrChars.lo8_mask hcc.1 hcc.2]
      refine g_iadd (pc' := 28) dj48_5_27 rfl ?_
      refine g_istoreN (pc' := 29) (Ls' := #[_, _, _, _, _, _]) dj48_5_28 rfl rfl ?_
      refine g_iinc (pc' := 32) (Ls' := #[.val (.int (31 * acc + cs.getD i 0)), .val (.ref t), .val (.int 0), .val (.int (Int32.ofNat cs.length)), .val (.int (Int32.ofNat cs.length)), .val (.int (Int32.ofNat (i + 1)))]) dj48_5_29 rfl rfl (by rw [ofNat_succ]; rfl) ?_
      refine g_goto (pc' := 8) dj48_5_32 (by decide) rfl ?_
      exact ih (i + 1) _ (by omega) (by omega) (by rw [hS_step cs i ci, ha])
  exact loop _ 0 0 rfl (Nat.zero_le _) rfl
theorem met_VHC (hw : ∀ d ∈ tables_1, d.before a0 Z = true) {t : Addr} {kb : ClassId} {cs : List Int32} (hl : cs.length ≤ 4000) (hc : ∀ c ∈ cs, ¬ c < 0 ∧ ¬ (255 : Int32) < c) (A : Arv Z h t kb .byte (Int32.ofNat cs.length) (bys cs) (.int 0)) (E : Exa Z h t "[B") :
    MetW [] l yVHC jdk_48_method_4_code 5 (some .int) (Rm 1 0 0 30) #[.ref t, .int 0, .int (Int32.ofNat cs.length), .int 0, .int 4] Z a0 EL nw [] h (fun v h' => v = some (.int (hS cs)) ∧ h' = h) := by
  refine MetW.of (by first | exact plainFor_of_name (by first | (simp [plainName, overriddenIn]; done) | decide +kernel) | decide +kernel) fun X hX => Go.old fun EZ => ?_
  show Go X _ _ _ _ _ _ _ _ _ _ _ _ _ _ _ _ (mkF X.m 0 #[.val (.ref t), .val (.int 0), .val (.int (Int32.ofNat cs.length)), .val (.int 0), .val (.int 4)] [])
  refine g_iload (pc' := 2) dj48_4_0 rfl rfl ?_
  refine g_tsw (pc' := 44) (o := 42) dj48_4_2 (by decide) rfl (by decide) rfl ?_
  refine g_iloadN (pc' := 45) dj48_4_44 rfl rfl ?_
  refine g_aloadN (pc' := 46) dj48_4_45 rfl rfl rfl ?_
  refine g_checkcast (pc' := 49) dj48_4_46 rfl (wc_ArraysSupport_60 hw) (Ins.self E) ?_
  refine g_iloadN (pc' := 50) dj48_4_49 rfl rfl ?_
  refine g_iloadN (pc' := 51) dj48_4_50 rfl rfl ?_
  refine g_invokestatic (pc' := 54) [] [_, _, _, _] dj48_4_51 rfl (wl_ArraysSupport_62 hw) (ws_ArraysSupport_signedHashCode_lIABIIrI hw) (wi_ArraysSupport hw) (wb_ArraysSupport_signedHashCode_lIABIIrI hw) (by decide) (Pay.of_met (met_SHC hw hl hc A) (wb_ArraysSupport_signedHashCode_lIABIIrI hw) (wi_ArraysSupport hw) rfl rfl) pd_lIABIIrI rfl rfl rfl rfl rfl (fun _ q => nomatch q) fun v51 h51 q51 l51 => ?_
  obtain ⟨rfl, e51⟩ := q51
  have e51 := e51.symm
  subst e51
  refine g_goto (pc' := 157) dj48_4_54 (by decide) rfl ?_
  refine g_ireturn (t := .int) dj48_4_157 rfl (by simp) rfl rfl rfl (⟨rfl, rfl⟩)
theorem met_LHC (hw : ∀ d ∈ tables_1, d.before a0 Z = true) {t : Addr} {kb : ClassId} {cs : List Int32} (hl : cs.length ≤ 2) (hc : ∀ c ∈ cs, ¬ c < 0 ∧ ¬ (255 : Int32) < c) (A : Arv Z h t kb .byte (Int32.ofNat cs.length) (bys cs) (.int 0)) (E : cs.length ≤ 1 ∨ Exa Z h t "[B") :
    MetW [] l yLHC jdk_43_method_21_code 1 (some .int) (Rm 2 0 0 60) #[.ref t] Z a0 EL nw [] h (fun v h' => v = some (.int (hS cs)) ∧ h' = h) := by
  match cs, hl, hc, A, E with
  | [], hl, hc, A, E =>
    refine MetW.of (by first | exact plainFor_of_name (by first | (simp [plainName, overriddenIn]; done) | decide +kernel) | decide +kernel) fun X hX => Go.old fun EZ => ?_
    show Go X _ _ _ _ _ _ _ _ _ _ _ _ _ _ _ _ (mkF X.m 0 #[.val (.ref t)] [])
    refine g_aloadN (pc' := 1) dj43_21_0 rfl rfl rfl ?_
    refine g_arraylength (pc' := 2) dj43_21_1 rfl (A) ?_
    refine g_lsw (pc' := 28) (o := 26) dj43_21_2 (by intro a b a1 b1 hm; simp at hm; omega) (by show Op.lookupswitch.offset [(0, 26), (1, 30)] 40 (Int32.ofNat 0).toInt = 26; decide) (by decide) rfl ?_
    refine g_iconst (pc' := 29) (w := 0) dj43_21_28 rfl (by decide) ?_
    refine g_goto (pc' := 51) dj43_21_29 (by decide) rfl ?_
    refine g_ireturn (t := .int) dj43_21_51 rfl (by simp) rfl rfl rfl (⟨rfl, rfl⟩)
  | [c], hl, hc, A, E =>
    have hcc := hc c (by simp)
    refine MetW.of (by first | exact plainFor_of_name (by first | (simp [plainName, overriddenIn]; done) | decide +kernel) | decide +kernel) fun X hX => Go.old fun EZ => ?_
    show Go X _ _ _ _ _ _ _ _ _ _ _ _ _ _ _ _ (mkF X.m 0 #[.val (.ref t)] [])
    refine g_aloadN (pc' := 1) dj43_21_0 rfl rfl rfl ?_
    refine g_arraylength (pc' := 2) dj43_21_1 rfl (A) ?_
    refine g_lsw (pc' := 32) (o := 30) dj43_21_2 (by intro a b a1 b1 hm; simp at hm; omega) (by show Op.lookupswitch.offset [(0, 26), (1, 30)] 40 (Int32.ofNat 1).toInt = 30; decide) (by decide) rfl ?_
    refine g_aloadN (pc' := 33) dj43_21_32 rfl rfl rfl ?_
    refine g_iconst (pc' := 34) (w := 0) dj43_21_33 rfl (by decide) ?_
    refine g_baload (pc' := 35) (w := StrChars.lo8 c) dj43_21_34 rfl (A) (⟨by decide, by show (0 : Int32) < Int32.ofNat 1; decide⟩) rfl ?_
    refine g_sipush (pc' := 38) (w := 255) dj43_21_35 rfl (by decide) ?_
    refine g_iand (pc' := 39) dj43_21_38 rfl ?_
    rw [StrChars.lo8_mask hcc.1 hcc.2]
    refine g_goto (pc' := 51) dj43_21_39 (by decide) rfl ?_
    refine g_ireturn (t := .int) dj43_21_51 rfl (by simp) rfl rfl rfl (⟨by simp [hS], rfl⟩)
  | [c, d], hl, hc, A, E =>
    have E' : Exa Z h t "[B" := E.resolve_left (by simp)
    refine MetW.of (by first | exact plainFor_of_name (by first | (simp [plainName, overriddenIn]; done) | decide +kernel) | decide +kernel) fun X hX => Go.old fun EZ => ?_
    show Go X _ _ _ _ _ _ _ _ _ _ _ _ _ _ _ _ (mkF X.m 0 #[.val (.ref t)] [])
    refine g_aloadN (pc' := 1) dj43_21_0 rfl rfl rfl ?_
    refine g_arraylength (pc' := 2) dj43_21_1 rfl (A) ?_
    refine g_lsw (pc' := 42) (o := 40) dj43_21_2 (by intro a b a1 b1 hm; simp at hm; omega) (by show Op.lookupswitch.offset [(0, 26), (1, 30)] 40 (Int32.ofNat 2).toInt = 40; decide) (by decide) rfl ?_
    refine g_aloadN (pc' := 43) dj43_21_42 rfl rfl rfl ?_
    refine g_iconst (pc' := 44) (w := 0) dj43_21_43 rfl (by decide) ?_
    refine g_aloadN (pc' := 45) dj43_21_44 rfl rfl rfl ?_
    refine g_arraylength (pc' := 46) dj43_21_45 rfl (A) ?_
    refine g_iconst (pc' := 47) (w := 0) dj43_21_46 rfl (by decide) ?_
    refine g_iconst (pc' := 48) (w := 4) dj43_21_47 rfl (by decide) ?_
    refine g_invokestatic (pc' := 51) [] [_, _, _, _, _] dj43_21_48 rfl (wl_StringLatin1_84 hw) (ws_ArraysSupport_vectorizedHashCode_lLjavalangObjectIIIIrI hw) (wi_ArraysSupport hw) (wb_ArraysSupport_vectorizedHashCode_lLjavalangObjectIIIIrI hw) (by decide) (Pay.of_met (met_VHC hw (cs := [c, d]) (by simp) hc A E') (wb_ArraysSupport_vectorizedHashCode_lLjavalangObjectIIIIrI hw) (wi_ArraysSupport hw) rfl rfl) pd_lLjavalangObjectIIIIrI rfl rfl rfl rfl rfl (fun _ q => nomatch q) fun v48 h48 q48 l48 => ?_
    obtain ⟨rfl, e48⟩ := q48
    have e48 := e48.symm
    subst e48
    refine g_ireturn (t := .int) dj43_21_51 rfl (by simp) rfl rfl rfl (⟨rfl, rfl⟩)
  | c :: d :: e :: r, hl, hc, A, E => simp at hl
theorem met_isL (hw : ∀ d ∈ tables_1, d.before a0 Z = true) (S : Sta Z Z.heap "java/lang/String" "COMPACT_STRINGS" "Z" (.int z)) (hz : ¬ z = 0) {x : Addr} (C : Fld Z h x SN "coder" "B" (.int 0)) : MetW [] l yIsL jdk_42_method_154_code 1 (some .boolean) (Rm 0 0 0 0) #[.ref x] Z a0 EL nw [] h (fun v h' => v = some (.int 1) ∧ h' = h) := by
  refine MetW.of (by first | exact plainFor_of_name (by first | (simp [plainName, overriddenIn]; done) | decide +kernel) | decide +kernel) fun X hX => Go.old fun EZ => ?_
  show Go X _ _ _ _ _ _ _ _ _ _ _ _ _ _ _ _ (mkF X.m 0 #[.val (.ref x)] [])
  refine g_getstatic (pc' := 3) dj42_154_0 rfl (wf_String_38 hw) (S) ?_
  refine g_ifeq (pc' := 6) (pc2 := 17) dj42_154_3 rfl (by decide) rfl (fun c3 => ?_) (fun c3 => False.elim (hz c3))
  refine g_aloadN (pc' := 7) dj42_154_6 rfl rfl rfl ?_
  refine g_getfield (pc' := 10) dj42_154_7 rfl (wf_String_15 hw) (C) ?_
  refine g_ifne (pc' := 13) (pc2 := 17) dj42_154_10 rfl (by decide) rfl (fun c10 => ?_) (fun c10 => False.elim (c10 rfl))
  refine g_iconst (pc' := 14) (w := 1) dj42_154_13 rfl (by decide) ?_
  refine g_goto (pc' := 18) dj42_154_14 (by decide) rfl ?_
  refine g_ireturn (t := .boolean) dj42_154_18 rfl (by simp) rfl rfl rfl (⟨rfl, rfl⟩)
/-! the Strings that are hashed -/
/-- what x keeps as its hash is right -/
def HV (Z : State) (h : Heap) (x : Addr) (cs : List Int32) : Prop := ∃ a b : Int32, Fld Z h x SN "hash" "I" (.int a) ∧ Fld Z h x SN "hashIsZero" "Z" (.int b) ∧ (¬ a = 0 → a = hS cs) ∧ (¬ b = 0 → a = 0 → hS cs = 0)
theorem HV.new {x : Addr} {cs : List Int32} (H : HF Z h x) : HV Z h x cs := ⟨0, 0, H.1, H.2, fun q => absurd rfl q, fun q => absurd rfl q⟩
/-- one hashed String -/
def HStr (Z : State) (h : Heap) (p : Addr × List Int32) : Prop := Z.heap.size ≤ p.1 ∧ Str Z h p.1 p.2 ∧ HV Z h p.1 p.2 ∧ BA Z h p.1 p.2 ∧ (∀ c ∈ p.2, ¬ c < 0 ∧ ¬ (255 : Int32) < c) ∧ p.2.length ≤ 2
/-- all the Strings at hand -/
def WS (Z : State) (h : Heap) (L : List (Addr × List Int32)) : Prop := (∀ p ∈ L, HStr Z h p) ∧ ∀ p ∈ L, ∀ q ∈ L, p.1 = q.1 → p.2 = q.2
/-- hashes alone were written -/
def He (Z : State) (h h' : Heap) (L : List (Addr × List Int32)) : Prop := Keep h h' (L.map Prod.fst) ∧ WS Z h' L
theorem HStr.ext {p : Addr × List Int32} (S : HStr Z h p) (E : Ext h h') : HStr Z h' p := by
  obtain ⟨h1, h2, ⟨a, b, h3, h4, h5⟩, h6, h7⟩ := S
  exact ⟨h1, h2.ext E, ⟨a, b, h3.ext E, h4.ext E, h5⟩, h6.imp id fun ⟨t, q1, q2⟩ => ⟨t, q1.ext E, q2.ext E⟩, h7⟩
theorem HStr.keep {p : Addr × List Int32} {ws : List Addr} (S : HStr Z h p) (K : Keep h h' ws) (hn : ∀ x ∈ ws, ¬ Exa Z h x SN) (hb : ∀ x ∈ ws, ∀ {k : ClassId} {N : Int32} {vs : List Value}, ¬ Arv Z h x k .byte N vs (.int 0)) : HStr Z h' p := by
  obtain ⟨h1, ⟨E, t, kb, cd, N2, vs, V, C, A, r⟩, ⟨a, b, h3, h4, h5⟩, h6, h7⟩ := S
  have nx : p.1 ∉ ws := fun q => hn _ q E
  exact ⟨h1, ⟨E.keep K, t, kb, cd, N2, vs, V.keep K nx, C.keep K nx, A.keep K (fun q => hb _ q A), r⟩, ⟨a, b, h3.keep K nx, h4.keep K nx, h5⟩, h6.imp id fun ⟨t, q1, q2⟩ => ⟨t, q1.keep K nx, q2.keep K⟩, h7⟩
theorem WS.ext {L : List (Addr × List Int32)} (S : WS Z h L) (E : Ext h h') : WS Z h' L := ⟨fun p hp => (S.1 p hp).ext E, S.2⟩
theorem WS.keep {L : List (Addr × List Int32)} {ws : List Addr} (S : WS Z h L) (K : Keep h h' ws) (hn : ∀ x ∈ ws, ¬ Exa Z h x SN) (hb : ∀ x ∈ ws, ∀ {k : ClassId} {N : Int32} {vs : List Value}, ¬ Arv Z h x k .byte N vs (.int 0)) : WS Z h' L := ⟨fun p hp => (S.1 p hp).keep K hn hb, S.2⟩
theorem He.refl {L : List (Addr × List Int32)} (S : WS Z h L) : He Z h h L := ⟨Keep.refl _ _, S⟩
theorem He.trans {h2 : Heap} {L : List (Addr × List Int32)} (A : He Z h h' L) (B : He Z h' h2 L) : He Z h h2 L := ⟨A.1.trans B.1 (fun _ q => Or.inl q), B.2⟩
theorem str_wro (hw : ∀ d ∈ tables_1, d.before a0 Z = true) {x x' : Addr} {cs : List Int32} {sl : Nat} {v : Value} (T : Str Z h x cs) (E : Exa Z h x' SN) (w : Wr h h' x' sl v) (n1 : sl ≠ RoadKit.slotOf Z SN "value" "[B") (n2 : sl ≠ RoadKit.slotOf Z SN "coder" "B") : Str Z h' x cs := by
  obtain ⟨E1, t, kb, cd, N2, vs, V, C, A, r⟩ := T
  exact ⟨E1.wr w, t, kb, cd, N2, vs, V.other w (Or.inr n1.symm), C.other w (Or.inr n2.symm), A.other w (E.neArv A (wn_String hw)).symm, r⟩
theorem He.hash (hw : ∀ d ∈ tables_1, d.before a0 Z = true) {L : List (Addr × List Int32)} (S : WS Z h L) {p : Addr × List Int32} (hp : p ∈ L) (w : Wr h h' p.1 (RoadKit.slotOf Z SN "hash" "I") (.int (hS p.2))) : He Z h h' L := by
  refine ⟨(Keep.refl _ _).wr w (Or.inl (List.mem_map_of_mem hp)), fun q hq => ?_, S.2⟩
  obtain ⟨h1, h2, ⟨a, b, h3, h4, h5, h6⟩, h7, h8⟩ := S.1 q hq
  have Ep := (S.1 p hp).2.1.1
  refine ⟨h1, str_wro hw h2 Ep w (ha_ne1 hw) (ha_ne2 hw), ?_, h7.imp id fun ⟨t, q1, q2⟩ => ⟨t, q1.other w (Or.inr (ha_ne1 hw).symm), q2.wr w⟩, h8⟩
  by_cases e : q.1 = p.1
  · have e2 := S.2 q hq p hp e
    refine ⟨hS p.2, b, ?_, h4.other w (Or.inr (ha_ne5 hw).symm), fun _ => by rw [e2], fun _ r => by rw [e2]; exact r⟩
    rw [e] at h3 ⊢
    exact h3.same w
  · exact ⟨a, b, h3.other w (Or.inl e), h4.other w (Or.inl e), h5, h6⟩
theorem He.zero (hw : ∀ d ∈ tables_1, d.before a0 Z = true) {L : List (Addr × List Int32)} (S : WS Z h L) {p : Addr × List Int32} (hp : p ∈ L) (hz0 : hS p.2 = 0) (w : Wr h h' p.1 (RoadKit.slotOf Z SN "hashIsZero" "Z") (.int 1)) : He Z h h' L := by
  refine ⟨(Keep.refl _ _).wr w (Or.inl (List.mem_map_of_mem hp)), fun q hq => ?_, S.2⟩
  obtain ⟨h1, h2, ⟨a, b, h3, h4, h5, h6⟩, h7, h8⟩ := S.1 q hq
  have Ep := (S.1 p hp).2.1.1
  refine ⟨h1, str_wro hw h2 Ep w (ha_ne3 hw) (ha_ne4 hw), ?_, h7.imp id fun ⟨t, q1, q2⟩ => ⟨t, q1.other w (Or.inr (ha_ne3 hw).symm), q2.wr w⟩, h8⟩
  by_cases e : q.1 = p.1
  · have e2 := S.2 q hq p hp e
    refine ⟨a, 1, h3.other w (Or.inr (ha_ne5 hw)), ?_, h5, fun _ _ => by rw [e2]; exact hz0⟩
    rw [e] at h4 ⊢
    exact h4.same w
  · exact ⟨a, b, h3.other w (Or.inl e), h4.other w (Or.inl e), h5, h6⟩
theorem str_narr {x : Addr} {cs : List Int32} (T : Str Z h x cs) (hp : ∀ c ∈ cs, ¬ c < 0 ∧ ¬ (255 : Int32) < c) : ∃ t kb, Fld Z h x SN "value" "[B" (.ref t) ∧ Fld Z h x SN "coder" "B" (.int 0) ∧ Arv Z h t kb .byte (Int32.ofNat cs.length) (bys cs) (.int 0) := by
  obtain ⟨t, kb, N2, vs, V, C, A, hc, -, -⟩ := T.lat (fun c q => (hp c q).2)
  rcases hc with ⟨-, rfl, rfl, -⟩ | ⟨q, -⟩
  · exact ⟨t, kb, V, C, A⟩
  · exact absurd q (by decide)
theorem met_hash (hw : ∀ d ∈ tables_1, d.before a0 Z = true) (S : Sta Z Z.heap "java/lang/String" "COMPACT_STRINGS" "Z" (.int z)) (hz : ¬ z = 0) {L : List (Addr × List Int32)} (Ws : WS Z h L) {p : Addr × List Int32} (hp : p ∈ L) :
    MetW [] l yHsh jdk_42_method_78_code 2 (some .int) (Rm 4 0 0 100) #[.ref p.1] Z a0 EL nw [] h (fun v h' => v = some (.int (hS p.2)) ∧ He Z h h' L) := by
  obtain ⟨x, cs⟩ := p
  obtain ⟨hx, T, ⟨a, b, Fa, Fb, ha, hb0⟩, Ba, hc, hl⟩ := Ws.1 _ hp
  obtain ⟨t, kb, V, C, A⟩ := str_narr T hc
  have Et : cs.length ≤ 1 ∨ Exa Z h t "[B" := Ba.imp id fun ⟨t', V', E'⟩ => by
    have e : t = t' := Decidable.byContradiction fun q => V.ne V' (fun e => q (Value.ref.inj e)) rfl
    rw [e]; exact E'
  have Ex : Exa Z h x SN := T.1
  refine MetW.of (by first | exact plainFor_of_name (by first | (simp [plainName, overriddenIn]; done) | decide +kernel) | decide +kernel) fun X hX => Go.old fun EZ => ?_
  show Go X _ _ _ _ _ _ _ _ _ _ _ _ _ _ _ _ (mkF X.m 0 #[.val (.ref x), .unset] [])
  refine g_aloadN (pc' := 1) dj42_78_0 rfl rfl rfl ?_
  refine g_getfield (pc' := 4) dj42_78_1 rfl (wf_String_19 hw) (Fa) ?_
  refine g_istoreN (pc' := 5) (Ls' := #[_, _]) dj42_78_4 rfl rfl ?_
  refine g_iloadN (pc' := 6) dj42_78_5 rfl rfl ?_
  refine g_ifne (pc' := 9) (pc2 := 58) dj42_78_6 rfl (by decide) rfl (fun c6 => ?_) (fun c6 => ?_)
  · refine g_aloadN (pc' := 10) dj42_78_9 rfl rfl rfl ?_
    refine g_getfield (pc' := 13) dj42_78_10 rfl (wf_String_23 hw) (Fb) ?_
    refine g_ifne (pc' := 16) (pc2 := 58) dj42_78_13 rfl (by decide) rfl (fun c13 => ?_) (fun c13 => ?_)
    · refine g_aloadN (pc' := 17) dj42_78_16 rfl rfl rfl ?_
      refine g_invokevirtualN (pc' := 20) [] [] dj42_78_17 rfl (wl_String_492 hw) (wd_String_isLatin1_lrZ hw) (wv_String_String_isLatin1_lrZ hw) (wm_String_isLatin1_lrZ hw) (by decide) (NF.sel (wv_String_String_isLatin1_lrZ hw)) (Ex) (Pay.of_met (met_isL hw S hz C) (wb_String_isLatin1_lrZ hw) (wi_String hw) rfl rfl) pd_lrZ rfl rfl rfl rfl rfl (fun _ q => nomatch q) fun v17 h17 q17 l17 => ?_
      obtain ⟨rfl, e17⟩ := q17
      have e17 := e17.symm
      subst e17
      refine g_ifeq (pc' := 23) (pc2 := 33) dj42_78_20 rfl (by decide) rfl (fun c20 => ?_) (fun c20 => False.elim (absurd c20 (by decide)))
      refine g_aloadN (pc' := 24) dj42_78_23 rfl rfl rfl ?_
      refine g_getfield (pc' := 27) dj42_78_24 rfl (wf_String_9 hw) (V) ?_
      refine g_invokestatic (pc' := 30) [] [_] dj42_78_27 rfl (wl_String_628 hw) (ws_StringLatin1_hashCode_lABrI hw) (wi_StringLatin1 hw) (wb_StringLatin1_hashCode_lABrI hw) (by decide) (Pay.of_met (met_LHC hw hl hc A Et) (wb_StringLatin1_hashCode_lABrI hw) (wi_StringLatin1 hw) rfl rfl) pd_lABrI rfl rfl rfl rfl rfl (fun _ q => nomatch q) fun v27 h27 q27 l27 => ?_
      obtain ⟨rfl, e27⟩ := q27
      have e27 := e27.symm
      subst e27
      refine g_goto (pc' := 40) dj42_78_30 (by decide) rfl ?_
      refine g_istoreN (pc' := 41) (Ls' := #[_, _]) dj42_78_40 rfl rfl ?_
      refine g_iloadN (pc' := 42) dj42_78_41 rfl rfl ?_
      refine g_ifne (pc' := 45) (pc2 := 53) dj42_78_42 rfl (by decide) rfl (fun c42 => ?_) (fun c42 => ?_)
      · refine g_aloadN (pc' := 46) dj42_78_45 rfl rfl rfl ?_
        refine g_iconst (pc' := 47) (w := 1) dj42_78_46 rfl (by decide) ?_
        refine g_putfieldH (pc' := 50) dj42_78_47 rfl (wf_String_23 hw) Fb Ex (wy_String_String_hashIsZero hw) (wn_String hw) (ty := .boolean) (by decide) rfl rfl hx (ha_ne3 hw) (ha_ne4 hw) fun h47 W47 => ?_
        refine g_goto (pc' := 58) dj42_78_50 (by decide) rfl ?_
        refine g_iloadN (pc' := 59) dj42_78_58 rfl rfl ?_
        refine g_ireturn (t := .int) dj42_78_59 rfl (by simp) rfl rfl rfl (⟨rfl, He.zero hw Ws hp c42 W47⟩)
      · refine g_aloadN (pc' := 54) dj42_78_53 rfl rfl rfl ?_
        refine g_iloadN (pc' := 55) dj42_78_54 rfl rfl ?_
        refine g_putfieldH (pc' := 58) dj42_78_55 rfl (wf_String_19 hw) Fa Ex (wy_String_String_hash hw) (wn_String hw) (ty := .int) (by decide) rfl rfl hx (ha_ne1 hw) (ha_ne2 hw) fun h55 W55 => ?_
        refine g_iloadN (pc' := 59) dj42_78_58 rfl rfl ?_
        refine g_ireturn (t := .int) dj42_78_59 rfl (by simp) rfl rfl rfl (⟨rfl, He.hash hw Ws hp W55⟩)
    · refine g_iloadN (pc' := 59) dj42_78_58 rfl rfl ?_
      refine g_ireturn (t := .int) dj42_78_59 rfl (by simp) rfl rfl rfl (⟨by rw [c6]; exact congrArg (fun q => some (Value.int q)) (hb0 c13 c6).symm, He.refl Ws⟩)
  · refine g_iloadN (pc' := 59) dj42_78_58 rfl rfl ?_
    refine g_ireturn (t := .int) dj42_78_59 rfl (by simp) rfl rfl rfl (⟨by rw [ha c6], He.refl Ws⟩)
end Hash
/-! java.util.ArrayList: made empty, elements added (the first one grows it to ten places) -/
section ALs
variable {l : Launch} {R : Room} {Z : State} {a0 : Array Value} {EL : List (String × Nat)} {nw : Bool} {h : Heap} {W : Nat}
abbrev ALN : String := "java/util/ArrayList"
abbrev ALB' : String := "java/util/AbstractList"
abbrev OBN : String := "java/lang/Object"
abbrev OAD : String := "[Ljava/lang/Object;"
abbrev yACi : MethodName := ⟨"java/util/AbstractCollection", "<init>", "()V"⟩
abbrev yABi : MethodName := ⟨"java/util/AbstractList", "<init>", "()V"⟩
abbrev yALi : MethodName := ⟨"java/util/ArrayList", "<init>", "()V"⟩
abbrev yAdd : MethodName := ⟨"java/util/ArrayList", "add", "(Ljava/lang/Object;)Z"⟩
abbrev yAdd3 : MethodName := ⟨"java/util/ArrayList", "add", "(Ljava/lang/Object;[Ljava/lang/Object;I)V"⟩
abbrev yGrow : MethodName := ⟨"java/util/ArrayList", "grow", "()[Ljava/lang/Object;"⟩
abbrev yGrowI : MethodName := ⟨"java/util/ArrayList", "grow", "(I)[Ljava/lang/Object;"⟩
/-- ArrayList's shared empty array -/
def DefA (Z : State) (d : Addr) : Prop := Sta Z Z.heap ALN "DEFAULTCAPACITY_EMPTY_ELEMENTDATA" OAD (.ref d) ∧ ∃ k, Arv Z Z.heap d k (.object OBN) 0 [] .null
/-- an ArrayList that holds xs, over the array t (the shared one, or one of ten places) -/
def ALd (Z : State) (h : Heap) (a t d : Addr) (xs : List Addr) : Prop :=
  Exa Z h a ALN ∧ Fld Z h a ALN "elementData" OAD (.ref t) ∧ Fld Z h a ALN "size" "I" (.int (Int32.ofNat xs.length)) ∧ (∃ mc, Fld Z h a ALB' "modCount" "I" (.int mc)) ∧ ((xs = [] ∧ t = d) ∨ (xs ≠ [] ∧ xs.length ≤ 2 ∧ Z.heap.size ≤ t ∧ ∃ k, Arv Z h t k (.object OBN) 10 (xs.map Value.ref ++ List.replicate (10 - xs.length) .null) .null ∧ Ovr Z k OBN ∧ Exa Z h t OAD))
theorem ALd.ext {h' : Heap} {a t d : Addr} {xs : List Addr} (S : ALd Z h a t d xs) (E : Ext h h') : ALd Z h' a t d xs := by
  obtain ⟨h1, h2, h3, ⟨mc, h4⟩, h5⟩ := S
  exact ⟨h1.ext E, h2.ext E, h3.ext E, ⟨mc, h4.ext E⟩, h5.imp id fun ⟨q1, q2, q3, k, q4, q5, q6⟩ => ⟨q1, q2, q3, k, q4.ext E, q5, q6.ext E⟩⟩
theorem al_ne1 (hw : ∀ d ∈ tables_1, d.before a0 Z = true) : RoadKit.slotOf Z ALN "elementData" OAD ≠ RoadKit.slotOf Z ALB' "modCount" "I" := slot_ne (Or.inl (wy_ArrayList_ArrayList_elementData hw)) (Or.inl (wy_ArrayList_AbstractList_modCount hw)) (by decide) (t := .array (.object "java/lang/Object")) (t' := .int) (by decide) (by decide)
theorem al_ne2 (hw : ∀ d ∈ tables_1, d.before a0 Z = true) : RoadKit.slotOf Z ALN "size" "I" ≠ RoadKit.slotOf Z ALB' "modCount" "I" := slot_ne (Or.inl (wy_ArrayList_ArrayList_size hw)) (Or.inl (wy_ArrayList_AbstractList_modCount hw)) (by decide) (t := .int) (t' := .int) (by decide) (by decide)
theorem al_ne3 (hw : ∀ d ∈ tables_1, d.before a0 Z = true) : RoadKit.slotOf Z ALN "size" "I" ≠ RoadKit.slotOf Z ALN "elementData" OAD := slot_ne (Or.inl (wy_ArrayList_ArrayList_size hw)) (Or.inl (wy_ArrayList_ArrayList_elementData hw)) (by decide) (t := .int) (t' := .array (.object "java/lang/Object")) (by decide) (by decide)
theorem met_ACi (hw : ∀ d ∈ tables_1, d.before a0 Z = true) {a : Addr} : MetW [] l yACi jdk_22_method_1_code 1 none (Rm 1 0 0 12) #[.ref a] Z a0 EL nw [] h (fun v h' => v = none ∧ h' = h) := by
  refine MetW.of (by first | exact plainFor_of_name (by first | (simp [plainName, overriddenIn]; done) | decide +kernel) | decide +kernel) fun X hX => Go.old fun EZ => ?_
  show Go X _ _ _ _ _ _ _ _ _ _ _ _ _ _ _ _ (mkF X.m 0 #[.val (.ref a)] [])
  refine g_aloadN (pc' := 1) dj22_1_0 rfl rfl rfl ?_
  refine g_objinit (pc' := 4) dj22_1_1 rfl (wl_AbstractCollection_1 hw) (wm_Object_init_lrV hw) (wb_Object_init_lrV hw) rfl rfl rfl ?_
  refine g_return dj22_1_4 rfl rfl rfl (⟨rfl, rfl⟩)
theorem met_ABi (hw : ∀ d ∈ tables_1, d.before a0 Z = true) {a : Addr} {v0 : Value} (ha : Z.heap.size ≤ a) (E : Exa Z h a ALN) (Fm : Fld Z h a ALB' "modCount" "I" v0) : MetW [] l yABi jdk_39_method_1_code 1 none (Rm 2 0 0 30) #[.ref a] Z a0 EL nw [a] h (fun v h' => v = none ∧ Wr h h' a (RoadKit.slotOf Z ALB' "modCount" "I") (.int 0)) := by
  refine MetW.of (by first | exact plainFor_of_name (by first | (simp [plainName, overriddenIn]; done) | decide +kernel) | decide +kernel) fun X hX => Go.old fun EZ => ?_
  show Go X _ _ _ _ _ _ _ _ _ _ _ _ _ _ _ _ (mkF X.m 0 #[.val (.ref a)] [])
  refine g_aloadN (pc' := 1) dj39_1_0 rfl rfl rfl ?_
  refine g_invokespecial (pc' := 4) [] [] dj39_1_1 rfl rfl (wl_AbstractList_1 hw) (wm_AbstractCollection_init_lrV hw) (wb_AbstractCollection_init_lrV hw) (by decide) (Pay.of_met (met_ACi hw) (wb_AbstractCollection_init_lrV hw) (wi_AbstractCollection hw) rfl rfl) pd_lrV rfl rfl rfl rfl rfl (fun _ q => nomatch q) fun v1 h1 q1 l1 => ?_
  obtain ⟨rfl, e1⟩ := q1
  have e1 := e1.symm
  subst e1
  refine g_aloadN (pc' := 5) dj39_1_4 rfl rfl rfl ?_
  refine g_iconst (pc' := 6) (w := 0) dj39_1_5 rfl (by decide) ?_
  refine g_putfield (pc' := 9) dj39_1_6 rfl (wf_AbstractList_7 hw) (Fm) (E) (Or.inl (wy_ArrayList_AbstractList_modCount hw)) (wn_ArrayList hw) (ty := .int) (by decide) rfl rfl (ha) (by simp) fun h6 W6 => ?_
  refine g_return dj39_1_9 rfl rfl rfl (⟨rfl, W6⟩)
theorem met_ALi (hw : ∀ d ∈ tables_1, d.before a0 Z = true) {a d : Addr} {v0 v1 : Value} (D : DefA Z d) (ha : Z.heap.size ≤ a) (E : Exa Z h a ALN) (Fe : Fld Z h a ALN "elementData" OAD v0) (Fs : Fld Z h a ALN "size" "I" (.int 0)) (Fm : Fld Z h a ALB' "modCount" "I" v1) : MetW [] l yALi jdk_38_method_2_code 1 none (Rm 3 0 0 45) #[.ref a] Z a0 EL nw [a] h (fun v h' => v = none ∧ Keep h h' [a] ∧ ALd Z h' a d d []) := by
  refine MetW.of (by first | exact plainFor_of_name (by first | (simp [plainName, overriddenIn]; done) | decide +kernel) | decide +kernel) fun X hX => Go.old fun EZ => ?_
  show Go X _ _ _ _ _ _ _ _ _ _ _ _ _ _ _ _ (mkF X.m 0 #[.val (.ref a)] [])
  refine g_aloadN (pc' := 1) dj38_2_0 rfl rfl rfl ?_
  refine g_invokespecial (pc' := 4) [a] [] dj38_2_1 rfl rfl (wl_ArrayList_1 hw) (wm_AbstractList_init_lrV hw) (wb_AbstractList_init_lrV hw) (by decide) (Pay.of_met (met_ABi hw ha E Fm) (wb_AbstractList_init_lrV hw) (wi_AbstractList hw) rfl rfl) pd_lrV rfl rfl rfl rfl rfl (fun _ q => q) fun v1 h1 q1 l1 => ?_
  obtain ⟨rfl, W1⟩ := q1
  refine g_aloadN (pc' := 5) dj38_2_4 rfl rfl rfl ?_
  refine g_getstatic (pc' := 8) dj38_2_5 rfl (wf_ArrayList_39 hw) (D.1) ?_
  refine g_putfield (pc' := 11) dj38_2_8 rfl (wf_ArrayList_9 hw) (Fe.other W1 (Or.inr (al_ne1 hw))) (E.wr W1) (Or.inl (wy_ArrayList_ArrayList_elementData hw)) (wn_ArrayList hw) (ty := (.array (.object "java/lang/Object"))) (by decide) rfl rfl (ha) (by simp) fun h8 W8 => ?_
  refine g_return dj38_2_11 rfl rfl rfl (⟨rfl, ((Keep.refl h [a]).wr W1 (Or.inl (List.mem_cons_self ..))).wr W8 (Or.inl (List.mem_cons_self ..)), (E.wr W1).wr W8, (Fe.other W1 (Or.inr (al_ne1 hw))).same W8, (Fs.other W1 (Or.inr (al_ne2 hw))).other W8 (Or.inr (al_ne3 hw)), ⟨0, (Fm.same W1).other W8 (Or.inr (al_ne1 hw).symm)⟩, Or.inl ⟨rfl, rfl⟩⟩)
theorem met_growI (hw : ∀ d ∈ tables_1, d.before a0 Z = true) {a d : Addr} (D : DefA Z d) (ha : Z.heap.size ≤ a) (E : Exa Z h a ALN) (Fe : Fld Z h a ALN "elementData" OAD (.ref d)) : MetW [] l yGrowI jdk_38_method_6_code 4 (some (.array (.object OBN))) (Rm 1 1 10 30) #[.ref a, .int (Int32.ofNat 1)] Z a0 EL nw [a] h (fun v h' => ∃ t k hm, v = some (.ref t) ∧ t = h.size ∧ Ext h hm ∧ Wr hm h' a (RoadKit.slotOf Z ALN "elementData" OAD) (.ref t) ∧ Arv Z h' t k (.object OBN) 10 (List.replicate 10 .null) .null ∧ Ovr Z k OBN ∧ Exa Z h' t OAD) := by
  obtain ⟨Ds, kd, Da⟩ := D
  refine MetW.of (by first | exact plainFor_of_name (by first | (simp [plainName, overriddenIn]; done) | decide +kernel) | decide +kernel) fun X hX => Go.old fun EZ => ?_
  show Go X _ _ _ _ _ _ _ _ _ _ _ _ _ _ _ _ (mkF X.m 0 #[.val (.ref a), .val (.int (Int32.ofNat 1)), .unset, .unset] [])
  refine g_aloadN (pc' := 1) dj38_6_0 rfl rfl rfl ?_
  refine g_getfield (pc' := 4) dj38_6_1 rfl (wf_ArrayList_9 hw) (Fe) ?_
  refine g_arraylength (pc' := 5) dj38_6_4 rfl ((Da.ext EZ)) ?_
  refine g_istoreN (pc' := 6) (Ls' := #[_, _, _, _]) dj38_6_5 rfl rfl ?_
  refine g_iloadN (pc' := 7) dj38_6_6 rfl rfl ?_
  refine g_ifgt (pc' := 10) (pc2 := 20) dj38_6_7 rfl (by decide) rfl (fun c7 => ?_) (fun c7 => False.elim (absurd c7 (by decide)))
  refine g_aloadN (pc' := 11) dj38_6_10 rfl rfl rfl ?_
  refine g_getfield (pc' := 14) dj38_6_11 rfl (wf_ArrayList_9 hw) (Fe) ?_
  refine g_getstatic (pc' := 17) dj38_6_14 rfl (wf_ArrayList_39 hw) (Ds) ?_
  refine g_acmp (pc' := 20) (pc2 := 45) dj38_6_17 rfl (by decide) rfl rfl rfl (fun c17 => False.elim (absurd c17 (by simp [XT.acmp]))) (fun c17 => ?_)
  refine g_aloadN (pc' := 46) dj38_6_45 rfl rfl rfl ?_
  refine g_bipush (pc' := 48) (w := 10) dj38_6_46 rfl (by decide) ?_
  refine g_iloadN (pc' := 49) dj38_6_48 rfl rfl ?_
  refine g_invokestatic (pc' := 52) [] [_, _] dj38_6_49 rfl (wl_ArrayList_79 hw) (ws_Math_max_lIIrI hw) (wi_Math hw) (wb_Math_max_lIIrI hw) (by decide) (Pay.of_met (met_max hw (a := 10) (b := 1) (by omega) (by omega)) (wb_Math_max_lIIrI hw) (wi_Math hw) rfl rfl) pd_lIIrI rfl rfl rfl rfl rfl (fun _ q => nomatch q) fun v49 h49 q49 l49 => ?_
  obtain ⟨rfl, rfl⟩ := q49
  refine g_anewarrayX (ad := OAD) (by decide) (pc' := 55) (cap := 10) dj38_6_52 rfl (wc_ArrayList_7 hw) (wo_Object hw) (by decide) (by decide) rfl rfl rfl fun h52 a52 k52 e52 E52 O52 B52 A52 => ?_
  refine g_dup_x1 (pc' := 56) dj38_6_55 rfl rfl rfl ?_
  refine g_putfield (pc' := 59) dj38_6_56 rfl (wf_ArrayList_9 hw) (Fe.ext E52) (E.ext E52) (Or.inl (wy_ArrayList_ArrayList_elementData hw)) (wn_ArrayList hw) (ty := (.array (.object "java/lang/Object"))) (by decide) rfl rfl (ha) (by simp) fun h56 W56 => ?_
  have hne : a52 ≠ a := Nat.ne_of_gt (by rw [e52]; exact E.lt)
  refine g_areturn dj38_6_59 rfl rfl rfl rfl rfl rfl (⟨a52, k52, h52, rfl, e52, E52, W56, A52.other W56 hne, O52, B52.wr W56⟩)
theorem met_grow (hw : ∀ d ∈ tables_1, d.before a0 Z = true) {a d : Addr} (D : DefA Z d) (ha : Z.heap.size ≤ a) (E : Exa Z h a ALN) (Fe : Fld Z h a ALN "elementData" OAD (.ref d)) (Fs : Fld Z h a ALN "size" "I" (.int (Int32.ofNat 0))) : MetW [] l yGrow jdk_38_method_7_code 1 (some (.array (.object OBN))) (Rm 2 1 10 50) #[.ref a] Z a0 EL nw [a] h (fun v h' => ∃ t k hm, v = some (.ref t) ∧ t = h.size ∧ Ext h hm ∧ Wr hm h' a (RoadKit.slotOf Z ALN "elementData" OAD) (.ref t) ∧ Arv Z h' t k (.object OBN) 10 (List.replicate 10 .null) .null ∧ Ovr Z k OBN ∧ Exa Z h' t OAD) := by
  refine MetW.of (by first | exact plainFor_of_name (by first | (simp [plainName, overriddenIn]; done) | decide +kernel) | decide +kernel) fun X hX => Go.old fun EZ => ?_
  show Go X _ _ _ _ _ _ _ _ _ _ _ _ _ _ _ _ (mkF X.m 0 #[.val (.ref a)] [])
  refine g_aloadN (pc' := 1) dj38_7_0 rfl rfl rfl ?_
  refine g_aloadN (pc' := 2) dj38_7_1 rfl rfl rfl ?_
  refine g_getfield (pc' := 5) dj38_7_2 rfl (wf_ArrayList_48 hw) (Fs) ?_
  refine g_iconst (pc' := 6) (w := 1) dj38_7_5 rfl (by decide) ?_
  refine g_iadd (pc' := 7) dj38_7_6 rfl ?_
  refine g_private (pc' := 10) [a] [_] dj38_7_7 rfl (wl_ArrayList_69 hw) (wq_ArrayList_grow_lIrALjavalangObject hw) (wv_ArrayList_ArrayList_grow_lIrALjavalangObject hw) (wm_ArrayList_grow_lIrALjavalangObject hw) (by decide) (wb_ArrayList_grow_lIrALjavalangObject hw) (E) (Pay.of_met (met_growI hw D ha E Fe) (wb_ArrayList_grow_lIrALjavalangObject hw) (wi_ArrayList hw) rfl rfl) pd_lIrALjavalangObject rfl rfl rfl rfl rfl (fun _ q => q) fun v7 h7 q7 l7 => ?_
  obtain ⟨t, k, hm, rfl, r⟩ := q7
  refine g_areturn dj38_7_10 rfl rfl rfl rfl rfl rfl (⟨t, k, hm, rfl, r⟩)
theorem met_add3a (hw : ∀ d ∈ tables_1, d.before a0 Z = true) {a d x : Addr} (D : DefA Z d) (EZ : Ext Z.heap h) (ha : Z.heap.size ≤ a) (E : Exa Z h a ALN) (Fe : Fld Z h a ALN "elementData" OAD (.ref d)) (Fs : Fld Z h a ALN "size" "I" (.int (Int32.ofNat 0))) {mc : Int32} (Fm : Fld Z h a ALB' "modCount" "I" (.int mc)) (I : Ins Z h x OBN true) :
    MetW [] l yAdd3 jdk_38_method_24_code 4 none (Rm 3 1 10 70) #[.ref a, .ref x, .ref d, .int (Int32.ofNat 0)] Z a0 EL true [a] h (fun v h' => v = none ∧ Keep h h' [a] ∧ ∃ t, h.size ≤ t ∧ t < h'.size ∧ ALd Z h' a t d [x]) := by
  refine MetW.of (by first | exact plainFor_of_name (by first | (simp [plainName, overriddenIn]; done) | decide +kernel) | decide +kernel) fun X hX => Go.old fun EZ => ?_
  show Go X _ _ _ _ _ _ _ _ _ _ _ _ _ _ _ _ (mkF X.m 0 #[.val (.ref a), .val (.ref x), .val (.ref d), .val (.int (Int32.ofNat 0))] [])
  refine g_iloadN (pc' := 1) dj38_24_0 rfl rfl ?_
  refine g_aloadN (pc' := 2) dj38_24_1 rfl rfl rfl ?_
  obtain ⟨kd, Da⟩ := id D.2
  refine g_arraylength (pc' := 3) dj38_24_2 rfl ((Da.ext EZ)) ?_
  refine g_icmpne (pc' := 6) (pc2 := 11) dj38_24_3 rfl (by decide) rfl (fun c3 => ?_) (fun c3 => False.elim (c3 rfl))
  refine g_aloadN (pc' := 7) dj38_24_6 rfl rfl rfl ?_
  refine g_privateB [a] (pc' := 10) [a] [] dj38_24_7 rfl (wl_ArrayList_129 hw) (wq_ArrayList_grow_lrALjavalangObject hw) (wv_ArrayList_ArrayList_grow_lrALjavalangObject hw) (wm_ArrayList_grow_lrALjavalangObject hw) (by decide) (wb_ArrayList_grow_lrALjavalangObject hw) (E) (Pay.of_met (met_grow hw D ha E Fe Fs) (wb_ArrayList_grow_lrALjavalangObject hw) (wi_ArrayList hw) rfl rfl) (fun _ _ q => by obtain ⟨_, _, _, -, -, E1, W1, -⟩ := q; exact ((Keep.refl h [a]).ext E1).wr W1 (Or.inl (List.mem_cons_self ..))) (fun _ q => q) pd_lrALjavalangObject rfl rfl rfl rfl rfl (fun _ q => q) fun v7 h7 q7 l7 => ?_
  obtain ⟨t, k, hm, rfl, et, E7, W7, A7, O7, B7⟩ := q7
  have ht : h.size ≤ t := Nat.le_of_eq et.symm
  have hta : t ≠ a := Nat.ne_of_gt (by rw [et]; exact E.lt)
  refine ⟨[t], fun y hy => by cases List.mem_singleton.mp hy; exact ⟨ht, A7.lt⟩, ?_⟩
  have na : a ∉ [t] := fun q => hta (List.mem_singleton.mp q).symm
  refine g_astoreN (pc' := 11) (Ls' := #[_, _, _, _]) dj38_24_10 rfl rfl rfl ?_
  refine g_aloadN (pc' := 12) dj38_24_11 rfl rfl rfl ?_
  refine g_iloadN (pc' := 13) dj38_24_12 rfl rfl ?_
  refine g_aloadN (pc' := 14) dj38_24_13 rfl rfl rfl ?_
  refine g_aastore (pc' := 15) (i := 0) dj38_24_14 rfl A7 O7 ((I.ext E7).wr W7) (Nat.le_trans EZ.1 ht) (by decide) (by decide) (by decide) fun h14 K14 A14 => ?_
  refine g_aloadN (pc' := 16) dj38_24_15 rfl rfl rfl ?_
  refine g_iloadN (pc' := 17) dj38_24_16 rfl rfl ?_
  refine g_iconst (pc' := 18) (w := 1) dj38_24_17 rfl (by decide) ?_
  refine g_iadd (pc' := 19) dj38_24_18 rfl ?_
  refine g_putfield (pc' := 22) dj38_24_19 rfl (wf_ArrayList_48 hw) (((Fs.ext E7).other W7 (Or.inr (al_ne3 hw))).keep K14 na) (((E.ext E7).wr W7).keep K14) (Or.inl (wy_ArrayList_ArrayList_size hw)) (wn_ArrayList hw) (ty := .int) (by decide) rfl rfl (ha) (by simp) fun h19 W19 => ?_
  have A19 := A14.other W19 hta
  refine g_return dj38_24_22 rfl rfl rfl (⟨rfl, ((((Keep.refl h [a]).ext E7).wr W7 (Or.inl (List.mem_cons_self ..))).trans K14 (fun y hy => by cases List.mem_singleton.mp hy; exact Or.inr ht)).wr W19 (Or.inl (List.mem_cons_self ..)), t, ht, A19.lt, (((E.ext E7).wr W7).keep K14).wr W19, (((Fe.ext E7).same W7).keep K14 na).other W19 (Or.inr (al_ne3 hw).symm), (((Fs.ext E7).other W7 (Or.inr (al_ne3 hw))).keep K14 na).same W19, ⟨mc, (((Fm.ext E7).other W7 (Or.inr (al_ne1 hw).symm)).keep K14 na).other W19 (Or.inr (al_ne2 hw).symm)⟩, Or.inr ⟨by simp, by simp, Nat.le_trans EZ.1 ht, k, A19, O7, (B7.keep K14).wr W19⟩⟩)
theorem met_add3b (hw : ∀ d ∈ tables_1, d.before a0 Z = true) {a t d x x0 : Addr} (ha : Z.heap.size ≤ a) (B : ALd Z h a t d [x0]) (I : Ins Z h x OBN true) :
    MetW [] l yAdd3 jdk_38_method_24_code 4 none (Rm 3 1 10 70) #[.ref a, .ref x, .ref t, .int (Int32.ofNat 1)] Z a0 EL nw [a, t] h (fun v h' => v = none ∧ Keep h h' [a, t] ∧ ALd Z h' a t d [x0, x]) := by
  obtain ⟨E, Fe, Fs, ⟨mc, Fm⟩, q⟩ := B
  rcases q with ⟨q, -⟩ | ⟨-, -, zt, k, A, O, Bt⟩
  · exact absurd q (by simp)
  have hta : t ≠ a := (E.neArv A (wn_ArrayList hw)).symm
  have na : a ∉ [t] := fun q => hta (List.mem_singleton.mp q).symm
  refine MetW.of (by first | exact plainFor_of_name (by first | (simp [plainName, overriddenIn]; done) | decide +kernel) | decide +kernel) fun X hX => Go.old fun EZ => ?_
  show Go X _ _ _ _ _ _ _ _ _ _ _ _ _ _ _ _ (mkF X.m 0 #[.val (.ref a), .val (.ref x), .val (.ref t), .val (.int (Int32.ofNat 1))] [])
  refine g_iloadN (pc' := 1) dj38_24_0 rfl rfl ?_
  refine g_aloadN (pc' := 2) dj38_24_1 rfl rfl rfl ?_
  refine g_arraylength (pc' := 3) dj38_24_2 rfl (A) ?_
  refine g_icmpne (pc' := 6) (pc2 := 11) dj38_24_3 rfl (by decide) rfl (fun c3 => False.elim (absurd c3 (by decide))) (fun c3 => ?_)
  refine g_aloadN (pc' := 12) dj38_24_11 rfl rfl rfl ?_
  refine g_iloadN (pc' := 13) dj38_24_12 rfl rfl ?_
  refine g_aloadN (pc' := 14) dj38_24_13 rfl rfl rfl ?_
  refine g_aastore (pc' := 15) (i := 1) dj38_24_14 rfl A O I zt (by decide) (by decide) (by simp) fun h14 K14 A14 => ?_
  refine g_aloadN (pc' := 16) dj38_24_15 rfl rfl rfl ?_
  refine g_iloadN (pc' := 17) dj38_24_16 rfl rfl ?_
  refine g_iconst (pc' := 18) (w := 1) dj38_24_17 rfl (by decide) ?_
  refine g_iadd (pc' := 19) dj38_24_18 rfl ?_
  refine g_putfield (pc' := 22) dj38_24_19 rfl (wf_ArrayList_48 hw) (Fs.keep K14 na) (E.keep K14) (Or.inl (wy_ArrayList_ArrayList_size hw)) (wn_ArrayList hw) (ty := .int) (by decide) rfl rfl (ha) (by simp) fun h19 W19 => ?_
  have A19 := A14.other W19 hta
  have K1 : Keep h h14 [a, t] := ⟨K14.1, fun y c q r => K14.2.1 y c q (fun u => r (by cases List.mem_singleton.mp u; simp)), K14.2.2⟩
  refine g_return dj38_24_22 rfl rfl rfl (⟨rfl, K1.wr W19 (Or.inl (by simp)), (E.keep K14).wr W19, (Fe.keep K14 na).other W19 (Or.inr (al_ne3 hw).symm), (Fs.keep K14 na).same W19, ⟨mc, (Fm.keep K14 na).other W19 (Or.inr (al_ne2 hw).symm)⟩, Or.inr ⟨by simp, by simp, zt, k, A19, O, (Bt.keep K14).wr W19⟩⟩)
/-- the first add -/
theorem met_addA (hw : ∀ d ∈ tables_1, d.before a0 Z = true) {a d x : Addr} (D : DefA Z d) (EZ : Ext Z.heap h) (ha : Z.heap.size ≤ a) (B : ALd Z h a d d []) (I : Ins Z h x OBN true) :
    MetW [] l yAdd jdk_38_method_25_code 2 (some .boolean) (Rm 4 1 10 90) #[.ref a, .ref x] Z a0 EL true [a] h (fun v h' => v = some (.int 1) ∧ Keep h h' [a] ∧ ∃ t, h.size ≤ t ∧ t < h'.size ∧ ALd Z h' a t d [x]) := by
  obtain ⟨E, Fe, Fs, ⟨mc, Fm⟩, -⟩ := B
  refine MetW.of (by first | exact plainFor_of_name (by first | (simp [plainName, overriddenIn]; done) | decide +kernel) | decide +kernel) fun X hX => Go.old fun EZ => ?_
  show Go X _ _ _ _ _ _ _ _ _ _ _ _ _ _ _ _ (mkF X.m 0 #[.val (.ref a), .val (.ref x)] [])
  refine g_aloadN (pc' := 1) dj38_25_0 rfl rfl rfl ?_
  refine g_dup (pc' := 2) dj38_25_1 rfl rfl ?_
  refine g_getfieldV (pc' := 5) dj38_25_2 rfl (wf_ArrayList_63 hw) (Via.of (wrf_ArrayList_AbstractList_modCount hw)) Fm ?_
  refine g_iconst (pc' := 6) (w := 1) dj38_25_5 rfl (by decide) ?_
  refine g_iadd (pc' := 7) dj38_25_6 rfl ?_
  refine g_putfieldV (pc' := 10) dj38_25_7 rfl (wf_ArrayList_63 hw) (Via.of (wrf_ArrayList_AbstractList_modCount hw)) Fm E (wy_ArrayList_AbstractList_modCount hw) (wn_ArrayList hw) (ty := .int) (by decide) rfl rfl ha (by simp) fun h7 W7 => ?_
  refine g_aloadN (pc' := 11) dj38_25_10 rfl rfl rfl ?_
  refine g_aloadN (pc' := 12) dj38_25_11 rfl rfl rfl ?_
  refine g_aloadN (pc' := 13) dj38_25_12 rfl rfl rfl ?_
  refine g_getfield (pc' := 16) dj38_25_13 rfl (wf_ArrayList_9 hw) ((Fe.other W7 (Or.inr (al_ne1 hw)))) ?_
  refine g_aloadN (pc' := 17) dj38_25_16 rfl rfl rfl ?_
  refine g_getfield (pc' := 20) dj38_25_17 rfl (wf_ArrayList_48 hw) ((Fs.other W7 (Or.inr (al_ne2 hw)))) ?_
  have Z7 : Ext Z.heap h7 := ext_keep EZ (Keep.of_wr W7) (allS ha all0)
  refine g_private (pc' := 23) [a] [_, _, _] dj38_25_20 rfl (wl_ArrayList_131 hw) (wq_ArrayList_add_lLjavalangObjectALjavalangObjectIrV hw) (wv_ArrayList_ArrayList_add_lLjavalangObjectALjavalangObjectIrV hw) (wm_ArrayList_add_lLjavalangObjectALjavalangObjectIrV hw) (by decide) (wb_ArrayList_add_lLjavalangObjectALjavalangObjectIrV hw) (E.wr W7) (Pay.of_met (met_add3a hw D Z7 ha (E.wr W7) (Fe.other W7 (Or.inr (al_ne1 hw))) (Fs.other W7 (Or.inr (al_ne2 hw))) (Fm.same W7) (I.wr W7)) (wb_ArrayList_add_lLjavalangObjectALjavalangObjectIrV hw) (wi_ArrayList hw) rfl rfl) pd_lLjavalangObjectALjavalangObjectIrV rfl rfl rfl rfl rfl (fun _ q => q) fun v20 h20 q20 l20 => ?_
  obtain ⟨rfl, K20, t, t1, t2, B20⟩ := q20
  refine g_iconst (pc' := 24) (w := 1) dj38_25_23 rfl (by decide) ?_
  have Kw := (Keep.refl h [a]).wr W7 (Or.inl (List.mem_cons_self ..))
  refine g_ireturn (t := .boolean) dj38_25_24 rfl (by simp) rfl rfl rfl (⟨rfl, Kw.trans K20 (fun _ q => Or.inl q), t, Nat.le_trans Kw.1 t1, t2, B20⟩)
/-- the second add -/
theorem met_addB (hw : ∀ d ∈ tables_1, d.before a0 Z = true) {a t d x x0 : Addr} (ha : Z.heap.size ≤ a) (B : ALd Z h a t d [x0]) (I : Ins Z h x OBN true) :
    MetW [] l yAdd jdk_38_method_25_code 2 (some .boolean) (Rm 4 1 10 90) #[.ref a, .ref x] Z a0 EL nw [a, t] h (fun v h' => v = some (.int 1) ∧ Keep h h' [a, t] ∧ ALd Z h' a t d [x0, x]) := by
  obtain ⟨E, Fe, Fs, ⟨mc, Fm⟩, q⟩ := B
  rcases q with ⟨q, -⟩ | ⟨q1, q2, zt, k, A, O, Bt⟩
  · exact absurd q (by simp)
  have hta : t ≠ a := (E.neArv A (wn_ArrayList hw)).symm
  refine MetW.of (by first | exact plainFor_of_name (by first | (simp [plainName, overriddenIn]; done) | decide +kernel) | decide +kernel) fun X hX => Go.old fun EZ => ?_
  show Go X _ _ _ _ _ _ _ _ _ _ _ _ _ _ _ _ (mkF X.m 0 #[.val (.ref a), .val (.ref x)] [])
  refine g_aloadN (pc' := 1) dj38_25_0 rfl rfl rfl ?_
  refine g_dup (pc' := 2) dj38_25_1 rfl rfl ?_
  refine g_getfieldV (pc' := 5) dj38_25_2 rfl (wf_ArrayList_63 hw) (Via.of (wrf_ArrayList_AbstractList_modCount hw)) Fm ?_
  refine g_iconst (pc' := 6) (w := 1) dj38_25_5 rfl (by decide) ?_
  refine g_iadd (pc' := 7) dj38_25_6 rfl ?_
  refine g_putfieldV (pc' := 10) dj38_25_7 rfl (wf_ArrayList_63 hw) (Via.of (wrf_ArrayList_AbstractList_modCount hw)) Fm E (wy_ArrayList_AbstractList_modCount hw) (wn_ArrayList hw) (ty := .int) (by decide) rfl rfl ha (by simp) fun h7 W7 => ?_
  have B7 : ALd Z h7 a t d [x0] := ⟨E.wr W7, Fe.other W7 (Or.inr (al_ne1 hw)), Fs.other W7 (Or.inr (al_ne2 hw)), ⟨_, Fm.same W7⟩, Or.inr ⟨q1, q2, zt, k, A.other W7 hta, O, Bt.wr W7⟩⟩
  refine g_aloadN (pc' := 11) dj38_25_10 rfl rfl rfl ?_
  refine g_aloadN (pc' := 12) dj38_25_11 rfl rfl rfl ?_
  refine g_aloadN (pc' := 13) dj38_25_12 rfl rfl rfl ?_
  refine g_getfield (pc' := 16) dj38_25_13 rfl (wf_ArrayList_9 hw) (B7.2.1) ?_
  refine g_aloadN (pc' := 17) dj38_25_16 rfl rfl rfl ?_
  refine g_getfield (pc' := 20) dj38_25_17 rfl (wf_ArrayList_48 hw) (B7.2.2.1) ?_
  refine g_private (pc' := 23) [a, t] [_, _, _] dj38_25_20 rfl (wl_ArrayList_131 hw) (wq_ArrayList_add_lLjavalangObjectALjavalangObjectIrV hw) (wv_ArrayList_ArrayList_add_lLjavalangObjectALjavalangObjectIrV hw) (wm_ArrayList_add_lLjavalangObjectALjavalangObjectIrV hw) (by decide) (wb_ArrayList_add_lLjavalangObjectALjavalangObjectIrV hw) (B7.1) (Pay.of_met (met_add3b hw ha B7 (I.wr W7)) (wb_ArrayList_add_lLjavalangObjectALjavalangObjectIrV hw) (wi_ArrayList hw) rfl rfl) pd_lLjavalangObjectALjavalangObjectIrV rfl rfl rfl rfl rfl (fun _ q => q) fun v20 h20 q20 l20 => ?_
  obtain ⟨rfl, K20, B20⟩ := q20
  refine g_iconst (pc' := 24) (w := 1) dj38_25_23 rfl (by decide) ?_
  have Kw := (Keep.refl h [a, t]).wr W7 (Or.inl (by simp))
  refine g_ireturn (t := .boolean) dj38_25_24 rfl (by simp) rfl rfl rfl (⟨rfl, Kw.trans K20 (fun _ q => Or.inl q), B20⟩)
end ALs
/-! java.util.ImmutableCollections: List.copyOf of an ArrayList of at most two Strings -/
section ICc
variable {l : Launch} {R : Room} {Z : State} {a0 : Array Value} {EL : List (String × Nat)} {nw : Bool} {h : Heap} {W : Nat} {sf : List Addr}
abbrev L12N : String := "java/util/ImmutableCollections$List12"
abbrev LNN : String := "java/util/ImmutableCollections$ListN"
abbrev ICN : String := "java/util/ImmutableCollections"
abbrev LND : String := "Ljava/util/ImmutableCollections$ListN;"
abbrev STN : String := "java/lang/String"
abbrev OBD : String := "Ljava/lang/Object;"
/-- ImmutableCollections' statics: its empty list el (over the array ee), its mark em -/
def ICS (Z : State) (el em : Addr) : Prop := Sta Z Z.heap ICN "EMPTY_LIST" LND (.ref el) ∧ Sta Z Z.heap ICN "EMPTY" OBD (.ref em) ∧ Exa Z Z.heap el LNN ∧ Exa Z Z.heap em OBN ∧ ∃ ee k, Fld Z Z.heap el LNN "elements" OAD (.ref ee) ∧ Arv Z Z.heap ee k (.object OBN) 0 [] .null
/-- an immutable list that holds xs -/
def ILd (Z : State) (h : Heap) (a el em : Addr) (xs : List Addr) : Prop :=
  (xs = [] ∧ a = el) ∨ (∃ x, xs = [x] ∧ Exa Z h a L12N ∧ Fld Z h a L12N "e0" OBD (.ref x) ∧ Fld Z h a L12N "e1" OBD (.ref em)) ∨ (∃ x y, xs = [x, y] ∧ Exa Z h a L12N ∧ Fld Z h a L12N "e0" OBD (.ref x) ∧ Fld Z h a L12N "e1" OBD (.ref y))
theorem ILd.ext {h' : Heap} {a el em : Addr} {xs : List Addr} (S : ILd Z h a el em xs) (E : Ext h h') : ILd Z h' a el em xs := by
  rcases S with q | ⟨x, q, h1, h2, h3⟩ | ⟨x, y, q, h1, h2, h3⟩
  · exact Or.inl q
  · exact Or.inr (Or.inl ⟨x, q, h1.ext E, h2.ext E, h3.ext E⟩)
  · exact Or.inr (Or.inr ⟨x, y, q, h1.ext E, h2.ext E, h3.ext E⟩)
abbrev yAICi : MethodName := ⟨"java/util/ImmutableCollections$AbstractImmutableCollection", "<init>", "()V"⟩
abbrev yAILi : MethodName := ⟨"java/util/ImmutableCollections$AbstractImmutableList", "<init>", "()V"⟩
abbrev yL1 : MethodName := ⟨"java/util/ImmutableCollections$List12", "<init>", "(Ljava/lang/Object;)V"⟩
abbrev yL2 : MethodName := ⟨"java/util/ImmutableCollections$List12", "<init>", "(Ljava/lang/Object;Ljava/lang/Object;)V"⟩
abbrev yRNN : MethodName := ⟨"java/util/Objects", "requireNonNull", "(Ljava/lang/Object;)Ljava/lang/Object;"⟩
abbrev yLof : MethodName := ⟨"java/util/List", "of", "([Ljava/lang/Object;)Ljava/util/List;"⟩
abbrev yLof0 : MethodName := ⟨"java/util/List", "of", "()Ljava/util/List;"⟩
abbrev yLcp : MethodName := ⟨"java/util/List", "copyOf", "(Ljava/util/Collection;)Ljava/util/List;"⟩
abbrev yLC : MethodName := ⟨"java/util/ImmutableCollections", "listCopy", "(Ljava/util/Collection;)Ljava/util/List;"⟩
abbrev yIsE : MethodName := ⟨"java/util/ArrayList", "isEmpty", "()Z"⟩
abbrev yTA : MethodName := ⟨"java/util/ArrayList", "toArray", "()[Ljava/lang/Object;"⟩
abbrev yCpO : MethodName := ⟨"java/util/Arrays", "copyOf", "([Ljava/lang/Object;I)[Ljava/lang/Object;"⟩
theorem l12_ne (hw : ∀ d ∈ tables_1, d.before a0 Z = true) : RoadKit.slotOf Z L12N "e1" OBD ≠ RoadKit.slotOf Z L12N "e0" OBD := slot_ne (Or.inr (wy_ImmutableCollectionsSList12_ImmutableCollectionsSList12_e1 hw)) (Or.inr (wy_ImmutableCollectionsSList12_ImmutableCollectionsSList12_e0 hw)) (by decide) (t := .object "java/lang/Object") (t' := .object "java/lang/Object") (by decide) (by decide)
theorem met_AICi (hw : ∀ d ∈ tables_1, d.before a0 Z = true) {a : Addr} : MetW [] l yAICi jdk_47_method_1_code 1 none (Rm 2 0 0 30) #[.ref a] Z a0 EL nw [] h (fun v h' => v = none ∧ h' = h) := by
  refine MetW.of (by first | exact plainFor_of_name (by first | (simp [plainName, overriddenIn]; done) | decide +kernel) | decide +kernel) fun X hX => Go.old fun EZ => ?_
  show Go X _ _ _ _ _ _ _ _ _ _ _ _ _ _ _ _ (mkF X.m 0 #[.val (.ref a)] [])
  refine g_aloadN (pc' := 1) dj47_1_0 rfl rfl rfl ?_
  refine g_invokespecial (pc' := 4) [] [] dj47_1_1 rfl rfl (wl_ImmutableCollectionsSAbstractImmutableCollection_1 hw) (wm_AbstractCollection_init_lrV hw) (wb_AbstractCollection_init_lrV hw) (by decide) (Pay.of_met (met_ACi hw) (wb_AbstractCollection_init_lrV hw) (wi_AbstractCollection hw) rfl rfl) pd_lrV rfl rfl rfl rfl rfl (fun _ q => nomatch q) fun v1 h1 q1 l1 => ?_
  obtain ⟨rfl, rfl⟩ := q1
  refine g_return dj47_1_4 rfl rfl rfl (⟨rfl, rfl⟩)
theorem met_AILi (hw : ∀ d ∈ tables_1, d.before a0 Z = true) {a : Addr} : MetW [] l yAILi jdk_46_method_1_code 1 none (Rm 3 0 0 45) #[.ref a] Z a0 EL nw [] h (fun v h' => v = none ∧ h' = h) := by
  refine MetW.of (by first | exact plainFor_of_name (by first | (simp [plainName, overriddenIn]; done) | decide +kernel) | decide +kernel) fun X hX => Go.old fun EZ => ?_
  show Go X _ _ _ _ _ _ _ _ _ _ _ _ _ _ _ _ (mkF X.m 0 #[.val (.ref a)] [])
  refine g_aloadN (pc' := 1) dj46_1_0 rfl rfl rfl ?_
  refine g_invokespecial (pc' := 4) [] [] dj46_1_1 rfl rfl (wl_ImmutableCollectionsSAbstractImmutableList_1 hw) (wm_ImmutableCollectionsSAbstractImmutableCollection_init_lrV hw) (wb_ImmutableCollectionsSAbstractImmutableCollection_init_lrV hw) (by decide) (Pay.of_met (met_AICi hw) (wb_ImmutableCollectionsSAbstractImmutableCollection_init_lrV hw) (wi_ImmutableCollectionsSAbstractImmutableCollection hw) rfl rfl) pd_lrV rfl rfl rfl rfl rfl (fun _ q => nomatch q) fun v1 h1 q1 l1 => ?_
  obtain ⟨rfl, rfl⟩ := q1
  refine g_return dj46_1_4 rfl rfl rfl (⟨rfl, rfl⟩)
theorem met_RNN (hw : ∀ d ∈ tables_1, d.before a0 Z = true) {x : Addr} : MetW [] l yRNN jdk_31_method_10_code 1 (some (.object OBN)) (Rm 0 0 0 0) #[.ref x] Z a0 EL nw [] h (fun v h' => v = some (.ref x) ∧ h' = h) := by
  refine MetW.of (by first | exact plainFor_of_name (by first | (simp [plainName, overriddenIn]; done) | decide +kernel) | decide +kernel) fun X hX => Go.old fun EZ => ?_
  show Go X _ _ _ _ _ _ _ _ _ _ _ _ _ _ _ _ (mkF X.m 0 #[.val (.ref x)] [])
  refine g_aloadN (pc' := 1) dj31_10_0 rfl rfl rfl ?_
  refine g_ifnonnullY (pc2 := 12) dj31_10_1 (by decide) rfl ?_
  refine g_aloadN (pc' := 13) dj31_10_12 rfl rfl rfl ?_
  refine g_areturn dj31_10_13 rfl rfl rfl rfl rfl rfl (⟨rfl, rfl⟩)
theorem met_L1 (hw : ∀ d ∈ tables_1, d.before a0 Z = true) {el em a x : Addr} {v0 v1 : Value} (I : ICS Z el em) (ha : Z.heap.size ≤ a) (E : Exa Z h a L12N) (F0 : Fld Z h a L12N "e0" OBD v0) (F1 : Fld Z h a L12N "e1" OBD v1) : MetW [] l yL1 jdk_44_method_1_code 2 none (Rm 4 0 0 60) #[.ref a, .ref x] Z a0 EL nw [a] h (fun v h' => v = none ∧ Keep h h' [a] ∧ ILd Z h' a el em [x]) := by
  refine MetW.of (by first | exact plainFor_of_name (by first | (simp [plainName, overriddenIn]; done) | decide +kernel) | decide +kernel) fun X hX => Go.old fun EZ => ?_
  show Go X _ _ _ _ _ _ _ _ _ _ _ _ _ _ _ _ (mkF X.m 0 #[.val (.ref a), .val (.ref x)] [])
  refine g_aloadN (pc' := 1) dj44_1_0 rfl rfl rfl ?_
  refine g_invokespecial (pc' := 4) [] [] dj44_1_1 rfl rfl (wl_ImmutableCollectionsSList12_1 hw) (wm_ImmutableCollectionsSAbstractImmutableList_init_lrV hw) (wb_ImmutableCollectionsSAbstractImmutableList_init_lrV hw) (by decide) (Pay.of_met (met_AILi hw) (wb_ImmutableCollectionsSAbstractImmutableList_init_lrV hw) (wi_ImmutableCollectionsSAbstractImmutableList hw) rfl rfl) pd_lrV rfl rfl rfl rfl rfl (fun _ q => nomatch q) fun v1 h1 q1 l1 => ?_
  obtain ⟨rfl, e1⟩ := q1
  have e1 := e1.symm
  subst e1
  refine g_aloadN (pc' := 5) dj44_1_4 rfl rfl rfl ?_
  refine g_aloadN (pc' := 6) dj44_1_5 rfl rfl rfl ?_
  refine g_invokestatic (pc' := 9) [] [_] dj44_1_6 rfl (wl_ImmutableCollectionsSList12_7 hw) (ws_Objects_requireNonNull_lLjavalangObjectrLjavalangObject hw) (wi_Objects hw) (wb_Objects_requireNonNull_lLjavalangObjectrLjavalangObject hw) (by decide) (Pay.of_met (met_RNN hw) (wb_Objects_requireNonNull_lLjavalangObjectrLjavalangObject hw) (wi_Objects hw) rfl rfl) pd_lLjavalangObjectrLjavalangObject rfl rfl rfl rfl rfl (fun _ q => nomatch q) fun v6 h6 q6 l6 => ?_
  obtain ⟨rfl, e6⟩ := q6
  have e6 := e6.symm
  subst e6
  refine g_putfield (pc' := 12) dj44_1_9 rfl (wf_ImmutableCollectionsSList12_13 hw) (F0) (E) (Or.inr ⟨wy_ImmutableCollectionsSList12_ImmutableCollectionsSList12_e0 hw, rfl, rfl⟩) (wn_ImmutableCollectionsSList12 hw) (ty := (.object "java/lang/Object")) (by decide) rfl rfl (ha) (by simp) fun h9 W9 => ?_
  refine g_aloadN (pc' := 13) dj44_1_12 rfl rfl rfl ?_
  refine g_getstaticN (pc' := 16) dj44_1_13 rfl (wf_ImmutableCollectionsSList12_19 hw) I.2.1 ?_
  refine g_putfield (pc' := 19) dj44_1_16 rfl (wf_ImmutableCollectionsSList12_24 hw) (F1.other W9 (Or.inr (l12_ne hw))) (E.wr W9) (Or.inr ⟨wy_ImmutableCollectionsSList12_ImmutableCollectionsSList12_e1 hw, rfl, rfl⟩) (wn_ImmutableCollectionsSList12 hw) (ty := (.object "java/lang/Object")) (by decide) rfl rfl (ha) (by simp) fun h16 W16 => ?_
  refine g_return dj44_1_19 rfl rfl rfl (⟨rfl, ((Keep.refl h [a]).wr W9 (Or.inl (List.mem_cons_self ..))).wr W16 (Or.inl (List.mem_cons_self ..)), Or.inr (Or.inl ⟨x, rfl, (E.wr W9).wr W16, (F0.same W9).other W16 (Or.inr (l12_ne hw).symm), (F1.other W9 (Or.inr (l12_ne hw))).same W16⟩)⟩)
theorem met_L2 (hw : ∀ d ∈ tables_1, d.before a0 Z = true) {el em a x x' : Addr} {v0 v1 : Value} (ha : Z.heap.size ≤ a) (E : Exa Z h a L12N) (F0 : Fld Z h a L12N "e0" OBD v0) (F1 : Fld Z h a L12N "e1" OBD v1) : MetW [] l yL2 jdk_44_method_2_code 3 none (Rm 4 0 0 60) #[.ref a, .ref x, .ref x'] Z a0 EL nw [a] h (fun v h' => v = none ∧ Keep h h' [a] ∧ ILd Z h' a el em [x, x']) := by
  refine MetW.of (by first | exact plainFor_of_name (by first | (simp [plainName, overriddenIn]; done) | decide +kernel) | decide +kernel) fun X hX => Go.old fun EZ => ?_
  show Go X _ _ _ _ _ _ _ _ _ _ _ _ _ _ _ _ (mkF X.m 0 #[.val (.ref a), .val (.ref x), .val (.ref x')] [])
  refine g_aloadN (pc' := 1) dj44_2_0 rfl rfl rfl ?_
  refine g_invokespecial (pc' := 4) [] [] dj44_2_1 rfl rfl (wl_ImmutableCollectionsSList12_1 hw) (wm_ImmutableCollectionsSAbstractImmutableList_init_lrV hw) (wb_ImmutableCollectionsSAbstractImmutableList_init_lrV hw) (by decide) (Pay.of_met (met_AILi hw) (wb_ImmutableCollectionsSAbstractImmutableList_init_lrV hw) (wi_ImmutableCollectionsSAbstractImmutableList hw) rfl rfl) pd_lrV rfl rfl rfl rfl rfl (fun _ q => nomatch q) fun v1 h1 q1 l1 => ?_
  obtain ⟨rfl, e1⟩ := q1
  have e1 := e1.symm
  subst e1
  refine g_aloadN (pc' := 5) dj44_2_4 rfl rfl rfl ?_
  refine g_aloadN (pc' := 6) dj44_2_5 rfl rfl rfl ?_
  refine g_invokestatic (pc' := 9) [] [_] dj44_2_6 rfl (wl_ImmutableCollectionsSList12_7 hw) (ws_Objects_requireNonNull_lLjavalangObjectrLjavalangObject hw) (wi_Objects hw) (wb_Objects_requireNonNull_lLjavalangObjectrLjavalangObject hw) (by decide) (Pay.of_met (met_RNN hw) (wb_Objects_requireNonNull_lLjavalangObjectrLjavalangObject hw) (wi_Objects hw) rfl rfl) pd_lLjavalangObjectrLjavalangObject rfl rfl rfl rfl rfl (fun _ q => nomatch q) fun v6 h6 q6 l6 => ?_
  obtain ⟨rfl, e6⟩ := q6
  have e6 := e6.symm
  subst e6
  refine g_putfield (pc' := 12) dj44_2_9 rfl (wf_ImmutableCollectionsSList12_13 hw) (F0) (E) (Or.inr ⟨wy_ImmutableCollectionsSList12_ImmutableCollectionsSList12_e0 hw, rfl, rfl⟩) (wn_ImmutableCollectionsSList12 hw) (ty := (.object "java/lang/Object")) (by decide) rfl rfl (ha) (by simp) fun h9 W9 => ?_
  refine g_aloadN (pc' := 13) dj44_2_12 rfl rfl rfl ?_
  refine g_aloadN (pc' := 14) dj44_2_13 rfl rfl rfl ?_
  refine g_invokestatic (pc' := 17) [] [_] dj44_2_14 rfl (wl_ImmutableCollectionsSList12_7 hw) (ws_Objects_requireNonNull_lLjavalangObjectrLjavalangObject hw) (wi_Objects hw) (wb_Objects_requireNonNull_lLjavalangObjectrLjavalangObject hw) (by decide) (Pay.of_met (met_RNN hw) (wb_Objects_requireNonNull_lLjavalangObjectrLjavalangObject hw) (wi_Objects hw) rfl rfl) pd_lLjavalangObjectrLjavalangObject rfl rfl rfl rfl rfl (fun _ q => nomatch q) fun v14 h14 q14 l14 => ?_
  obtain ⟨rfl, e14⟩ := q14
  have e14 := e14.symm
  subst e14
  refine g_putfield (pc' := 20) dj44_2_17 rfl (wf_ImmutableCollectionsSList12_24 hw) (F1.other W9 (Or.inr (l12_ne hw))) (E.wr W9) (Or.inr ⟨wy_ImmutableCollectionsSList12_ImmutableCollectionsSList12_e1 hw, rfl, rfl⟩) (wn_ImmutableCollectionsSList12 hw) (ty := (.object "java/lang/Object")) (by decide) rfl rfl (ha) (by simp) fun h17 W17 => ?_
  refine g_return dj44_2_20 rfl rfl rfl (⟨rfl, ((Keep.refl h [a]).wr W9 (Or.inl (List.mem_cons_self ..))).wr W17 (Or.inl (List.mem_cons_self ..)), Or.inr (Or.inr ⟨x, x', rfl, (E.wr W9).wr W17, (F0.same W9).other W17 (Or.inr (l12_ne hw).symm), (F1.other W9 (Or.inr (l12_ne hw))).same W17⟩)⟩)
/-- List.of(array): one or two elements -/
theorem met_Lof (hw : ∀ d ∈ tables_1, d.before a0 Z = true) {el em t : Addr} {k : ClassId} {xs : List Addr} (I : ICS Z el em) (EZ : Ext Z.heap h) (A : Arv Z h t k (.object OBN) (Int32.ofNat xs.length) (xs.map Value.ref) .null) (h0 : xs ≠ []) (h2 : xs.length ≤ 2) : MetW [] l yLof jdk_40_method_47_code 2 (some (.object "java/util/List")) (Rm 5 1 2 80) #[.ref t] Z a0 EL nw [] h (fun v h' => ∃ a, v = some (.ref a) ∧ h.size ≤ a ∧ Ext h h' ∧ ILd Z h' a el em xs) := by
  match xs, h0, h2, A with
  | [x], _, _, A =>
    have A : Arv Z h t k (.object OBN) (Int32.ofNat 1) [.ref x] .null := A
    rw [show Int32.ofNat 1 = (1 : Int32) from rfl] at A
    refine MetW.of (by first | exact plainFor_of_name (by first | (simp [plainName, overriddenIn]; done) | decide +kernel) | decide +kernel) fun X hX => Go.old fun EZ => ?_
    show Go X _ _ _ _ _ _ _ _ _ _ _ _ _ _ _ _ (mkF X.m 0 #[.val (.ref t), .unset] [])
    refine g_aloadN (pc' := 1) dj40_47_0 rfl rfl rfl ?_
    refine g_arraylength (pc' := 2) dj40_47_1 rfl (A) ?_
    refine g_tsw (pc' := 34) (i := 1) (o := 32) dj40_47_2 (by decide) rfl (by decide) (by decide) ?_
    refine g_new (pc' := 37) dj40_47_34 rfl (wc_List_96 hw) (wn_ImmutableCollectionsSList12 hw) (wi_ImmutableCollectionsSList12 hw) rfl rfl fun h34 a34 e34 E34 A34 D34 => ?_
    refine g_dup (pc' := 38) dj40_47_37 rfl rfl ?_
    refine g_aloadN (pc' := 39) dj40_47_38 rfl rfl rfl ?_
    refine g_iconst (pc' := 40) (w := 0) dj40_47_39 rfl (by decide) ?_
    refine g_aaload (pc' := 41) (v := .ref x) dj40_47_40 rfl (A.ext E34) rfl (by decide) rfl ?_
    have z34 : Z.heap.size ≤ a34 := by rw [e34]; exact EZ.1
    refine g_invokespecial (pc' := 44) [a34] [_] dj40_47_41 rfl rfl (wl_List_98 hw) (wm_ImmutableCollectionsSList12_init_lLjavalangObjectrV hw) (wb_ImmutableCollectionsSList12_init_lLjavalangObjectrV hw) (by decide) (Pay.of_met (met_L1 hw (x := x) I z34 A34 (D34 (Or.inr (wy_ImmutableCollectionsSList12_ImmutableCollectionsSList12_e0 hw)) (ty := .object "java/lang/Object") (by decide)) (D34 (Or.inr (wy_ImmutableCollectionsSList12_ImmutableCollectionsSList12_e1 hw)) (ty := .object "java/lang/Object") (by decide))) (wb_ImmutableCollectionsSList12_init_lLjavalangObjectrV hw) (wi_ImmutableCollectionsSList12 hw) rfl rfl) pd_lLjavalangObjectrV rfl rfl rfl rfl rfl (fun _ q => by cases List.mem_singleton.mp q; simp) fun v41 h41 q41 l41 => ?_
    obtain ⟨rfl, K41, B41⟩ := q41
    refine g_areturn dj40_47_44 rfl rfl rfl rfl rfl rfl (⟨a34, rfl, Nat.le_of_eq e34.symm, ext_keep E34 K41 (allS (Nat.le_of_eq e34.symm) all0), B41⟩)
  | [x, x'], _, _, A =>
    have A : Arv Z h t k (.object OBN) (Int32.ofNat 2) [.ref x, .ref x'] .null := A
    rw [show Int32.ofNat 2 = (2 : Int32) from rfl] at A
    refine MetW.of (by first | exact plainFor_of_name (by first | (simp [plainName, overriddenIn]; done) | decide +kernel) | decide +kernel) fun X hX => Go.old fun EZ => ?_
    show Go X _ _ _ _ _ _ _ _ _ _ _ _ _ _ _ _ (mkF X.m 0 #[.val (.ref t), .unset] [])
    refine g_aloadN (pc' := 1) dj40_47_0 rfl rfl rfl ?_
    refine g_arraylength (pc' := 2) dj40_47_1 rfl (A) ?_
    refine g_tsw (pc' := 45) (i := 2) (o := 43) dj40_47_2 (by decide) rfl (by decide) (by decide) ?_
    refine g_new (pc' := 48) dj40_47_45 rfl (wc_List_96 hw) (wn_ImmutableCollectionsSList12 hw) (wi_ImmutableCollectionsSList12 hw) rfl rfl fun h45 a45 e45 E45 A45 D45 => ?_
    refine g_dup (pc' := 49) dj40_47_48 rfl rfl ?_
    refine g_aloadN (pc' := 50) dj40_47_49 rfl rfl rfl ?_
    refine g_iconst (pc' := 51) (w := 0) dj40_47_50 rfl (by decide) ?_
    refine g_aaload (pc' := 52) (v := .ref x) dj40_47_51 rfl (A.ext E45) rfl (by decide) rfl ?_
    refine g_aloadN (pc' := 53) dj40_47_52 rfl rfl rfl ?_
    refine g_iconst (pc' := 54) (w := 1) dj40_47_53 rfl (by decide) ?_
    refine g_aaload (pc' := 55) (v := .ref x') dj40_47_54 rfl (A.ext E45) rfl (by decide) rfl ?_
    have z45 : Z.heap.size ≤ a45 := by rw [e45]; exact EZ.1
    refine g_invokespecial (pc' := 58) [a45] [_, _] dj40_47_55 rfl rfl (wl_List_100 hw) (wm_ImmutableCollectionsSList12_init_lLjavalangObjectLjavalangObjectrV hw) (wb_ImmutableCollectionsSList12_init_lLjavalangObjectLjavalangObjectrV hw) (by decide) (Pay.of_met (met_L2 hw (el := el) (em := em) (x := x) (x' := x') z45 A45 (D45 (Or.inr (wy_ImmutableCollectionsSList12_ImmutableCollectionsSList12_e0 hw)) (ty := .object "java/lang/Object") (by decide)) (D45 (Or.inr (wy_ImmutableCollectionsSList12_ImmutableCollectionsSList12_e1 hw)) (ty := .object "java/lang/Object") (by decide))) (wb_ImmutableCollectionsSList12_init_lLjavalangObjectLjavalangObjectrV hw) (wi_ImmutableCollectionsSList12 hw) rfl rfl) pd_lLjavalangObjectLjavalangObjectrV rfl rfl rfl rfl rfl (fun _ q => by cases List.mem_singleton.mp q; simp) fun v55 h55 q55 l55 => ?_
    obtain ⟨rfl, K55, B55⟩ := q55
    refine g_areturn dj40_47_58 rfl rfl rfl rfl rfl rfl (⟨a45, rfl, Nat.le_of_eq e45.symm, ext_keep E45 K55 (allS (Nat.le_of_eq e45.symm) all0), B55⟩)
  | [], q, _, _ => exact absurd rfl q
  | _ :: _ :: _ :: _, _, q, _ => simp at q
theorem met_isE (hw : ∀ d ∈ tables_1, d.before a0 Z = true) {a t d : Addr} {xs : List Addr} (B : ALd Z h a t d xs) (h2 : xs.length ≤ 2) : MetW [] l yIsE jdk_38_method_9_code 1 (some .boolean) (Rm 0 0 0 0) #[.ref a] Z a0 EL nw [] h (fun v h' => v = some (.int (if xs = [] then 1 else 0)) ∧ h' = h) := by
  have q : Int32.ofNat xs.length = 0 ↔ xs = [] := by
    rw [show (0 : Int32) = Int32.ofNat 0 from rfl, ofNat_inj (by omega) (by omega)]
    exact List.length_eq_zero_iff
  refine MetW.of (by first | exact plainFor_of_name (by first | (simp [plainName, overriddenIn]; done) | decide +kernel) | decide +kernel) fun X hX => Go.old fun EZ => ?_
  show Go X _ _ _ _ _ _ _ _ _ _ _ _ _ _ _ _ (mkF X.m 0 #[.val (.ref a)] [])
  refine g_aloadN (pc' := 1) dj38_9_0 rfl rfl rfl ?_
  refine g_getfield (pc' := 4) dj38_9_1 rfl (wf_ArrayList_48 hw) (B.2.2.1) ?_
  refine g_ifne (pc' := 7) (pc2 := 11) dj38_9_4 rfl (by decide) rfl (fun c4 => ?_) (fun c4 => ?_)
  · refine g_iconst (pc' := 8) (w := 1) dj38_9_7 rfl (by decide) ?_
    refine g_goto (pc' := 12) dj38_9_8 (by decide) rfl ?_
    refine g_ireturn (t := .boolean) dj38_9_12 rfl (by simp) rfl rfl rfl (⟨by rw [if_pos (q.mp c4)], rfl⟩)
  · refine g_iconst (pc' := 12) (w := 0) dj38_9_11 rfl (by decide) ?_
    refine g_ireturn (t := .boolean) dj38_9_12 rfl (by simp) rfl rfl rfl (⟨by rw [if_neg (fun z => c4 (q.mpr z))], rfl⟩)
theorem met_Lof0 (hw : ∀ d ∈ tables_1, d.before a0 Z = true) {el em : Addr} (I : ICS Z el em) : MetW [] l yLof0 jdk_40_method_36_code 0 (some (.object "java/util/List")) (Rm 0 0 0 0) #[] Z a0 EL nw [] h (fun v h' => v = some (.ref el) ∧ h' = h) := by
  refine MetW.of (by first | exact plainFor_of_name (by first | (simp [plainName, overriddenIn]; done) | decide +kernel) | decide +kernel) fun X hX => Go.old fun EZ => ?_
  show Go X _ _ _ _ _ _ _ _ _ _ _ _ _ _ _ _ (mkF X.m 0 #[] [])
  refine g_getstatic (pc' := 3) dj40_36_0 rfl (wf_List_90 hw) (I.1) ?_
  refine g_areturn dj40_36_3 rfl rfl rfl rfl rfl rfl (⟨rfl, rfl⟩)
/-- Object[]'s mirror is made -/
def Mir (Z : State) (mir : Addr) : Prop := ∃ cO kO, Z.vm.findClass OAD = some cO ∧ Z.vm.classes[cO]? = some kO ∧ kO.mirror = some mir
open Jvm.Free.CopyOfC in
theorem own_cpT {s : State} {args : Array Value} (hw : ∀ d ∈ tables_1, d.before a0 Z = true) (hZ : Z.Warmed39 s.vm) : Copy2.tab.before args s = true := by
  refine (conj_holds (args := args) (first := s) (o := none) (s := s) (idx := []) _ _).mpr ⟨mv hZ (wb_Arrays_copyOf_lALjavalangObjectIrALjavalangObject hw), fun d hd => ?_⟩
  rcases List.mem_append.mp hd with q | q
  · simp only [Copy2.siteAtoms, List.mem_cons, List.not_mem_nil, or_false] at q
    rcases q with rfl | rfl | rfl | rfl | rfl | rfl | rfl | rfl
    · exact mv hZ (wl_Arrays_86 hw)
    · exact mv hZ (wd_Object_getClass_lrLjavalangClass hw)
    · exact mv hZ (wv_Object_Object_getClass_lrLjavalangClass hw)
    · exact mv hZ (wm_Object_getClass_lrLjavalangClass hw)
    · exact mv hZ (wn_Object_getClass_lrLjavalangClass hw)
    · exact mv hZ (wl_Arrays_300 hw)
    · exact mv hZ (ws_Arrays_copyOf_lALjavalangObjectILjavalangClassrALjavalangObject hw)
    · exact mv hZ (wi_Arrays hw)
  · cases List.mem_singleton.mp q
    refine (conj_holds (args := args) (first := s) (o := none) (s := s) (idx := []) _ _).mpr ⟨mv hZ (wb_Arrays_copyOf_lALjavalangObjectILjavalangClassrALjavalangObject hw), fun d hd => ?_⟩
    simp only [List.mem_cons, List.not_mem_nil, or_false] at hd
    rcases hd with rfl | rfl | rfl | rfl | rfl | rfl | rfl | rfl | rfl | rfl | rfl
    · exact mv hZ (wc_Arrays_2 hw)
    · exact Cond.arrayOver_alike hZ.alike (wo_Object hw)
    · exact mv hZ (wl_Arrays_304 hw)
    · exact mv hZ (ws_Math_min_lIIrI hw)
    · exact mv hZ (wi_Math hw)
    · exact mv hZ (wb_Math_min_lIIrI hw)
    · exact mv hZ (wl_Arrays_150 hw)
    · exact mv hZ (wn_System_arraycopy_lLjavalangObjectILjavalangObjectIIrV hw)
    · exact mv hZ (ws_System_arraycopy_lLjavalangObjectILjavalangObjectIIrV hw)
    · exact mv hZ (wi_System hw)
    · exact mv hZ (wc_Arrays_110 hw)
open Jvm.Free.CopyOfC in
/-- Arrays.copyOf(t, n) of the first n places, Strings all -/
theorem pay_cpo (hw : ∀ d ∈ tables_1, d.before a0 Z = true) {mir t : Addr} {k : ClassId} {xs : List Addr} (M : Mir Z mir) (A : Arv Z h t k (.object OBN) 10 (xs.map Value.ref ++ List.replicate (10 - xs.length) .null) .null) (B : Exa Z h t OAD) (hx : ∀ x ∈ xs, Exa Z h x STN) (h2 : xs.length ≤ 2) (hf : Nat.ble 4 R.frames = true) (hl : Nat.ble (W + 77) R.locals = true) :
    Pay l R yCpO W #[.ref t, .int (Int32.ofNat xs.length)] Z a0 EL nw sf h 1 2 (fun v h' => v = some (.ref h.size) ∧ Ext h h' ∧ ∃ k', Arv Z h' h.size k' (.object OBN) (Int32.ofNat xs.length) (xs.map Value.ref) .null) := by
  obtain ⟨cO, kO, m1, m2, m3⟩ := M
  obtain ⟨cA, ⟨a1, a2, a3⟩, -, a5, -, a7, -⟩ := A
  obtain ⟨cA', kb, b1, b2, b3, b4, -⟩ := B
  cases a1.symm.trans b1
  cases m1.symm.trans b2
  obtain ⟨cB, cC, kC, o1, -, o3, o4, o5⟩ := Cond.arrayOver_spec (wo_Object hw)
  have o5 : Z.vm.findClass OAD = some cC := o5
  cases m1.symm.trans o5
  cases m2.symm.trans o3
  obtain ⟨kB, o6, -⟩ := Vm.findClass_spec o1
  obtain ⟨cR, hR⟩ : ∃ c, Z.vm.findClass "java/util/Arrays" = some c := by
    obtain ⟨m, hn⟩ := Cond.code_named (wb_Arrays_copyOf_lALjavalangObjectIrALjavalangObject hw)
    exact ⟨_, findClass_of_methodNamed hn⟩
  have es : cA.slots.size = 10 := by rw [a5]; decide
  have ec : (Int32.ofNat xs.length).toNatClampNeg = xs.length := ofNat_clamp (by omega)
  let g : Copy3.G := ⟨t, cA, Int32.ofNat xs.length, mir, cA.cls, cB, cR⟩
  have emn : Copy3.mn g = Int32.ofNat xs.length := by
    show (if Int32.ofNat xs.length < cA.slots.size.toInt32 then Int32.ofNat xs.length else cA.slots.size.toInt32) = _
    rw [if_pos (by rw [es]; exact (ofNat_lt (b := 10) (by omega) (by omega)).mpr (by omega))]
  have P : Pay l R yCpO W #[.ref t, .int (Int32.ofNat xs.length)] Z a0 EL nw sf h 1 xs.length (fun v h' => v = some (.ref h.size) ∧ Ext h h' ∧ ∃ k', Arv Z h' h.size k' (.object OBN) (Int32.ofNat xs.length) (xs.map Value.ref) .null) := by
    refine Pay.of_back (Q0 := fun v h' L => v = some (.ref h.size) ∧ L = [] ∧ h'[h.size]? = some (copied cA (Copy3.fresh g) 0 0 (Copy3.mn g)) ∧ Ext h h') [] (fun p e below s args len hZ m meth c Ap fr ig mk a X1 hg hsize hdg hW hn hp => ?_) (fun _ q => nomatch q) fun v h' L q => ?_
    · have hU : Z.Warmed39 Ap.U.vm := wtrans hZ X1.warmed
      have hal := hU.alike
      obtain ⟨p1, p2, p3, p4⟩ := hp
      obtain ⟨kO', z1, z2⟩ := hal.2.2 _ _ m2
      obtain ⟨kB', z3, z4⟩ := hal.2.2 _ _ o6
      have hPa : Copy2.P xs.length g a Ap.U := by
        refine ⟨p1, ⟨rfl, by rw [p2]; exact a1, a3, a2.1, ⟨kO', cB, .object OBN, z1, by rw [z2]; exact o4, rfl⟩, by rw [hal.findClass]; exact m1, ⟨kO', z1, by rw [z2]; exact o4, by rw [z2]; exact m3⟩, by rw [hal.findClass]; exact o1, ⟨kB', z3⟩, by rw [hal.findClass]; exact hR, ?_, by show (Int32.ofNat xs.length).toNatClampNeg ≤ xs.length; omega, by show (Int32.ofNat xs.length).toNatClampNeg * 4 ≤ _; omega, by show cA.slots.size < _; omega, fun i hi => ?_⟩, Copy2.notFace_at (a := a) (own_cpT hw hU), rfl⟩
        · show 0 ≤ (Int32.ofNat xs.length).toInt
          rw [toInt_ofNat (by omega)]
          omega
        · have hi : i < cA.slots.size := hi
          refine ⟨_, a7 i hi, ?_⟩
          by_cases q : i < xs.length
          · have ei : (xs.map Value.ref ++ List.replicate (10 - xs.length) Value.null).getD i .null = .ref xs[i] := by
              rw [List.getD_eq_getElem?_getD, List.getElem?_append_left (by rw [List.length_map]; exact q), List.getElem?_map, List.getElem?_eq_getElem q]
              rfl
            obtain ⟨cx, kx, x1, x2, x3, x4, -⟩ := hx xs[i] (List.getElem_mem q)
            obtain ⟨kx', x5, -⟩ := hal.2.2 _ _ x3
            obtain ⟨cy, cT, y1, y2, y3⟩ := Ins.of_exa (hx xs[i] (List.getElem_mem q)) (wx_String_Object hw)
            cases x1.symm.trans y1
            cases o1.symm.trans y2
            refine Or.inr ⟨xs[i], cx, ei, by rw [p2]; exact x1, fun z hz => (by rw [hz] at x4; cases x4), ⟨kx', x5⟩, by rw [hal.assignable]; simpa [x4] using y3⟩
          · refine Or.inl ?_
            rw [List.getD_eq_getElem?_getD, List.getElem?_append_right (by rw [List.length_map]; omega), List.length_map]
            by_cases q2 : i - xs.length < 10 - xs.length
            · rw [List.getElem?_replicate, if_pos q2]; rfl
            · rw [List.getElem?_replicate, if_neg q2]; rfl
      obtain ⟨v, Bp, X2, ⟨e1, e2, e3, e4, e5, e6⟩, stp⟩ := Copy2.pays (l := l) (R := R) (len := len) (W := W) (s := s) (sargs := args) xs.length g (own_cpT hw hZ) (ble hf) (ble hl) m meth c Ap fr ig mk a X1 hg hsize hdg hW hn ⟨p3, p4, hPa⟩
      have hle : h.size ≤ Bp.U.heap.size := by
        have := (Array.getElem?_eq_some_iff.mp e2).1
        rw [p2] at this
        omega
      exact ⟨v, Bp, X2, ⟨[], ⟨by rw [e1, p2], rfl, by rw [← p2]; exact e2, ⟨hle, fun y cy q => e6 y cy (by rw [p2]; exact q)⟩⟩, by rw [e3, List.append_nil], e4, by rw [e5]; show _ = Ap.slots + xs.length; rw [show g.n.toNatClampNeg = xs.length from ec]⟩, stp⟩
    · obtain ⟨q1, rfl, q3, q4⟩ := q
      obtain ⟨f1, f2, f3⟩ := Jvm.Free.SB.copied_facts cA (Copy3.fresh g) 0 0 (Copy3.mn g)
      have fsz : (Copy3.fresh g).slots.size = xs.length := by
        show (Array.replicate (Int32.ofNat xs.length).toNatClampNeg Value.null).size = _
        rw [ec, Array.size_replicate]
      have hel : ∀ j, j < xs.length → (copied cA (Copy3.fresh g) 0 0 (Copy3.mn g)).slots[j]? = some ((xs.map Value.ref).getD j .null) := fun j hj => by
        rw [emn]
        have q := Jvm.Free.SBG.copied_at (cs := cA) (cd := Copy3.fresh g) (p := 0) (n := xs.length) (by omega) (by omega) (by omega) j
        refine Eq.trans q ?_
        rw [if_pos ⟨Nat.zero_le _, by omega⟩, Nat.sub_zero, Array.getD_eq_getD_getElem?, a7 j (by omega), List.getD_eq_getElem?_getD, List.getElem?_append_left (by rw [List.length_map]; exact hj), List.getD_eq_getElem?_getD]
        rfl
      refine ⟨⟨q1, q4, cA.cls, copied cA (Copy3.fresh g) 0 0 (Copy3.mn g), ⟨q3, ⟨fun z hz => (by rw [f2] at hz; cases hz), kO, by rw [f1]; exact m2, cB, o4⟩, fun hz => (by rw [f2] at hz; cases hz)⟩, f1, by rw [f3, fsz, ec], ofNat_nn (by omega), fun j hj => hel j (by rw [f3, fsz] at hj; exact hj), fun j hj => ?_⟩, keep_ext q4, Fr.nil _⟩
      have hj : j < xs.length := by rw [f3, fsz] at hj; exact hj
      rw [List.getD_eq_getElem?_getD, List.getElem?_map, List.getElem?_eq_getElem hj]
      rfl
  exact P.up (Nat.le_refl _) h2
/-- ArrayList.toArray -/
theorem met_TA (hw : ∀ d ∈ tables_1, d.before a0 Z = true) {mir a t d : Addr} {xs : List Addr} (M : Mir Z mir) (B : ALd Z h a t d xs) (h0 : xs ≠ []) (hx : ∀ x ∈ xs, Exa Z h x STN) : MetW [] l yTA jdk_38_method_16_code 1 (some (.array (.object OBN))) (Rm 4 1 2 80) #[.ref a] Z a0 EL nw [] h (fun v h' => v = some (.ref h.size) ∧ Ext h h' ∧ ∃ k', Arv Z h' h.size k' (.object OBN) (Int32.ofNat xs.length) (xs.map Value.ref) .null) := by
  obtain ⟨E, Fe, Fs, -, q⟩ := B
  rcases q with ⟨q, -⟩ | ⟨-, h2, zt, k, A, O, Bt⟩
  · exact absurd q h0
  refine MetW.of (by first | exact plainFor_of_name (by first | (simp [plainName, overriddenIn]; done) | decide +kernel) | decide +kernel) fun X hX => Go.old fun EZ => ?_
  show Go X _ _ _ _ _ _ _ _ _ _ _ _ _ _ _ _ (mkF X.m 0 #[.val (.ref a)] [])
  refine g_aloadN (pc' := 1) dj38_16_0 rfl rfl rfl ?_
  refine g_getfield (pc' := 4) dj38_16_1 rfl (wf_ArrayList_9 hw) (Fe) ?_
  refine g_aloadN (pc' := 5) dj38_16_4 rfl rfl rfl ?_
  refine g_getfield (pc' := 8) dj38_16_5 rfl (wf_ArrayList_48 hw) (Fs) ?_
  refine g_invokestatic (pc' := 11) [] [_, _] dj38_16_8 rfl (wl_ArrayList_66 hw) (ws_Arrays_copyOf_lALjavalangObjectIrALjavalangObject hw) (wi_Arrays hw) (wb_Arrays_copyOf_lALjavalangObjectIrALjavalangObject hw) (by decide) (pay_cpo hw M A Bt hx h2 rfl rfl) pd_lALjavalangObjectIrALjavalangObject rfl rfl rfl rfl rfl (fun _ q => nomatch q) fun v8 h8 q8 l8 => ?_
  obtain ⟨rfl, r⟩ := q8
  refine g_areturn dj38_16_11 rfl rfl rfl rfl rfl rfl (⟨rfl, r⟩)
theorem al_no (hw : ∀ d ∈ tables_1, d.before a0 Z = true) {K : String} (ni : NI Z K) (h1 : ALN ≠ K) (h2 : "java/util/AbstractList" ≠ K) (h3 : "java/util/AbstractCollection" ≠ K) (h4 : OBN ≠ K) : ∃ c t, Z.vm.findClass ALN = some c ∧ Z.vm.findClass K = some t ∧ Z.vm.assignable c t = false :=
  ns_no (wz_ArrayList_AbstractList hw) ni (NS.step (wz_ArrayList_AbstractList hw) (NS.step (wz_AbstractList_AbstractCollection hw) (NS.step (wz_AbstractCollection_Object hw) (ns_root (wzn_Object hw) ni h4) h3) h2) h1) h1
/-- listCopy of an ArrayList -/
theorem met_LC (hw : ∀ d ∈ tables_1, d.before a0 Z = true) {el em mir a t d : Addr} {xs : List Addr} (I : ICS Z el em) (M : Mir Z mir) (EZ : Ext Z.heap h) (B : ALd Z h a t d xs) (h2 : xs.length ≤ 2) (hx : ∀ x ∈ xs, Exa Z h x STN) : MetW [] l yLC jdk_56_method_3_code 2 (some (.object "java/util/List")) (Rm 6 2 4 110) #[.ref a] Z a0 EL nw [] h (fun v h' => ∃ b, v = some (.ref b) ∧ Ext h h' ∧ ILd Z h' b el em xs) := by
  refine MetW.of (by first | exact plainFor_of_name (by first | (simp [plainName, overriddenIn]; done) | decide +kernel) | decide +kernel) fun X hX => Go.old fun EZ => ?_
  show Go X _ _ _ _ _ _ _ _ _ _ _ _ _ _ _ _ (mkF X.m 0 #[.val (.ref a), .unset] [])
  refine g_aloadN (pc' := 1) dj56_3_0 rfl rfl rfl ?_
  refine g_instanceofN (pc' := 4) dj56_3_1 rfl (wc_ImmutableCollections_10 hw) B.1 (al_no hw (NI.sel (wv_ImmutableCollectionsSList12_ImmutableCollectionsSAbstractImmutableList_size_lrI hw)) (by decide) (by decide) (by decide) (by decide)) ?_
  refine g_ifne (pc' := 7) (pc2 := 26) dj56_3_4 rfl (by decide) rfl (fun c4 => ?_) (fun c4 => False.elim (c4 rfl))
  refine g_aloadN (pc' := 8) dj56_3_7 rfl rfl rfl ?_
  refine g_instanceofN (pc' := 11) dj56_3_8 rfl (wc_ImmutableCollections_12 hw) B.1 (al_no hw (NI.sel (wv_ImmutableCollectionsSListN_ImmutableCollectionsSAbstractImmutableList_size_lrI hw)) (by decide) (by decide) (by decide) (by decide)) ?_
  refine g_ifeq (pc' := 14) (pc2 := 31) dj56_3_11 rfl (by decide) rfl (fun c11 => False.elim (c11 rfl)) (fun c11 => ?_)
  refine g_aloadN (pc' := 32) dj56_3_31 rfl rfl rfl ?_
  refine g_invokeinterface (pc' := 37) [] [] dj56_3_32 rfl (wl_ImmutableCollections_20 hw) (wd_Collection_isEmpty_lrZ hw) (wv_ArrayList_Collection_isEmpty_lrZ hw) (wm_ArrayList_isEmpty_lrZ hw) (wg_Collection_isEmpty_lrZ hw) rfl (wp_ArrayList_isEmpty_lrZ hw) (wu_ArrayList_isEmpty_lrZ hw) (wx_ArrayList_Collection hw) (by decide) (B.1) (Pay.of_met (met_isE hw B h2) (wb_ArrayList_isEmpty_lrZ hw) (wi_ArrayList hw) rfl rfl) pd_lrZ rfl rfl rfl rfl rfl (fun _ q => nomatch q) fun v32 h32 q32 l32 => ?_
  obtain ⟨rfl, e32⟩ := q32
  have e32 := e32.symm
  subst e32
  by_cases h0 : xs = []
  · rw [if_pos h0]
    refine g_ifeq (pc' := 40) (pc2 := 44) dj56_3_37 rfl (by decide) rfl (fun c37 => ?_) (fun c37 => False.elim (absurd c37 (by decide)))
    refine g_invokestatic (pc' := 43) [] [] dj56_3_40 rfl (wl_ImmutableCollections_26 hw) (ws_List_of_lrLjavautilList hw) (wi_List hw) (wb_List_of_lrLjavautilList hw) (by decide) (Pay.of_met (met_Lof0 hw I) (wb_List_of_lrLjavautilList hw) (wi_List hw) rfl rfl) pd_lrLjavautilList rfl rfl rfl rfl rfl (fun _ q => nomatch q) fun v40 h40 q40 l40 => ?_
    obtain ⟨rfl, e40⟩ := q40
    have e40 := e40.symm
    subst e40
    refine g_areturn dj56_3_43 rfl rfl rfl rfl rfl rfl (⟨el, rfl, ext_refl _, Or.inl ⟨h0, rfl⟩⟩)
  · rw [if_neg h0]
    refine g_ifeq (pc' := 40) (pc2 := 44) dj56_3_37 rfl (by decide) rfl (fun c37 => False.elim (c37 rfl)) (fun c37 => ?_)
    refine g_aloadN (pc' := 45) dj56_3_44 rfl rfl rfl ?_
    refine g_invokeinterface (pc' := 50) [] [] dj56_3_45 rfl (wl_ImmutableCollections_30 hw) (wd_Collection_toArray_lrALjavalangObject hw) (wv_ArrayList_Collection_toArray_lrALjavalangObject hw) (wm_ArrayList_toArray_lrALjavalangObject hw) (wg_Collection_toArray_lrALjavalangObject hw) rfl (wp_ArrayList_toArray_lrALjavalangObject hw) (wu_ArrayList_toArray_lrALjavalangObject hw) (wx_ArrayList_Collection hw) (by decide) (B.1) (Pay.of_met (met_TA hw M B h0 hx) (wb_ArrayList_toArray_lrALjavalangObject hw) (wi_ArrayList hw) rfl rfl) pd_lrALjavalangObject rfl rfl rfl rfl rfl (fun _ q => nomatch q) fun v45 h45 q45 l45 => ?_
    obtain ⟨rfl, E45, k', A45⟩ := q45
    refine g_invokestatic (pc' := 53) [] [_] dj56_3_50 rfl (wl_ImmutableCollections_34 hw) (ws_List_of_lALjavalangObjectrLjavautilList hw) (wi_List hw) (wb_List_of_lALjavalangObjectrLjavautilList hw) (by decide) (Pay.of_met (met_Lof hw I (ext_trans EZ E45) A45 h0 h2) (wb_List_of_lALjavalangObjectrLjavautilList hw) (wi_List hw) rfl rfl) pd_lALjavalangObjectrLjavautilList rfl rfl rfl rfl rfl (fun _ q => nomatch q) fun v50 h50 q50 l50 => ?_
    obtain ⟨b, rfl, b1, E50, B50⟩ := q50
    refine g_areturn dj56_3_53 rfl rfl rfl rfl rfl rfl (⟨b, rfl, ext_trans E45 E50, B50⟩)
theorem met_cp (hw : ∀ d ∈ tables_1, d.before a0 Z = true) {el em mir a t d : Addr} {xs : List Addr} (I : ICS Z el em) (M : Mir Z mir) (EZ : Ext Z.heap h) (B : ALd Z h a t d xs) (h2 : xs.length ≤ 2) (hx : ∀ x ∈ xs, Exa Z h x STN) : MetW [] l yLcp jdk_40_method_48_code 1 (some (.object "java/util/List")) (Rm 7 2 4 130) #[.ref a] Z a0 EL nw [] h (fun v h' => ∃ b, v = some (.ref b) ∧ Ext h h' ∧ ILd Z h' b el em xs) := by
  refine MetW.of (by first | exact plainFor_of_name (by first | (simp [plainName, overriddenIn]; done) | decide +kernel) | decide +kernel) fun X hX => Go.old fun EZ => ?_
  show Go X _ _ _ _ _ _ _ _ _ _ _ _ _ _ _ _ (mkF X.m 0 #[.val (.ref a)] [])
  refine g_aloadN (pc' := 1) dj40_48_0 rfl rfl rfl ?_
  refine g_invokestatic (pc' := 4) [] [_] dj40_48_1 rfl (wl_List_112 hw) (ws_ImmutableCollections_listCopy_lLjavautilCollectionrLjavautilList hw) (wi_ImmutableCollections hw) (wb_ImmutableCollections_listCopy_lLjavautilCollectionrLjavautilList hw) (by decide) (Pay.of_met (met_LC hw I M EZ B h2 hx) (wb_ImmutableCollections_listCopy_lLjavautilCollectionrLjavautilList hw) (wi_ImmutableCollections hw) rfl rfl) pd_lLjavautilCollectionrLjavautilList rfl rfl rfl rfl rfl (fun _ q => nomatch q) fun v1 h1 q1 l1 => ?_
  obtain ⟨b, rfl, r⟩ := q1
  refine g_areturn dj40_48_4 rfl rfl rfl rfl rfl rfl (⟨b, rfl, r⟩)
end ICc
/-! ImmutableCollections' lists read: size, get, their iterator -/
section Itr
variable {l : Launch} {R : Room} {Z : State} {a0 : Array Value} {EL : List (String × Nat)} {nw : Bool} {h : Heap} {W : Nat} {sf : List Addr}
abbrev ITN : String := "java/util/ImmutableCollections$ListItr"
abbrev LID : String := "Ljava/util/List;"
abbrev yLnS : MethodName := ⟨"java/util/ImmutableCollections$ListN", "size", "()I"⟩
abbrev yL2S : MethodName := ⟨"java/util/ImmutableCollections$List12", "size", "()I"⟩
abbrev yL2G : MethodName := ⟨"java/util/ImmutableCollections$List12", "get", "(I)Ljava/lang/Object;"⟩
abbrev yItI : MethodName := ⟨"java/util/ImmutableCollections$ListItr", "<init>", "(Ljava/util/List;I)V"⟩
abbrev yItH : MethodName := ⟨"java/util/ImmutableCollections$ListItr", "hasNext", "()Z"⟩
abbrev yItN : MethodName := ⟨"java/util/ImmutableCollections$ListItr", "next", "()Ljava/lang/Object;"⟩
abbrev yIter : MethodName := ⟨"java/util/ImmutableCollections$AbstractImmutableList", "iterator", "()Ljava/util/Iterator;"⟩
theorem met_LnS (hw : ∀ d ∈ tables_1, d.before a0 Z = true) {el em : Addr} (I : ICS Z el em) : MetW [] l yLnS jdk_45_method_3_code 1 (some .int) (Rm 0 0 0 0) #[.ref el] Z a0 EL nw [] h (fun v h' => v = some (.int 0) ∧ h' = h) := by
  obtain ⟨-, -, -, -, ee, k, F, A⟩ := I
  refine MetW.of (by first | exact plainFor_of_name (by first | (simp [plainName, overriddenIn]; done) | decide +kernel) | decide +kernel) fun X hX => Go.old fun EZ => ?_
  show Go X _ _ _ _ _ _ _ _ _ _ _ _ _ _ _ _ (mkF X.m 0 #[.val (.ref el)] [])
  refine g_aloadN (pc' := 1) dj45_3_0 rfl rfl rfl ?_
  refine g_getfield (pc' := 4) dj45_3_1 rfl (wf_ImmutableCollectionsSListN_7 hw) ((F.ext EZ)) ?_
  refine g_arraylength (pc' := 5) dj45_3_4 rfl ((A.ext EZ)) ?_
  refine g_ireturn (t := .int) dj45_3_5 rfl (by simp) rfl rfl rfl (⟨rfl, rfl⟩)
theorem met_L2S (hw : ∀ d ∈ tables_1, d.before a0 Z = true) {el em a : Addr} {xs : List Addr} (I : ICS Z el em) (B : ILd Z h a el em xs) (h0 : xs ≠ []) (hx : ∀ x ∈ xs, x ≠ em) : MetW [] l yL2S jdk_44_method_3_code 1 (some .int) (Rm 0 0 0 0) #[.ref a] Z a0 EL nw [] h (fun v h' => v = some (.int (Int32.ofNat xs.length)) ∧ h' = h) := by
  rcases B with ⟨q, -⟩ | ⟨x, rfl, E, F0, F1⟩ | ⟨x, x', rfl, E, F0, F1⟩
  · exact absurd q h0
  · refine MetW.of (by first | exact plainFor_of_name (by first | (simp [plainName, overriddenIn]; done) | decide +kernel) | decide +kernel) fun X hX => Go.old fun EZ => ?_
    show Go X _ _ _ _ _ _ _ _ _ _ _ _ _ _ _ _ (mkF X.m 0 #[.val (.ref a)] [])
    refine g_aloadN (pc' := 1) dj44_3_0 rfl rfl rfl ?_
    refine g_getfield (pc' := 4) dj44_3_1 rfl (wf_ImmutableCollectionsSList12_24 hw) (F1) ?_
    refine g_getstaticN (pc' := 7) dj44_3_4 rfl (wf_ImmutableCollectionsSList12_19 hw) I.2.1 ?_
    refine g_acmp (pc' := 10) (pc2 := 14) dj44_3_7 rfl (by decide) rfl rfl rfl (fun c7 => False.elim (absurd c7 (by simp [XT.acmp]))) (fun c7 => ?_)
    refine g_iconst (pc' := 15) (w := 1) dj44_3_14 rfl (by decide) ?_
    refine g_ireturn (t := .int) dj44_3_15 rfl (by simp) rfl rfl rfl (⟨rfl, rfl⟩)
  · have ne : x' ≠ em := hx x' (by simp)
    refine MetW.of (by first | exact plainFor_of_name (by first | (simp [plainName, overriddenIn]; done) | decide +kernel) | decide +kernel) fun X hX => Go.old fun EZ => ?_
    show Go X _ _ _ _ _ _ _ _ _ _ _ _ _ _ _ _ (mkF X.m 0 #[.val (.ref a)] [])
    refine g_aloadN (pc' := 1) dj44_3_0 rfl rfl rfl ?_
    refine g_getfield (pc' := 4) dj44_3_1 rfl (wf_ImmutableCollectionsSList12_24 hw) (F1) ?_
    refine g_getstaticN (pc' := 7) dj44_3_4 rfl (wf_ImmutableCollectionsSList12_19 hw) I.2.1 ?_
    refine g_acmp (pc' := 10) (pc2 := 14) dj44_3_7 rfl (by decide) rfl rfl rfl (fun c7 => ?_) (fun c7 => False.elim (absurd c7 (by simp [XT.acmp, ne])))
    refine g_iconst (pc' := 11) (w := 2) dj44_3_10 rfl (by decide) ?_
    refine g_goto (pc' := 15) dj44_3_11 (by decide) rfl ?_
    refine g_ireturn (t := .int) dj44_3_15 rfl (by simp) rfl rfl rfl (⟨rfl, rfl⟩)
theorem met_L2G (hw : ∀ d ∈ tables_1, d.before a0 Z = true) {el em a y : Addr} {xs : List Addr} {i : Nat} (I : ICS Z el em) (B : ILd Z h a el em xs) (hy : xs[i]? = some y) (hx : ∀ x ∈ xs, x ≠ em) : MetW [] l yL2G jdk_44_method_5_code 2 (some (.object OBN)) (Rm 0 0 0 0) #[.ref a, .int (Int32.ofNat i)] Z a0 EL nw [] h (fun v h' => v = some (.ref y) ∧ h' = h) := by
  rcases B with ⟨rfl, -⟩ | ⟨x, rfl, E, F0, F1⟩ | ⟨x, x', rfl, E, F0, F1⟩
  · simp at hy
  · match i, hy with
    | 0, hy =>
      obtain rfl : x = y := by simpa using hy
      refine MetW.of (by first | exact plainFor_of_name (by first | (simp [plainName, overriddenIn]; done) | decide +kernel) | decide +kernel) fun X hX => Go.old fun EZ => ?_
      show Go X _ _ _ _ _ _ _ _ _ _ _ _ _ _ _ _ (mkF X.m 0 #[.val (.ref a), .val (.int (Int32.ofNat 0))] [])
      refine g_iloadN (pc' := 1) dj44_5_0 rfl rfl ?_
      refine g_ifne (pc' := 4) (pc2 := 9) dj44_5_1 rfl (by decide) rfl (fun c1 => ?_) (fun c1 => False.elim (c1 rfl))
      refine g_aloadN (pc' := 5) dj44_5_4 rfl rfl rfl ?_
      refine g_getfield (pc' := 8) dj44_5_5 rfl (wf_ImmutableCollectionsSList12_13 hw) (F0) ?_
      refine g_areturn dj44_5_8 rfl rfl rfl rfl rfl rfl (⟨rfl, rfl⟩)
    | i + 1, hy => simp at hy
  · match i, hy with
    | 0, hy =>
      obtain rfl : x = y := by simpa using hy
      refine MetW.of (by first | exact plainFor_of_name (by first | (simp [plainName, overriddenIn]; done) | decide +kernel) | decide +kernel) fun X hX => Go.old fun EZ => ?_
      show Go X _ _ _ _ _ _ _ _ _ _ _ _ _ _ _ _ (mkF X.m 0 #[.val (.ref a), .val (.int (Int32.ofNat 0))] [])
      refine g_iloadN (pc' := 1) dj44_5_0 rfl rfl ?_
      refine g_ifne (pc' := 4) (pc2 := 9) dj44_5_1 rfl (by decide) rfl (fun c1 => ?_) (fun c1 => False.elim (c1 rfl))
      refine g_aloadN (pc' := 5) dj44_5_4 rfl rfl rfl ?_
      refine g_getfield (pc' := 8) dj44_5_5 rfl (wf_ImmutableCollectionsSList12_13 hw) (F0) ?_
      refine g_areturn dj44_5_8 rfl rfl rfl rfl rfl rfl (⟨rfl, rfl⟩)
    | 1, hy =>
      obtain rfl : x' = y := by simpa using hy
      have ne : x' ≠ em := hx x' (by simp)
      refine MetW.of (by first | exact plainFor_of_name (by first | (simp [plainName, overriddenIn]; done) | decide +kernel) | decide +kernel) fun X hX => Go.old fun EZ => ?_
      show Go X _ _ _ _ _ _ _ _ _ _ _ _ _ _ _ _ (mkF X.m 0 #[.val (.ref a), .val (.int (Int32.ofNat 1))] [])
      refine g_iloadN (pc' := 1) dj44_5_0 rfl rfl ?_
      refine g_ifne (pc' := 4) (pc2 := 9) dj44_5_1 rfl (by decide) rfl (fun c1 => False.elim (absurd c1 (by decide))) (fun c1 => ?_)
      refine g_iloadN (pc' := 10) dj44_5_9 rfl rfl ?_
      refine g_iconst (pc' := 11) (w := 1) dj44_5_10 rfl (by decide) ?_
      refine g_icmpne (pc' := 14) (pc2 := 29) dj44_5_11 rfl (by decide) rfl (fun c11 => ?_) (fun c11 => False.elim (c11 rfl))
      refine g_aloadN (pc' := 15) dj44_5_14 rfl rfl rfl ?_
      refine g_getfield (pc' := 18) dj44_5_15 rfl (wf_ImmutableCollectionsSList12_24 hw) (F1) ?_
      refine g_getstaticN (pc' := 21) dj44_5_18 rfl (wf_ImmutableCollectionsSList12_19 hw) I.2.1 ?_
      refine g_acmp (pc' := 24) (pc2 := 29) dj44_5_21 rfl (by decide) rfl rfl rfl (fun c21 => ?_) (fun c21 => False.elim (absurd c21 (by simp [XT.acmp, ne])))
      refine g_aloadN (pc' := 25) dj44_5_24 rfl rfl rfl ?_
      refine g_getfield (pc' := 28) dj44_5_25 rfl (wf_ImmutableCollectionsSList12_24 hw) (F1) ?_
      refine g_areturn dj44_5_28 rfl rfl rfl rfl rfl rfl (⟨rfl, rfl⟩)
    | i + 2, hy => simp at hy
/-- an iterator over the list a of n elements, at place c -/
def ItD (Z : State) (h : Heap) (i a : Addr) (n c : Nat) : Prop := Exa Z h i ITN ∧ Fld Z h i ITN "list" LID (.ref a) ∧ Fld Z h i ITN "size" "I" (.int (Int32.ofNat n)) ∧ Fld Z h i ITN "cursor" "I" (.int (Int32.ofNat c))
theorem ItD.ext {h' : Heap} {i a : Addr} {n c : Nat} (S : ItD Z h i a n c) (E : Ext h h') : ItD Z h' i a n c := ⟨S.1.ext E, S.2.1.ext E, S.2.2.1.ext E, S.2.2.2.ext E⟩
theorem it_ne1 (hw : ∀ d ∈ tables_1, d.before a0 Z = true) : RoadKit.slotOf Z ITN "size" "I" ≠ RoadKit.slotOf Z ITN "list" LID := slot_ne (Or.inr (wy_ImmutableCollectionsSListItr_ImmutableCollectionsSListItr_size hw)) (Or.inr (wy_ImmutableCollectionsSListItr_ImmutableCollectionsSListItr_list hw)) (by decide) (t := .int) (t' := .object "java/util/List") (by decide) (by decide)
theorem it_ne2 (hw : ∀ d ∈ tables_1, d.before a0 Z = true) : RoadKit.slotOf Z ITN "cursor" "I" ≠ RoadKit.slotOf Z ITN "list" LID := slot_ne (Or.inl (wy_ImmutableCollectionsSListItr_ImmutableCollectionsSListItr_cursor hw)) (Or.inr (wy_ImmutableCollectionsSListItr_ImmutableCollectionsSListItr_list hw)) (by decide) (t := .int) (t' := .object "java/util/List") (by decide) (by decide)
theorem it_ne3 (hw : ∀ d ∈ tables_1, d.before a0 Z = true) : RoadKit.slotOf Z ITN "cursor" "I" ≠ RoadKit.slotOf Z ITN "size" "I" := slot_ne (Or.inl (wy_ImmutableCollectionsSListItr_ImmutableCollectionsSListItr_cursor hw)) (Or.inr (wy_ImmutableCollectionsSListItr_ImmutableCollectionsSListItr_size hw)) (by decide) (t := .int) (t' := .int) (by decide) (by decide)
theorem it_ne4 (hw : ∀ d ∈ tables_1, d.before a0 Z = true) : RoadKit.slotOf Z ITN "isListIterator" "Z" ≠ RoadKit.slotOf Z ITN "list" LID := slot_ne (Or.inr (wy_ImmutableCollectionsSListItr_ImmutableCollectionsSListItr_isListIterator hw)) (Or.inr (wy_ImmutableCollectionsSListItr_ImmutableCollectionsSListItr_list hw)) (by decide) (t := .boolean) (t' := .object "java/util/List") (by decide) (by decide)
theorem it_ne5 (hw : ∀ d ∈ tables_1, d.before a0 Z = true) : RoadKit.slotOf Z ITN "isListIterator" "Z" ≠ RoadKit.slotOf Z ITN "size" "I" := slot_ne (Or.inr (wy_ImmutableCollectionsSListItr_ImmutableCollectionsSListItr_isListIterator hw)) (Or.inr (wy_ImmutableCollectionsSListItr_ImmutableCollectionsSListItr_size hw)) (by decide) (t := .boolean) (t' := .int) (by decide) (by decide)
theorem it_ne6 (hw : ∀ d ∈ tables_1, d.before a0 Z = true) : RoadKit.slotOf Z ITN "isListIterator" "Z" ≠ RoadKit.slotOf Z ITN "cursor" "I" := slot_ne (Or.inr (wy_ImmutableCollectionsSListItr_ImmutableCollectionsSListItr_isListIterator hw)) (Or.inl (wy_ImmutableCollectionsSListItr_ImmutableCollectionsSListItr_cursor hw)) (by decide) (t := .boolean) (t' := .int) (by decide) (by decide)
theorem met_ItI (hw : ∀ d ∈ tables_1, d.before a0 Z = true) {i a : Addr} {n : Nat} {v0 v1 v2 v3 : Value} (hi : Z.heap.size ≤ i) (E : Exa Z h i ITN) (F0 : Fld Z h i ITN "list" LID v0) (F1 : Fld Z h i ITN "size" "I" v1) (F2 : Fld Z h i ITN "cursor" "I" v2) (F3 : Fld Z h i ITN "isListIterator" "Z" v3) : MetW [] l yItI jdk_53_method_1_code 3 none (Rm 1 0 0 12) #[.ref i, .ref a, .int (Int32.ofNat n)] Z a0 EL nw [i] h (fun v h' => v = none ∧ Keep h h' [i] ∧ ItD Z h' i a n 0) := by
  refine MetW.of (by first | exact plainFor_of_name (by first | (simp [plainName, overriddenIn]; done) | decide +kernel) | decide +kernel) fun X hX => Go.old fun EZ => ?_
  show Go X _ _ _ _ _ _ _ _ _ _ _ _ _ _ _ _ (mkF X.m 0 #[.val (.ref i), .val (.ref a), .val (.int (Int32.ofNat n))] [])
  refine g_aloadN (pc' := 1) dj53_1_0 rfl rfl rfl ?_
  refine g_objinit (pc' := 4) dj53_1_1 rfl (wl_ImmutableCollectionsSListItr_1 hw) (wm_Object_init_lrV hw) (wb_Object_init_lrV hw) rfl rfl rfl ?_
  refine g_aloadN (pc' := 5) dj53_1_4 rfl rfl rfl ?_
  refine g_aloadN (pc' := 6) dj53_1_5 rfl rfl rfl ?_
  refine g_putfield (pc' := 9) dj53_1_6 rfl (wf_ImmutableCollectionsSListItr_7 hw) (F0) (E) (Or.inr ⟨wy_ImmutableCollectionsSListItr_ImmutableCollectionsSListItr_list hw, rfl, rfl⟩) (wn_ImmutableCollectionsSListItr hw) (ty := (.object "java/util/List")) (by decide) rfl rfl (hi) (by simp) fun h6 W6 => ?_
  refine g_aloadN (pc' := 10) dj53_1_9 rfl rfl rfl ?_
  refine g_iloadN (pc' := 11) dj53_1_10 rfl rfl ?_
  refine g_putfield (pc' := 14) dj53_1_11 rfl (wf_ImmutableCollectionsSListItr_13 hw) (F1.other W6 (Or.inr (it_ne1 hw))) (E.wr W6) (Or.inr ⟨wy_ImmutableCollectionsSListItr_ImmutableCollectionsSListItr_size hw, rfl, rfl⟩) (wn_ImmutableCollectionsSListItr hw) (ty := .int) (by decide) rfl rfl (hi) (by simp) fun h11 W11 => ?_
  refine g_aloadN (pc' := 15) dj53_1_14 rfl rfl rfl ?_
  refine g_iconst (pc' := 16) (w := 0) dj53_1_15 rfl (by decide) ?_
  refine g_putfield (pc' := 19) dj53_1_16 rfl (wf_ImmutableCollectionsSListItr_17 hw) ((F2.other W6 (Or.inr (it_ne2 hw))).other W11 (Or.inr (it_ne3 hw))) ((E.wr W6).wr W11) (Or.inl (wy_ImmutableCollectionsSListItr_ImmutableCollectionsSListItr_cursor hw)) (wn_ImmutableCollectionsSListItr hw) (ty := .int) (by decide) rfl rfl (hi) (by simp) fun h16 W16 => ?_
  refine g_aloadN (pc' := 20) dj53_1_19 rfl rfl rfl ?_
  refine g_iconst (pc' := 21) (w := 0) dj53_1_20 rfl (by decide) ?_
  refine g_putfield (pc' := 24) dj53_1_21 rfl (wf_ImmutableCollectionsSListItr_20 hw) (((F3.other W6 (Or.inr (it_ne4 hw))).other W11 (Or.inr (it_ne5 hw))).other W16 (Or.inr (it_ne6 hw))) (((E.wr W6).wr W11).wr W16) (Or.inr ⟨wy_ImmutableCollectionsSListItr_ImmutableCollectionsSListItr_isListIterator hw, rfl, rfl⟩) (wn_ImmutableCollectionsSListItr hw) (ty := .boolean) (by decide) rfl rfl (hi) (by simp) fun h21 W21 => ?_
  refine g_return dj53_1_24 rfl rfl rfl (⟨rfl, ((((Keep.refl h [i]).wr W6 (Or.inl (List.mem_cons_self ..))).wr W11 (Or.inl (List.mem_cons_self ..))).wr W16 (Or.inl (List.mem_cons_self ..))).wr W21 (Or.inl (List.mem_cons_self ..)), (((E.wr W6).wr W11).wr W16).wr W21, (((F0.same W6).other W11 (Or.inr (it_ne1 hw).symm)).other W16 (Or.inr (it_ne2 hw).symm)).other W21 (Or.inr (it_ne4 hw).symm), (((F1.other W6 (Or.inr (it_ne1 hw))).same W11).other W16 (Or.inr (it_ne3 hw).symm)).other W21 (Or.inr (it_ne5 hw).symm), (((F2.other W6 (Or.inr (it_ne2 hw))).other W11 (Or.inr (it_ne3 hw))).same W16).other W21 (Or.inr (it_ne6 hw).symm)⟩)
theorem met_ItH (hw : ∀ d ∈ tables_1, d.before a0 Z = true) {i a : Addr} {n c : Nat} (B : ItD Z h i a n c) (hn : n ≤ 2) (hc : c ≤ 2) : MetW [] l yItH jdk_53_method_3_code 1 (some .boolean) (Rm 0 0 0 0) #[.ref i] Z a0 EL nw [] h (fun v h' => v = some (.int (if c = n then 0 else 1)) ∧ h' = h) := by
  refine MetW.of (by first | exact plainFor_of_name (by first | (simp [plainName, overriddenIn]; done) | decide +kernel) | decide +kernel) fun X hX => Go.old fun EZ => ?_
  show Go X _ _ _ _ _ _ _ _ _ _ _ _ _ _ _ _ (mkF X.m 0 #[.val (.ref i)] [])
  refine g_aloadN (pc' := 1) dj53_3_0 rfl rfl rfl ?_
  refine g_getfield (pc' := 4) dj53_3_1 rfl (wf_ImmutableCollectionsSListItr_17 hw) (B.2.2.2) ?_
  refine g_aloadN (pc' := 5) dj53_3_4 rfl rfl rfl ?_
  refine g_getfield (pc' := 8) dj53_3_5 rfl (wf_ImmutableCollectionsSListItr_13 hw) (B.2.2.1) ?_
  refine g_icmpeq (pc' := 11) (pc2 := 15) dj53_3_8 rfl (by decide) rfl (fun c8 => ?_) (fun c8 => ?_)
  · refine g_iconst (pc' := 12) (w := 1) dj53_3_11 rfl (by decide) ?_
    refine g_goto (pc' := 16) dj53_3_12 (by decide) rfl ?_
    refine g_ireturn (t := .boolean) dj53_3_16 rfl (by simp) rfl rfl rfl (⟨by rw [if_neg (fun q => c8 (by rw [q]))], rfl⟩)
  · refine g_iconst (pc' := 16) (w := 0) dj53_3_15 rfl (by decide) ?_
    refine g_ireturn (t := .boolean) dj53_3_16 rfl (by simp) rfl rfl rfl (⟨by rw [if_pos ((ofNat_inj (by omega) (by omega)).mp c8)], rfl⟩)
/-- next() -/
theorem pay_next (hw : ∀ d ∈ tables_1, d.before a0 Z = true) {el em i a y : Addr} {xs : List Addr} {n c : Nat} (I : ICS Z el em) (EZ : Ext Z.heap h) (hi : Z.heap.size ≤ i) (hm : i ∈ sf) (B : ItD Z h i a n c) (L : ILd Z h a el em xs) (hy : xs[c]? = some y) (hx : ∀ x ∈ xs, x ≠ em) (hf : Nat.ble 2 R.frames = true) (hl : Nat.ble (W + 40) R.locals = true) :
    Pay l R yItN W #[.ref i] Z a0 EL nw sf h 0 0 (fun v h' => v = some (.ref y) ∧ Keep h h' [i] ∧ ItD Z h' i a n (c + 1)) := by
  have La : Exa Z h a L12N := by
    rcases L with ⟨rfl, -⟩ | ⟨x, rfl, E, -, -⟩ | ⟨x, x', rfl, E, -, -⟩
    · simp at hy
    · exact E
    · exact E
  obtain ⟨E, F0, F1, F2⟩ := id B
  refine Pay.of_with (rm := Rm 1 0 0 20) [i] (by first | exact plainFor_of_name (by first | (simp [plainName, overriddenIn]; done) | decide +kernel) | decide +kernel) EZ (fun x hx => by cases List.mem_singleton.mp hx; exact E.lt) (fun X hX => ?_) (wb_ImmutableCollectionsSListItr_next_lrLjavalangObject hw) (wi_ImmutableCollectionsSListItr hw) hf (by have := ble hl; exact bl (by show W + (3 + 11) + 20 ≤ _; omega)) (fun x hx => by cases List.mem_singleton.mp hx; exact ⟨hm, hi⟩)
  show Go X _ _ _ _ _ _ _ _ _ _ _ _ _ _ _ _ (mkF X.m 0 #[.val (.ref i), .unset, .unset] [])
  refine g_aloadN (pc' := 1) dj53_4_0 rfl rfl rfl ?_
  refine g_getfield (pc' := 4) dj53_4_1 rfl (wf_ImmutableCollectionsSListItr_17 hw) (F2) ?_
  refine g_istoreN (pc' := 5) (Ls' := #[_, _, _]) dj53_4_4 rfl rfl ?_
  refine g_aloadN (pc' := 6) dj53_4_5 rfl rfl rfl ?_
  refine g_getfield (pc' := 9) dj53_4_6 rfl (wf_ImmutableCollectionsSListItr_7 hw) (F0) ?_
  refine g_iloadN (pc' := 10) dj53_4_9 rfl rfl ?_
  refine g_invokeinterface (pc' := 15) [] [_] dj53_4_10 rfl (wl_ImmutableCollectionsSListItr_24 hw) (wd_List_get_lIrLjavalangObject hw) (wv_ImmutableCollectionsSList12_List_get_lIrLjavalangObject hw) (wm_ImmutableCollectionsSList12_get_lIrLjavalangObject hw) (wg_List_get_lIrLjavalangObject hw) rfl (wp_ImmutableCollectionsSList12_get_lIrLjavalangObject hw) (wu_ImmutableCollectionsSList12_get_lIrLjavalangObject hw) (wx_ImmutableCollectionsSList12_List hw) (by decide) (La) (Pay.of_met (met_L2G hw I L hy hx) (wb_ImmutableCollectionsSList12_get_lIrLjavalangObject hw) (wi_ImmutableCollectionsSList12 hw) rfl rfl) pd_lIrLjavalangObject rfl rfl rfl rfl rfl (fun _ q => nomatch q) fun v10 h10 q10 l10 => ?_
  obtain ⟨rfl, e10⟩ := q10
  have e10 := e10.symm
  subst e10
  refine g_astoreN (pc' := 16) (Ls' := #[_, _, _]) dj53_4_15 rfl rfl rfl ?_
  refine g_aloadN (pc' := 17) dj53_4_16 rfl rfl rfl ?_
  refine g_iloadN (pc' := 18) dj53_4_17 rfl rfl ?_
  refine g_iconst (pc' := 19) (w := 1) dj53_4_18 rfl (by decide) ?_
  refine g_iadd (pc' := 20) dj53_4_19 rfl ?_
  rw [show Int32.ofNat c + 1 = Int32.ofNat (c + 1) from ofNat_add2 c 1]
  refine g_putfield (pc' := 23) dj53_4_20 rfl (wf_ImmutableCollectionsSListItr_17 hw) (F2) (E) (Or.inl (wy_ImmutableCollectionsSListItr_ImmutableCollectionsSListItr_cursor hw)) (wn_ImmutableCollectionsSListItr hw) (ty := .int) (by decide) rfl rfl (hi) (by simp) fun h20 W20 => ?_
  refine g_aloadN (pc' := 24) dj53_4_23 rfl rfl rfl ?_
  have K := (Keep.refl h [i]).wr W20 (Or.inl (List.mem_cons_self ..))
  refine g_areturn dj53_4_24 rfl rfl rfl rfl rfl rfl (⟨⟨rfl, K, E.wr W20, F0.other W20 (Or.inr (it_ne2 hw).symm), F1.other W20 (Or.inr (it_ne3 hw).symm), F2.same W20⟩, K⟩)
/-- iterator() -/
theorem met_iter {b0 : Array Value} (hw : ∀ d ∈ tables_1, d.before b0 Z = true) {el em a : Addr} {xs : List Addr} (I : ICS Z el em) (EZ : Ext Z.heap h) (L : ILd Z h a el em xs) (hx : ∀ x ∈ xs, x ≠ em) : MetW [] l yIter jdk_46_method_10_code 1 (some (.object "java/util/Iterator")) (Rm 2 1 8 40) #[.ref a] Z b0 EL nw [] h (fun v h' => ∃ i, v = some (.ref i) ∧ h.size ≤ i ∧ i < h'.size ∧ Ext h h' ∧ ItD Z h' i a xs.length 0) := by
  refine MetW.of (by first | exact plainFor_of_name (by first | (simp [plainName, overriddenIn]; done) | decide +kernel) | decide +kernel) fun X hX => Go.old fun EZ => ?_
  show Go X _ _ _ _ _ _ _ _ _ _ _ _ _ _ _ _ (mkF X.m 0 #[.val (.ref a)] [])
  refine g_new (pc' := 3) dj46_10_0 rfl (wc_ImmutableCollectionsSAbstractImmutableList_61 hw) (wn_ImmutableCollectionsSListItr hw) (wi_ImmutableCollectionsSListItr hw) rfl rfl fun h0 a0 e0 E0 A0 D0 => ?_
  refine g_dup (pc' := 4) dj46_10_3 rfl rfl ?_
  refine g_aloadN (pc' := 5) dj46_10_4 rfl rfl rfl ?_
  refine g_aloadN (pc' := 6) dj46_10_5 rfl rfl rfl ?_
  have z0 : Z.heap.size ≤ a0 := by rw [e0]; exact EZ.1
  have fin : ∀ {n : Nat}, n = xs.length → Go X (Rm 2 1 8 40) Z b0 EL nw yIter jdk_46_method_10_code 1 (some (.object "java/util/Iterator")) (fun v h' => ∃ i, v = some (.ref i) ∧ h.size ≤ i ∧ i < h'.size ∧ Ext h h' ∧ ItD Z h' i a xs.length 0) (Rm 2 1 8 40).cells (Rm 2 1 8 40).slots [a0] h0 1 8 (mkF X.m 9 #[.val (.ref a)] [.int (Int32.ofNat n), .ref a, .ref a0, .ref a0]) := by
    intro n hn
    subst hn
    refine g_invokespecial (pc' := 12) [a0] [_, _] dj46_10_9 rfl rfl (wl_ImmutableCollectionsSAbstractImmutableList_63 hw) (wm_ImmutableCollectionsSListItr_init_lLjavautilListIrV hw) (wb_ImmutableCollectionsSListItr_init_lLjavautilListIrV hw) (by decide) (Pay.of_met (met_ItI hw z0 A0 (D0 (Or.inr (wy_ImmutableCollectionsSListItr_ImmutableCollectionsSListItr_list hw)) (ty := .object "java/util/List") (by decide)) (D0 (Or.inr (wy_ImmutableCollectionsSListItr_ImmutableCollectionsSListItr_size hw)) (ty := .int) (by decide)) (D0 (Or.inl (wy_ImmutableCollectionsSListItr_ImmutableCollectionsSListItr_cursor hw)) (ty := .int) (by decide)) (D0 (Or.inr (wy_ImmutableCollectionsSListItr_ImmutableCollectionsSListItr_isListIterator hw)) (ty := .boolean) (by decide))) (wb_ImmutableCollectionsSListItr_init_lLjavautilListIrV hw) (wi_ImmutableCollectionsSListItr hw) rfl rfl) pd_lLjavautilListIrV rfl rfl rfl rfl rfl (fun _ q => q) fun v9 h9 q9 l9 => ?_
    obtain ⟨rfl, K9, B9⟩ := q9
    refine g_areturn dj46_10_12 rfl rfl rfl rfl rfl rfl (⟨a0, rfl, Nat.le_of_eq e0.symm, B9.1.lt, ext_keep E0 K9 (allS (Nat.le_of_eq e0.symm) all0), B9⟩)
  by_cases hxe : xs = []
  · obtain ⟨-, rfl⟩ : xs = [] ∧ a = el := by
      rcases L with q | ⟨x, q, -⟩ | ⟨x, x', q, -⟩
      · exact q
      · rw [hxe] at q; cases q
      · rw [hxe] at q; cases q
    refine g_virtualUp (pc' := 9) (C := LNN) (owner := "java/util/AbstractCollection") [] [] dj46_10_6 rfl (wl_ImmutableCollectionsSAbstractImmutableList_13 hw) (wr_ImmutableCollectionsSAbstractImmutableList_AbstractCollection_size hw) (wd_AbstractCollection_size_lrI hw) (by decide) (wv_ImmutableCollectionsSListN_ImmutableCollectionsSAbstractImmutableList_size_lrI hw) (wm_ImmutableCollectionsSListN_size_lrI hw) (I.2.2.1.ext (ext_trans EZ E0)) (Pay.of_met (met_LnS hw I) (wb_ImmutableCollectionsSListN_size_lrI hw) (wi_ImmutableCollectionsSListN hw) rfl rfl) pd_lrI rfl rfl rfl rfl rfl (fun _ q => nomatch q) fun v6 h6 q6 l6 => ?_
    obtain ⟨rfl, e6⟩ := q6
    have e6 := e6.symm
    subst e6
    exact Go.mono 1 8 rfl rfl (fin (n := 0) (by rw [hxe]; rfl))
  · have La : Exa Z h0 a L12N := by
      rcases L.ext E0 with ⟨q, -⟩ | ⟨x, -, E, -, -⟩ | ⟨x, x', -, E, -, -⟩
      · exact absurd q hxe
      · exact E
      · exact E
    refine g_virtualUp (pc' := 9) (C := L12N) (owner := "java/util/AbstractCollection") [] [] dj46_10_6 rfl (wl_ImmutableCollectionsSAbstractImmutableList_13 hw) (wr_ImmutableCollectionsSAbstractImmutableList_AbstractCollection_size hw) (wd_AbstractCollection_size_lrI hw) (by decide) (wv_ImmutableCollectionsSList12_ImmutableCollectionsSAbstractImmutableList_size_lrI hw) (wm_ImmutableCollectionsSList12_size_lrI hw) La (Pay.of_met (met_L2S hw I (L.ext E0) hxe hx) (wb_ImmutableCollectionsSList12_size_lrI hw) (wi_ImmutableCollectionsSList12 hw) rfl rfl) pd_lrI rfl rfl rfl rfl rfl (fun _ q => nomatch q) fun v6 h6 q6 l6 => ?_
    obtain ⟨rfl, e6⟩ := q6
    have e6 := e6.symm
    subst e6
    exact Go.mono 1 8 rfl rfl (fin rfl)
end Itr
/-! hashCode and equals of immutable lists of Strings, and Objects' helpers -/
section HCol
variable {X : Cx} {l : Launch} {R : Room} {Z : State} {a0 : Array Value} {EL : List (String × Nat)} {nw : Bool} {y : MethodName} {bs : ByteArray} {ml : Nat} {rt : Option FieldType} {Q : Option Value → Heap → Prop} {kc ks : Nat} {sf : List Addr} {h h' : Heap} {k n : Nat} {g : JFrame} {W : Nat} {z : Int32}
theorem Go.addE {C : String} {a : Addr} (E : Exa Z h a C) (h1 : C ≠ "java/lang/String") (h2 : C ≠ "[B") (G : Go X R Z a0 EL nw y bs ml rt Q kc ks (a :: sf) h k n g) : Go X R Z a0 EL nw y bs ml rt Q kc ks sf h k n g := fun T S => by
  obtain ⟨F, vm0, L, X1, eT, hS, hZ, hown, hC, hF, hE, hs, hN⟩ := S
  exact G T ⟨F, vm0, L, X1, eT, hS, hZ, hown, hC, hF, hE, fun x hx => by
    rcases List.mem_cons.mp hx with rfl | hx
    · exact ⟨E.lt, Safe.exa hZ.alike E h1 h2⟩
    · exact hs x hx, hN⟩
theorem nf_ni {y : MethodName} (q : NI Z y.cls) : NF Z y := fun s hZ r0 h0 => by
  obtain ⟨c, k, q1, q2, q3⟩ := q
  have e := findClass_of_methodNamed h0
  rw [hZ.alike.findClass] at e
  cases q1.symm.trans e
  obtain ⟨k', z2, z3⟩ := hZ.alike.2.2 _ _ q2
  exact ⟨k', z2, by rw [← q3, z3]; rfl⟩
theorem ni_ob (hw : ∀ d ∈ tables_1, d.before a0 Z = true) : NI Z OBN := by have q := NI.sel (wv_Object_Object_getClass_lrLjavalangClass hw); exact q
abbrev yOHC : MethodName := ⟨"java/util/Objects", "hashCode", "(Ljava/lang/Object;)I"⟩
abbrev yOEq : MethodName := ⟨"java/util/Objects", "equals", "(Ljava/lang/Object;Ljava/lang/Object;)Z"⟩
abbrev yOHs : MethodName := ⟨"java/util/Objects", "hash", "([Ljava/lang/Object;)I"⟩
abbrev yAHC : MethodName := ⟨"java/util/Arrays", "hashCode", "([Ljava/lang/Object;)I"⟩
abbrev yILH : MethodName := ⟨"java/util/ImmutableCollections$AbstractImmutableList", "hashCode", "()I"⟩
abbrev yILE : MethodName := ⟨"java/util/ImmutableCollections$AbstractImmutableList", "equals", "(Ljava/lang/Object;)Z"⟩
theorem met_OHC (hw : ∀ d ∈ tables_1, d.before a0 Z = true) (S : Sta Z Z.heap "java/lang/String" "COMPACT_STRINGS" "Z" (.int z)) (hz : ¬ z = 0) {L : List (Addr × List Int32)} (Ws : WS Z h L) {p : Addr × List Int32} (hp : p ∈ L) :
    MetW [] l yOHC jdk_31_method_4_code 1 (some .int) (Rm 5 0 0 120) #[.ref p.1] Z a0 EL nw [] h (fun v h' => v = some (.int (hS p.2)) ∧ He Z h h' L) := by
  refine MetW.of (by first | exact plainFor_of_name (by first | (simp [plainName, overriddenIn]; done) | decide +kernel) | decide +kernel) fun X hX => Go.old fun EZ => ?_
  show Go X _ _ _ _ _ _ _ _ _ _ _ _ _ _ _ _ (mkF X.m 0 #[.val (.ref p.1)] [])
  refine g_aloadN (pc' := 1) dj31_4_0 rfl rfl rfl ?_
  refine g_ifnullN (pc' := 4) dj31_4_1 rfl ?_
  refine g_aloadN (pc' := 5) dj31_4_4 rfl rfl rfl ?_
  refine g_invokevirtualN (pc' := 8) [] [] dj31_4_5 rfl (wl_Objects_24 hw) (wd_Object_hashCode_lrI hw) (wv_String_Object_hashCode_lrI hw) (wm_String_hashCode_lrI hw) (by decide) (nf_ni (ni_ob hw)) ((Ws.1 p hp).2.1.1) (Pay.of_met (met_hash hw S hz Ws hp) (wb_String_hashCode_lrI hw) (wi_String hw) rfl rfl) pd_lrI rfl rfl rfl rfl rfl (fun _ q => nomatch q) fun v5 h5 q5 l5 => ?_
  obtain ⟨rfl, H5⟩ := q5
  refine g_goto (pc' := 12) dj31_4_8 (by decide) rfl ?_
  refine g_ireturn (t := .int) dj31_4_12 rfl (by simp) rfl rfl rfl (⟨rfl, H5⟩)
theorem met_OEq (hw : ∀ d ∈ tables_1, d.before a0 Z = true) (S : Sta Z Z.heap "java/lang/String" "COMPACT_STRINGS" "Z" (.int z)) (hz : ¬ z = 0) (EZ : Ext Z.heap h) {L : List (Addr × List Int32)} (Ws : WS Z h L) {p p' : Addr × List Int32} (hp : p ∈ L) (hp' : p' ∈ L) :
    MetW [] l yOEq jdk_31_method_2_code 2 (some .boolean) (Rm 3 0 0 60) #[.ref p.1, .ref p'.1] Z a0 EL nw [] h (fun v h' => ((v = some (.int 1) ∧ p.2 = p'.2) ∨ v = some (.int 0)) ∧ h' = h) := by
  refine MetW.of (by first | exact plainFor_of_name (by first | (simp [plainName, overriddenIn]; done) | decide +kernel) | decide +kernel) fun X hX => Go.old fun EZ => ?_
  show Go X _ _ _ _ _ _ _ _ _ _ _ _ _ _ _ _ (mkF X.m 0 #[.val (.ref p.1), .val (.ref p'.1)] [])
  refine g_aloadN (pc' := 1) dj31_2_0 rfl rfl rfl ?_
  refine g_aloadN (pc' := 2) dj31_2_1 rfl rfl rfl ?_
  refine g_acmp (pc' := 5) (pc2 := 17) dj31_2_2 rfl (by decide) rfl rfl rfl (fun c2 => ?_) (fun c2 => ?_)
  · refine g_aloadN (pc' := 6) dj31_2_5 rfl rfl rfl ?_
    refine g_ifnullN (pc' := 9) dj31_2_6 rfl ?_
    refine g_aloadN (pc' := 10) dj31_2_9 rfl rfl rfl ?_
    refine g_aloadN (pc' := 11) dj31_2_10 rfl rfl rfl ?_
    refine g_invokevirtualN (pc' := 14) [] [_] dj31_2_11 rfl (wl_Objects_14 hw) (wd_Object_equals_lLjavalangObjectrZ hw) (wv_String_Object_equals_lLjavalangObjectrZ hw) (wm_String_equals_lLjavalangObjectrZ hw) (by decide) (nf_ni (ni_ob hw)) ((Ws.1 p hp).2.1.1) (pay_eq (own_eq hw) (wn_String hw) S hz EZ (Ws.1 p hp).2.1 (Ws.1 p' hp').2.1 rfl rfl) pd_lLjavalangObjectrZ rfl rfl rfl rfl rfl (fun _ q => nomatch q) fun v11 h11 q11 l11 => ?_
    obtain ⟨q11, e11⟩ := q11
    have e11 := e11.symm
    subst e11
    rcases q11 with ⟨rfl, e⟩ | ⟨rfl, -⟩
    · refine g_ifeq (pc' := 17) (pc2 := 21) dj31_2_14 rfl (by decide) rfl (fun c14 => ?_) (fun c14 => False.elim (absurd c14 (by decide)))
      refine g_iconst (pc' := 18) (w := 1) dj31_2_17 rfl (by decide) ?_
      refine g_goto (pc' := 22) dj31_2_18 (by decide) rfl ?_
      refine g_ireturn (t := .boolean) dj31_2_22 rfl (by simp) rfl rfl rfl (⟨Or.inl ⟨rfl, e⟩, rfl⟩)
    · refine g_ifeq (pc' := 17) (pc2 := 21) dj31_2_14 rfl (by decide) rfl (fun c14 => False.elim (c14 rfl)) (fun c14 => ?_)
      refine g_iconst (pc' := 22) (w := 0) dj31_2_21 rfl (by decide) ?_
      refine g_ireturn (t := .boolean) dj31_2_22 rfl (by simp) rfl rfl rfl (⟨Or.inr rfl, rfl⟩)
  · have e : p.1 = p'.1 := by have q := c2; simp [XT.acmp] at q; first | exact q | exact q.symm
    refine g_iconst (pc' := 18) (w := 1) dj31_2_17 rfl (by decide) ?_
    refine g_goto (pc' := 22) dj31_2_18 (by decide) rfl ?_
    refine g_ireturn (t := .boolean) dj31_2_22 rfl (by simp) rfl rfl rfl (⟨Or.inl ⟨rfl, Ws.2 p hp p' hp' e⟩, rfl⟩)
/-! lists -/
def hL (css : List (List Int32)) : Int32 := css.foldl (fun r cs => 31 * r + hS cs) 1
theorem take_at {P : List (Addr × List Int32)} {i : Nat} (hi : i < P.length) : P.take (i + 1) = P.take i ++ [P[i]] := by
  rw [List.take_add_one, List.getElem?_eq_getElem hi]; rfl
theorem hL_step (P : List (Addr × List Int32)) (i : Nat) (hi : i < P.length) : hL ((P.take (i + 1)).map Prod.snd) = 31 * hL ((P.take i).map Prod.snd) + hS P[i].2 := by
  rw [take_at hi, List.map_append, hL, List.foldl_append]
  rfl
theorem ILd.he {L : List (Addr × List Int32)} {a el em : Addr} {xs : List Addr} (B : ILd Z h a el em xs) (Ws : WS Z h L) (H : He Z h h' L) : ILd Z h' a el em xs := by
  have no : Exa Z h a L12N → a ∉ L.map Prod.fst := fun E q => by
    obtain ⟨p, hp, e⟩ := List.mem_map.mp q
    exact E.ne (Ws.1 p hp).2.1.1 (by decide) e.symm
  rcases B with q | ⟨x, q, h1, h2, h3⟩ | ⟨x, y, q, h1, h2, h3⟩
  · exact Or.inl q
  · exact Or.inr (Or.inl ⟨x, q, h1.keep H.1, h2.keep H.1 (no h1), h3.keep H.1 (no h1)⟩)
  · exact Or.inr (Or.inr ⟨x, y, q, h1.keep H.1, h2.keep H.1 (no h1), h3.keep H.1 (no h1)⟩)
theorem He.ext {L : List (Addr × List Int32)} {h0 : Heap} (E : Ext h0 h) (H : He Z h h' L) (hL0 : ∀ p ∈ L, h0.size ≤ p.1) : Ext h0 h' := ext_keep E H.1 fun x hx => by
  obtain ⟨p, hp, rfl⟩ := List.mem_map.mp hx
  exact hL0 p hp
theorem ne_em {L P : List (Addr × List Int32)} {el em : Addr} (I : ICS Z el em) (Ws : WS Z h L) (hP : ∀ p ∈ P, p ∈ L) : ∀ x ∈ P.map Prod.fst, x ≠ em := fun x hx => by
  obtain ⟨p, hp, rfl⟩ := List.mem_map.mp hx
  exact Nat.ne_of_gt (Nat.lt_of_lt_of_le I.2.2.2.1.lt (Ws.1 p (hP p hp)).1)
theorem ILd.l12 {a el em : Addr} {xs : List Addr} (B : ILd Z h a el em xs) (h0 : xs ≠ []) : Exa Z h a L12N := by
  rcases B with ⟨q, -⟩ | ⟨x, -, E, -, -⟩ | ⟨x, x', -, E, -, -⟩
  · exact absurd q h0
  · exact E
  · exact E
theorem ILd.nil {a el em : Addr} {xs : List Addr} (B : ILd Z h a el em xs) (h0 : xs = []) : a = el := by
  rcases B with ⟨-, q⟩ | ⟨x, q, -⟩ | ⟨x, x', q, -⟩
  · exact q
  · rw [h0] at q; cases q
  · rw [h0] at q; cases q
theorem ILd.len {a el em : Addr} {xs : List Addr} (B : ILd Z h a el em xs) : xs.length ≤ 2 := by
  rcases B with ⟨rfl, -⟩ | ⟨x, rfl, -⟩ | ⟨x, x', rfl, -⟩ <;> simp
theorem met_ILH (hw : ∀ d ∈ tables_1, d.before a0 Z = true) (S : Sta Z Z.heap "java/lang/String" "COMPACT_STRINGS" "Z" (.int z)) (hz : ¬ z = 0) {L P : List (Addr × List Int32)} {el em a : Addr} (I : ICS Z el em) (Z0 : Ext Z.heap h) (Ws : WS Z h L) (hP : ∀ p ∈ P, p ∈ L) (B : ILd Z h a el em (P.map Prod.fst)) :
    MetW [] l yILH jdk_46_method_14_code 4 (some .int) (Rm 7 0 0 160) #[.ref a] Z a0 EL nw [] h (fun v h' => v = some (.int (hL (P.map Prod.snd))) ∧ He Z h h' L) := by
  have hx := ne_em I Ws hP
  have h2 : P.length ≤ 2 := by have := B.len; rwa [List.length_map] at this
  refine MetW.of (by first | exact plainFor_of_name (by first | (simp [plainName, overriddenIn]; done) | decide +kernel) | decide +kernel) fun X hX => Go.old fun EZ => ?_
  show Go X _ _ _ _ _ _ _ _ _ _ _ _ _ _ _ _ (mkF X.m 0 #[.val (.ref a), .unset, .unset, .unset] [])
  refine g_iconst (pc' := 1) (w := 1) dj46_14_0 rfl (by decide) ?_
  refine g_istoreN (pc' := 2) (Ls' := #[_, _, _, _]) dj46_14_1 rfl rfl ?_
  refine g_iconst (pc' := 3) (w := 0) dj46_14_2 rfl (by decide) ?_
  refine g_istoreN (pc' := 4) (Ls' := #[_, _, _, _]) dj46_14_3 rfl rfl ?_
  refine g_aloadN (pc' := 5) dj46_14_4 rfl rfl rfl ?_
  have loop : ∀ r i hh acc, P.length - i = r → i ≤ P.length → He Z h hh L → acc = hL ((P.take i).map Prod.snd) →
      Go X (Rm 7 0 0 160) Z a0 EL nw yILH jdk_46_method_14_code 4 (some .int) (fun v h' => v = some (.int (hL (P.map Prod.snd))) ∧ He Z h h' L) (Rm 7 0 0 160).cells (Rm 7 0 0 160).slots [] hh 0 0 (mkF X.m 9 #[.val (.ref a), .val (.int acc), .val (.int (Int32.ofNat i)), .val (.int (Int32.ofNat P.length))] []) := by
    intro r
    induction r with
    | zero =>
      intro i hh acc hr hi H ha
      have ei : i = P.length := by omega
      subst ei
      rw [List.take_length] at ha
      subst ha
      refine g_iloadN (pc' := 10) dj46_14_9 rfl rfl ?_
      refine g_iloadN (pc' := 11) dj46_14_10 rfl rfl ?_
      refine g_icmpge (pc' := 14) (pc2 := 34) dj46_14_11 rfl (by decide) rfl (fun c11 => False.elim (absurd c11 (fun q => absurd ((ofNat_lt (by omega) (by omega)).mp q) (by omega)))) (fun c11 => ?_)
      refine g_iloadN (pc' := 35) dj46_14_34 rfl rfl ?_
      refine g_ireturn (t := .int) dj46_14_35 rfl (by simp) rfl rfl rfl (⟨rfl, H⟩)
    | succ r ih =>
      intro i hh acc hr hi H ha
      have ci : i < P.length := by omega
      have Bh := B.he Ws H
      have La : Exa Z hh a L12N := Bh.l12 (fun q => by have := congrArg List.length q; simp at this; rw [this] at ci; simp at ci)
      have hy : (P.map Prod.fst)[i]? = some P[i].1 := by simp [ci]
      refine g_iloadN (pc' := 10) dj46_14_9 rfl rfl ?_
      refine g_iloadN (pc' := 11) dj46_14_10 rfl rfl ?_
      refine g_icmpge (pc' := 14) (pc2 := 34) dj46_14_11 rfl (by decide) rfl (fun c11 => ?_) (fun c11 => False.elim (c11 ((ofNat_lt (by omega) (by omega)).mpr ci)))
      refine g_bipush (pc' := 16) (w := 31) dj46_14_14 rfl (by decide) ?_
      refine g_iloadN (pc' := 17) dj46_14_16 rfl rfl ?_
      refine g_imul (pc' := 18) dj46_14_17 rfl ?_
      refine g_aloadN (pc' := 19) dj46_14_18 rfl rfl rfl ?_
      refine g_iloadN (pc' := 20) dj46_14_19 rfl rfl ?_
      refine g_virtualUp (pc' := 23) (C := L12N) (owner := "java/util/List") [] [_] dj46_14_20 rfl (wl_ImmutableCollectionsSAbstractImmutableList_89 hw) (wr_ImmutableCollectionsSAbstractImmutableList_List_get hw) (wd_List_get_lIrLjavalangObject hw) (by decide) (wv_ImmutableCollectionsSList12_ImmutableCollectionsSAbstractImmutableList_get_lIrLjavalangObject hw) (wm_ImmutableCollectionsSList12_get_lIrLjavalangObject hw) La (Pay.of_met (met_L2G hw I Bh hy hx) (wb_ImmutableCollectionsSList12_get_lIrLjavalangObject hw) (wi_ImmutableCollectionsSList12 hw) rfl rfl) pd_lIrLjavalangObject rfl rfl rfl rfl rfl (fun _ q => nomatch q) fun v20 h20 q20 l20 => ?_
      obtain ⟨rfl, e20⟩ := q20
      have e20 := e20.symm
      subst e20
      refine g_invokestatic (pc' := 26) [] [_] dj46_14_23 rfl (wl_ImmutableCollectionsSAbstractImmutableList_103 hw) (ws_Objects_hashCode_lLjavalangObjectrI hw) (wi_Objects hw) (wb_Objects_hashCode_lLjavalangObjectrI hw) (by decide) (Pay.of_met (met_OHC hw S hz H.2 (hP P[i] (List.getElem_mem ci))) (wb_Objects_hashCode_lLjavalangObjectrI hw) (wi_Objects hw) rfl rfl) pd_lLjavalangObjectrI rfl rfl rfl rfl rfl (fun _ q => nomatch q) fun v23 h23 q23 l23 => ?_
      obtain ⟨rfl, H23⟩ := q23
      refine g_iadd (pc' := 27) dj46_14_26 rfl ?_
      refine g_istoreN (pc' := 28) (Ls' := #[_, _, _, _]) dj46_14_27 rfl rfl ?_
      refine g_iinc (pc' := 31) (Ls' := #[.val (.ref a), .val (.int (31 * acc + hS P[i].2)), .val (.int (Int32.ofNat (i + 1))), .val (.int (Int32.ofNat P.length))]) dj46_14_28 rfl rfl (by rw [ofNat_succ]; rfl) ?_
      refine g_goto (pc' := 9) dj46_14_31 (by decide) rfl ?_
      exact Go.mono 0 0 rfl rfl (ih (i + 1) h23 _ (by omega) (by omega) (H.trans H23) (by rw [hL_step P i ci, ha]))
  by_cases h0 : P = []
  · subst h0
    obtain rfl := B.nil rfl
    refine g_virtualUp (pc' := 8) (C := LNN) (owner := "java/util/AbstractCollection") [] [] dj46_14_5 rfl (wl_ImmutableCollectionsSAbstractImmutableList_13 hw) (wr_ImmutableCollectionsSAbstractImmutableList_AbstractCollection_size hw) (wd_AbstractCollection_size_lrI hw) (by decide) (wv_ImmutableCollectionsSListN_ImmutableCollectionsSAbstractImmutableList_size_lrI hw) (wm_ImmutableCollectionsSListN_size_lrI hw) (I.2.2.1.ext Z0) (Pay.of_met (met_LnS hw I) (wb_ImmutableCollectionsSListN_size_lrI hw) (wi_ImmutableCollectionsSListN hw) rfl rfl) pd_lrI rfl rfl rfl rfl rfl (fun _ q => nomatch q) fun v5 h5 q5 l5 => ?_
    obtain ⟨rfl, e5⟩ := q5
    have e5 := e5.symm
    subst e5
    refine g_istoreN (pc' := 9) (Ls' := #[_, _, _, _]) dj46_14_8 rfl rfl ?_
    exact Go.mono 0 0 rfl rfl (loop _ 0 h 1 rfl (Nat.zero_le _) (He.refl Ws) rfl)
  · have hn0 : P.map Prod.fst ≠ [] := fun q => h0 (List.map_eq_nil_iff.mp q)
    refine g_virtualUp (pc' := 8) (C := L12N) (owner := "java/util/AbstractCollection") [] [] dj46_14_5 rfl (wl_ImmutableCollectionsSAbstractImmutableList_13 hw) (wr_ImmutableCollectionsSAbstractImmutableList_AbstractCollection_size hw) (wd_AbstractCollection_size_lrI hw) (by decide) (wv_ImmutableCollectionsSList12_ImmutableCollectionsSAbstractImmutableList_size_lrI hw) (wm_ImmutableCollectionsSList12_size_lrI hw) (B.l12 hn0) (Pay.of_met (met_L2S hw I B hn0 hx) (wb_ImmutableCollectionsSList12_size_lrI hw) (wi_ImmutableCollectionsSList12 hw) rfl rfl) pd_lrI rfl rfl rfl rfl rfl (fun _ q => nomatch q) fun v5 h5 q5 l5 => ?_
    obtain ⟨rfl, e5⟩ := q5
    have e5 := e5.symm
    subst e5
    rw [List.length_map]
    refine g_istoreN (pc' := 9) (Ls' := #[_, _, _, _]) dj46_14_8 rfl rfl ?_
    exact Go.mono 0 0 rfl rfl (loop _ 0 h 1 rfl (Nat.zero_le _) (He.refl Ws) rfl)
/-- one list, read twice -/
theorem il_same {L P P' : List (Addr × List Int32)} {el em a : Addr} (I : ICS Z el em) (Z0 : Ext Z.heap h) (Ws : WS Z h L) (hP : ∀ p ∈ P, p ∈ L) (hP' : ∀ p ∈ P', p ∈ L) (B : ILd Z h a el em (P.map Prod.fst)) (B' : ILd Z h a el em (P'.map Prod.fst)) : P.map Prod.snd = P'.map Prod.snd := by
  have hx := ne_em I Ws hP
  have hx' := ne_em I Ws hP'
  have fu : ∀ {nm : String} {u v : Addr}, Fld Z h a L12N nm OBD (.ref u) → Fld Z h a L12N nm OBD (.ref v) → u = v := fun F G => Decidable.byContradiction fun q => F.ne G (fun e => q (Value.ref.inj e)) rfl
  have key : P.map Prod.fst = P'.map Prod.fst := by
    have nl : Exa Z h el LNN := I.2.2.1.ext Z0
    rcases B with ⟨q, e⟩ | ⟨x, q, E, F0, F1⟩ | ⟨x, y, q, E, F0, F1⟩ <;> rcases B' with ⟨q', e'⟩ | ⟨x', q', E', F0', F1'⟩ | ⟨x', y', q', E', F0', F1'⟩
    · rw [q, q']
    · exact absurd e (E'.ne nl (by decide))
    · exact absurd e (E'.ne nl (by decide))
    · exact absurd e' (E.ne nl (by decide))
    · rw [q, q', fu F0 F0']
    · exact absurd (fu F1' F1) (hx' y' (by rw [q']; simp))
    · exact absurd e' (E.ne nl (by decide))
    · exact absurd (fu F1 F1') (hx y (by rw [q]; simp))
    · rw [q, q', fu F0 F0', fu F1 F1']
  have hlen : P.length = P'.length := by have := congrArg List.length key; simpa using this
  refine List.ext_getElem (by simpa using hlen) fun i h1 h2 => ?_
  rw [List.length_map] at h1 h2
  rw [List.getElem_map, List.getElem_map]
  refine Ws.2 _ (hP _ (List.getElem_mem h1)) _ (hP' _ (List.getElem_mem h2)) ?_
  have : (P.map Prod.fst)[i]? = (P'.map Prod.fst)[i]? := by rw [key]
  simpa [h1, h2] using this
theorem met_ILE (hw : ∀ d ∈ tables_1, d.before a0 Z = true) (S : Sta Z Z.heap "java/lang/String" "COMPACT_STRINGS" "Z" (.int z)) (hz : ¬ z = 0) {L P P' : List (Addr × List Int32)} {el em a a' : Addr} (I : ICS Z el em) (Z0 : Ext Z.heap h) (Ws : WS Z h L) (hP : ∀ p ∈ P, p ∈ L) (hP' : ∀ p ∈ P', p ∈ L) (B : ILd Z h a el em (P.map Prod.fst)) (B' : ILd Z h a' el em (P'.map Prod.fst)) :
    MetW [] l yILE jdk_46_method_13_code 5 (some .boolean) (Rm 5 1 8 120) #[.ref a, .ref a'] Z a0 EL nw [] h (fun v h' => ((v = some (.int 1) ∧ P.map Prod.snd = P'.map Prod.snd) ∨ v = some (.int 0)) ∧ Ext h h') := by
  have hx := ne_em I Ws hP
  have hx' := ne_em I Ws hP'
  have h2 : P.length ≤ 2 := by have := B.len; rwa [List.length_map] at this
  have h2' : P'.length ≤ 2 := by have := B'.len; rwa [List.length_map] at this
  have I' : Ins Z h a' "java/util/List" true := by
    by_cases q : P'.map Prod.fst = []
    · rw [B'.nil q]; exact Ins.of_exa (I.2.2.1.ext Z0) (wx_ImmutableCollectionsSListN_List hw)
    · exact Ins.of_exa (B'.l12 q) (wx_ImmutableCollectionsSList12_List hw)
  refine MetW.of (by first | exact plainFor_of_name (by first | (simp [plainName, overriddenIn]; done) | decide +kernel) | decide +kernel) fun X hX => Go.old fun EZ => ?_
  show Go X _ _ _ _ _ _ _ _ _ _ _ _ _ _ _ _ (mkF X.m 0 #[.val (.ref a), .val (.ref a'), .unset, .unset, .unset] [])
  refine g_aloadN (pc' := 1) dj46_13_0 rfl rfl rfl ?_
  refine g_aloadN (pc' := 2) dj46_13_1 rfl rfl rfl ?_
  refine g_acmp (pc' := 5) (pc2 := 7) dj46_13_2 rfl (by decide) rfl rfl rfl (fun c2 => ?_) (fun c2 => ?_)
  · have e : a = a' := by have q := c2; simp [XT.acmp] at q; first | exact q | exact q.symm
    subst e
    refine g_iconst (pc' := 6) (w := 1) dj46_13_5 rfl (by decide) ?_
    refine g_ireturn (t := .boolean) dj46_13_6 rfl (by simp) rfl rfl rfl (⟨Or.inl ⟨rfl, il_same I Z0 Ws hP hP' B B'⟩, ext_refl _⟩)
  · refine g_aloadN (pc' := 8) dj46_13_7 rfl rfl rfl ?_
    refine g_instanceofY (pc' := 11) dj46_13_8 rfl (wc_ImmutableCollectionsSAbstractImmutableList_77 hw) (I') ?_
    refine g_ifne (pc' := 14) (pc2 := 16) dj46_13_11 rfl (by decide) rfl (fun c11 => False.elim (absurd c11 (by decide))) (fun c11 => ?_)
    refine g_aloadN (pc' := 17) dj46_13_16 rfl rfl rfl ?_
    refine g_checkcast (pc' := 20) dj46_13_17 rfl (wc_ImmutableCollectionsSAbstractImmutableList_77 hw) (I') ?_
    have fin : ∀ h1 it, h.size ≤ it → Ext h h1 → ItD Z h1 it a' P'.length 0 → Go X (Rm 5 1 8 120) Z a0 EL nw yILE jdk_46_method_13_code 5 (some .boolean) (fun v h' => ((v = some (.int 1) ∧ P.map Prod.snd = P'.map Prod.snd) ∨ v = some (.int 0)) ∧ Ext h h') (Rm 5 1 8 120).cells (Rm 5 1 8 120).slots [] h1 1 8 (mkF X.m 25 #[.val (.ref a), .val (.ref a'), .unset, .unset, .unset] [.ref it]) := by
      intro h1 it hit E1 D1
      have zi : Z.heap.size ≤ it := Nat.le_trans Z0.1 hit
      have loop : ∀ r i hh, P.length - i = r → i ≤ P.length → i ≤ P'.length → Ext h hh → ItD Z hh it a' P'.length i → (P.take i).map Prod.snd = (P'.take i).map Prod.snd →
          Go X (Rm 5 1 8 120) Z a0 EL nw yILE jdk_46_method_13_code 5 (some .boolean) (fun v h' => ((v = some (.int 1) ∧ P.map Prod.snd = P'.map Prod.snd) ∨ v = some (.int 0)) ∧ Ext h h') (Rm 5 1 8 120).cells (Rm 5 1 8 120).slots [it] hh 1 8 (mkF X.m 34 #[.val (.ref a), .val (.ref a'), .val (.ref it), .val (.int (Int32.ofNat i)), .val (.int (Int32.ofNat P.length))] []) := by
        intro r
        induction r with
        | zero =>
          intro i hh hr hi hi' E D ht
          have ei : i = P.length := by omega
          subst ei
          refine g_iloadN (pc' := 35) dj46_13_34 rfl rfl ?_
          refine g_iload (pc' := 37) dj46_13_35 rfl rfl ?_
          refine g_icmpge (pc' := 40) (pc2 := 74) dj46_13_37 rfl (by decide) rfl (fun c37 => False.elim (absurd c37 (fun q => absurd ((ofNat_lt (by omega) (by omega)).mp q) (by omega)))) (fun c37 => ?_)
          refine g_aloadN (pc' := 75) dj46_13_74 rfl rfl rfl ?_
          refine g_invokeinterface (pc' := 80) [] [] dj46_13_75 rfl (wl_ImmutableCollectionsSAbstractImmutableList_83 hw) (wd_Iterator_hasNext_lrZ hw) (wv_ImmutableCollectionsSListItr_Iterator_hasNext_lrZ hw) (wm_ImmutableCollectionsSListItr_hasNext_lrZ hw) (wg_Iterator_hasNext_lrZ hw) rfl (wp_ImmutableCollectionsSListItr_hasNext_lrZ hw) (wu_ImmutableCollectionsSListItr_hasNext_lrZ hw) (wx_ImmutableCollectionsSListItr_Iterator hw) (by decide) (D.1) (Pay.of_met (met_ItH hw D (by omega) (by omega)) (wb_ImmutableCollectionsSListItr_hasNext_lrZ hw) (wi_ImmutableCollectionsSListItr hw) rfl rfl) pd_lrZ rfl rfl rfl rfl rfl (fun _ q => nomatch q) fun v75 h75 q75 l75 => ?_
          obtain ⟨rfl, e75⟩ := q75
          have e75 := e75.symm
          subst e75
          by_cases c : P.length = P'.length
          · rw [if_pos c]
            refine g_ifne (pc' := 83) (pc2 := 87) dj46_13_80 rfl (by decide) rfl (fun c80 => ?_) (fun c80 => False.elim (c80 rfl))
            refine g_iconst (pc' := 84) (w := 1) dj46_13_83 rfl (by decide) ?_
            refine g_goto (pc' := 88) dj46_13_84 (by decide) rfl ?_
            rw [List.take_length] at ht
            refine g_ireturn (t := .boolean) dj46_13_88 rfl (by simp) rfl rfl rfl (⟨Or.inl ⟨rfl, by rw [ht, c, List.take_length]⟩, E⟩)
          · rw [if_neg c]
            refine g_ifne (pc' := 83) (pc2 := 87) dj46_13_80 rfl (by decide) rfl (fun c80 => False.elim (absurd c80 (by decide))) (fun c80 => ?_)
            refine g_iconst (pc' := 88) (w := 0) dj46_13_87 rfl (by decide) ?_
            refine g_ireturn (t := .boolean) dj46_13_88 rfl (by simp) rfl rfl rfl (⟨Or.inr rfl, E⟩)
        | succ r ih =>
          intro i hh hr hi hi' E D ht
          have ci : i < P.length := by omega
          refine g_iloadN (pc' := 35) dj46_13_34 rfl rfl ?_
          refine g_iload (pc' := 37) dj46_13_35 rfl rfl ?_
          refine g_icmpge (pc' := 40) (pc2 := 74) dj46_13_37 rfl (by decide) rfl (fun c37 => ?_) (fun c37 => False.elim (c37 ((ofNat_lt (by omega) (by omega)).mpr ci)))
          refine g_aloadN (pc' := 41) dj46_13_40 rfl rfl rfl ?_
          refine g_invokeinterface (pc' := 46) [] [] dj46_13_41 rfl (wl_ImmutableCollectionsSAbstractImmutableList_83 hw) (wd_Iterator_hasNext_lrZ hw) (wv_ImmutableCollectionsSListItr_Iterator_hasNext_lrZ hw) (wm_ImmutableCollectionsSListItr_hasNext_lrZ hw) (wg_Iterator_hasNext_lrZ hw) rfl (wp_ImmutableCollectionsSListItr_hasNext_lrZ hw) (wu_ImmutableCollectionsSListItr_hasNext_lrZ hw) (wx_ImmutableCollectionsSListItr_Iterator hw) (by decide) (D.1) (Pay.of_met (met_ItH hw D (by omega) (by omega)) (wb_ImmutableCollectionsSListItr_hasNext_lrZ hw) (wi_ImmutableCollectionsSListItr hw) rfl rfl) pd_lrZ rfl rfl rfl rfl rfl (fun _ q => nomatch q) fun v41 h41 q41 l41 => ?_
          obtain ⟨rfl, e41⟩ := q41
          have e41 := e41.symm
          subst e41
          by_cases c : i = P'.length
          · rw [if_pos c]
            refine g_ifeq (pc' := 49) (pc2 := 66) dj46_13_46 rfl (by decide) rfl (fun c46 => False.elim (c46 rfl)) (fun c46 => ?_)
            refine g_iconst (pc' := 67) (w := 0) dj46_13_66 rfl (by decide) ?_
            refine g_ireturn (t := .boolean) dj46_13_67 rfl (by simp) rfl rfl rfl (⟨Or.inr rfl, E⟩)
          · have ci' : i < P'.length := by omega
            have Bh := B.ext E
            have Bh' := B'.ext E
            have La : Exa Z hh a L12N := Bh.l12 (fun q => by have := congrArg List.length q; simp at this; rw [this] at ci; simp at ci)
            have hy : (P.map Prod.fst)[i]? = some P[i].1 := by simp [ci]
            have hy' : (P'.map Prod.fst)[i]? = some P'[i].1 := by simp [ci']
            rw [if_neg c]
            refine g_ifeq (pc' := 49) (pc2 := 66) dj46_13_46 rfl (by decide) rfl (fun c46 => ?_) (fun c46 => False.elim (absurd c46 (by decide)))
            refine g_aloadN (pc' := 50) dj46_13_49 rfl rfl rfl ?_
            refine g_iloadN (pc' := 51) dj46_13_50 rfl rfl ?_
            refine g_virtualUp (pc' := 54) (C := L12N) (owner := "java/util/List") [] [_] dj46_13_51 rfl (wl_ImmutableCollectionsSAbstractImmutableList_89 hw) (wr_ImmutableCollectionsSAbstractImmutableList_List_get hw) (wd_List_get_lIrLjavalangObject hw) (by decide) (wv_ImmutableCollectionsSList12_ImmutableCollectionsSAbstractImmutableList_get_lIrLjavalangObject hw) (wm_ImmutableCollectionsSList12_get_lIrLjavalangObject hw) La (Pay.of_met (met_L2G hw I Bh hy hx) (wb_ImmutableCollectionsSList12_get_lIrLjavalangObject hw) (wi_ImmutableCollectionsSList12 hw) rfl rfl) pd_lIrLjavalangObject rfl rfl rfl rfl rfl (fun _ q => nomatch q) fun v51 h51 q51 l51 => ?_
            obtain ⟨rfl, e51⟩ := q51
            have e51 := e51.symm
            subst e51
            refine g_aloadN (pc' := 55) dj46_13_54 rfl rfl rfl ?_
            refine g_invokeinterface (pc' := 60) [it] [] dj46_13_55 rfl (wl_ImmutableCollectionsSAbstractImmutableList_93 hw) (wd_Iterator_next_lrLjavalangObject hw) (wv_ImmutableCollectionsSListItr_Iterator_next_lrLjavalangObject hw) (wm_ImmutableCollectionsSListItr_next_lrLjavalangObject hw) (wg_Iterator_next_lrLjavalangObject hw) rfl (wp_ImmutableCollectionsSListItr_next_lrLjavalangObject hw) (wu_ImmutableCollectionsSListItr_next_lrLjavalangObject hw) (wx_ImmutableCollectionsSListItr_Iterator hw) (by decide) (D.1) (pay_next hw I (ext_trans Z0 E) zi (List.mem_cons_self ..) D Bh' hy' hx' rfl rfl) pd_lrLjavalangObject rfl rfl rfl rfl rfl (fun _ q => q) fun v55 h55 q55 l55 => ?_
            obtain ⟨rfl, K55, D55⟩ := q55
            have E55 : Ext h h55 := ext_keep E K55 (allS hit all0)
            refine g_invokestatic (pc' := 63) [] [_, _] dj46_13_60 rfl (wl_ImmutableCollectionsSAbstractImmutableList_97 hw) (ws_Objects_equals_lLjavalangObjectLjavalangObjectrZ hw) (wi_Objects hw) (wb_Objects_equals_lLjavalangObjectLjavalangObjectrZ hw) (by decide) (Pay.of_met (met_OEq hw S hz (ext_trans Z0 E55) (Ws.ext E55) (hP P[i] (List.getElem_mem ci)) (hP' P'[i] (List.getElem_mem ci'))) (wb_Objects_equals_lLjavalangObjectLjavalangObjectrZ hw) (wi_Objects hw) rfl rfl) pd_lLjavalangObjectLjavalangObjectrZ rfl rfl rfl rfl rfl (fun _ q => nomatch q) fun v60 h60 q60 l60 => ?_
            obtain ⟨q60, e60⟩ := q60
            have e60 := e60.symm
            subst e60
            rcases q60 with ⟨rfl, ee⟩ | rfl
            · refine g_ifne (pc' := 66) (pc2 := 68) dj46_13_63 rfl (by decide) rfl (fun c63 => False.elim (absurd c63 (by decide))) (fun c63 => ?_)
              refine g_iinc (pc' := 71) (Ls' := #[.val (.ref a), .val (.ref a'), .val (.ref it), .val (.int (Int32.ofNat (i + 1))), .val (.int (Int32.ofNat P.length))]) dj46_13_68 rfl rfl (by rw [ofNat_succ]; rfl) ?_
              refine g_goto (pc' := 34) dj46_13_71 (by decide) rfl ?_
              exact Go.mono 1 8 rfl rfl (ih (i + 1) h55 (by omega) (by omega) (by omega) E55 D55 (by rw [take_at ci, take_at ci', List.map_append, List.map_append, ht]; show _ ++ [P[i].2] = _ ++ [P'[i].2]; rw [ee]))
            · refine g_ifne (pc' := 66) (pc2 := 68) dj46_13_63 rfl (by decide) rfl (fun c63 => ?_) (fun c63 => False.elim (c63 rfl))
              refine g_iconst (pc' := 67) (w := 0) dj46_13_66 rfl (by decide) ?_
              refine g_ireturn (t := .boolean) dj46_13_67 rfl (by simp) rfl rfl rfl (⟨Or.inr rfl, E55⟩)
      refine Go.addE D1.1 (by decide) (by decide) ?_
      refine g_astoreN (pc' := 26) (Ls' := #[_, _, _, _, _]) dj46_13_25 rfl rfl rfl ?_
      refine g_iconst (pc' := 27) (w := 0) dj46_13_26 rfl (by decide) ?_
      refine g_istoreN (pc' := 28) (Ls' := #[_, _, _, _, _]) dj46_13_27 rfl rfl ?_
      refine g_aloadN (pc' := 29) dj46_13_28 rfl rfl rfl ?_
      by_cases h0 : P = []
      · subst h0
        obtain rfl := B.nil rfl
        refine g_virtualUp (pc' := 32) (C := LNN) (owner := "java/util/AbstractCollection") [] [] dj46_13_29 rfl (wl_ImmutableCollectionsSAbstractImmutableList_13 hw) (wr_ImmutableCollectionsSAbstractImmutableList_AbstractCollection_size hw) (wd_AbstractCollection_size_lrI hw) (by decide) (wv_ImmutableCollectionsSListN_ImmutableCollectionsSAbstractImmutableList_size_lrI hw) (wm_ImmutableCollectionsSListN_size_lrI hw) (I.2.2.1.ext (ext_trans Z0 E1)) (Pay.of_met (met_LnS hw I) (wb_ImmutableCollectionsSListN_size_lrI hw) (wi_ImmutableCollectionsSListN hw) rfl rfl) pd_lrI rfl rfl rfl rfl rfl (fun _ q => nomatch q) fun v29 h29 q29 l29 => ?_
        obtain ⟨rfl, e29⟩ := q29
        have e29 := e29.symm
        subst e29
        refine g_istore (pc' := 34) (Ls' := #[_, _, _, _, _]) dj46_13_32 rfl rfl ?_
        exact Go.mono 1 8 rfl rfl (loop _ 0 h1 rfl (Nat.zero_le _) (Nat.zero_le _) E1 D1 rfl)
      · have hn0 : P.map Prod.fst ≠ [] := fun q => h0 (List.map_eq_nil_iff.mp q)
        refine g_virtualUp (pc' := 32) (C := L12N) (owner := "java/util/AbstractCollection") [] [] dj46_13_29 rfl (wl_ImmutableCollectionsSAbstractImmutableList_13 hw) (wr_ImmutableCollectionsSAbstractImmutableList_AbstractCollection_size hw) (wd_AbstractCollection_size_lrI hw) (by decide) (wv_ImmutableCollectionsSList12_ImmutableCollectionsSAbstractImmutableList_size_lrI hw) (wm_ImmutableCollectionsSList12_size_lrI hw) ((B.ext E1).l12 hn0) (Pay.of_met (met_L2S hw I (B.ext E1) hn0 hx) (wb_ImmutableCollectionsSList12_size_lrI hw) (wi_ImmutableCollectionsSList12 hw) rfl rfl) pd_lrI rfl rfl rfl rfl rfl (fun _ q => nomatch q) fun v29 h29 q29 l29 => ?_
        obtain ⟨rfl, e29⟩ := q29
        have e29 := e29.symm
        subst e29
        rw [List.length_map]
        refine g_istore (pc' := 34) (Ls' := #[_, _, _, _, _]) dj46_13_32 rfl rfl ?_
        exact Go.mono 1 8 rfl rfl (loop _ 0 h1 rfl (Nat.zero_le _) (Nat.zero_le _) E1 D1 rfl)
    by_cases h0 : P' = []
    · subst h0
      obtain rfl := B'.nil rfl
      refine g_invokeinterface (pc' := 25) [] [] dj46_13_20 rfl (wl_ImmutableCollectionsSAbstractImmutableList_79 hw) (wd_List_iterator_lrLjavautilIterator hw) (wv_ImmutableCollectionsSListN_List_iterator_lrLjavautilIterator hw) (wm_ImmutableCollectionsSAbstractImmutableList_iterator_lrLjavautilIterator hw) (wg_List_iterator_lrLjavautilIterator hw) rfl (wp_ImmutableCollectionsSAbstractImmutableList_iterator_lrLjavautilIterator hw) (wu_ImmutableCollectionsSListN_iterator_lrLjavautilIterator hw) (wx_ImmutableCollectionsSListN_List hw) (by decide) (I.2.2.1.ext Z0) (Pay.of_met (met_iter hw I Z0 B' hx') (wb_ImmutableCollectionsSAbstractImmutableList_iterator_lrLjavautilIterator hw) (wi_ImmutableCollectionsSAbstractImmutableList hw) rfl rfl) pd_lrLjavautilIterator rfl rfl rfl rfl rfl (fun _ q => nomatch q) fun v20 h20 q20 l20 => ?_
      obtain ⟨it, rfl, t1, t2, E20, D20⟩ := q20
      exact Go.mono 1 8 rfl rfl (fin h20 it t1 E20 D20)
    · have hn0 : P'.map Prod.fst ≠ [] := fun q => h0 (List.map_eq_nil_iff.mp q)
      refine g_invokeinterface (pc' := 25) [] [] dj46_13_20 rfl (wl_ImmutableCollectionsSAbstractImmutableList_79 hw) (wd_List_iterator_lrLjavautilIterator hw) (wv_ImmutableCollectionsSList12_List_iterator_lrLjavautilIterator hw) (wm_ImmutableCollectionsSAbstractImmutableList_iterator_lrLjavautilIterator hw) (wg_List_iterator_lrLjavautilIterator hw) rfl (wp_ImmutableCollectionsSAbstractImmutableList_iterator_lrLjavautilIterator hw) (wu_ImmutableCollectionsSList12_iterator_lrLjavautilIterator hw) (wx_ImmutableCollectionsSList12_List hw) (by decide) (B'.l12 hn0) (Pay.of_met (met_iter hw I Z0 B' hx') (wb_ImmutableCollectionsSAbstractImmutableList_iterator_lrLjavautilIterator hw) (wi_ImmutableCollectionsSAbstractImmutableList hw) rfl rfl) pd_lrLjavautilIterator rfl rfl rfl rfl rfl (fun _ q => nomatch q) fun v20 h20 q20 l20 => ?_
      obtain ⟨it, rfl, t1, t2, E20, D20⟩ := q20
      rw [List.length_map] at D20
      exact Go.mono 1 8 rfl rfl (fin h20 it t1 E20 D20)
/-! Objects.hash of a String and a list -/
theorem met_AHC (hw : ∀ d ∈ tables_1, d.before a0 Z = true) (S : Sta Z Z.heap "java/lang/String" "COMPACT_STRINGS" "Z" (.int z)) (hz : ¬ z = 0) {L P : List (Addr × List Int32)} {p : Addr × List Int32} {el em a t : Addr} {kA : ClassId} (I : ICS Z el em) (Z0 : Ext Z.heap h) (Ws : WS Z h L) (hp : p ∈ L) (hP : ∀ p ∈ P, p ∈ L) (B : ILd Z h a el em (P.map Prod.fst)) (A : Arv Z h t kA (.object OBN) 2 [.ref p.1, .ref a] .null) :
    MetW [] l yAHC jdk_65_method_157_code 6 (some .int) (Rm 8 0 0 190) #[.ref t] Z a0 EL nw [] h (fun v h' => v = some (.int (31 * (31 * 1 + hS p.2) + hL (P.map Prod.snd))) ∧ He Z h h' L) := by
  have nt : t ∉ L.map Prod.fst := fun q => by
    obtain ⟨p', hp', e⟩ := List.mem_map.mp q
    exact (Ws.1 p' hp').2.1.1.neArv A (wn_String hw) e
  refine MetW.of (by first | exact plainFor_of_name (by first | (simp [plainName, overriddenIn]; done) | decide +kernel) | decide +kernel) fun X hX => Go.old fun EZ => ?_
  show Go X _ _ _ _ _ _ _ _ _ _ _ _ _ _ _ _ (mkF X.m 0 #[.val (.ref t), .unset, .unset, .unset, .unset, .unset] [])
  refine g_aloadN (pc' := 1) dj65_157_0 rfl rfl rfl ?_
  refine g_ifnonnullY (pc2 := 6) dj65_157_1 (by decide) rfl ?_
  refine g_iconst (pc' := 7) (w := 1) dj65_157_6 rfl (by decide) ?_
  refine g_istoreN (pc' := 8) (Ls' := #[_, _, _, _, _, _]) dj65_157_7 rfl rfl ?_
  refine g_aloadN (pc' := 9) dj65_157_8 rfl rfl rfl ?_
  refine g_astoreN (pc' := 10) (Ls' := #[_, _, _, _, _, _]) dj65_157_9 rfl rfl rfl ?_
  refine g_aloadN (pc' := 11) dj65_157_10 rfl rfl rfl ?_
  refine g_arraylength (pc' := 12) dj65_157_11 rfl (A) ?_
  refine g_istoreN (pc' := 13) (Ls' := #[_, _, _, _, _, _]) dj65_157_12 rfl rfl ?_
  refine g_iconst (pc' := 14) (w := 0) dj65_157_13 rfl (by decide) ?_
  refine g_istore (pc' := 16) (Ls' := #[_, _, _, _, _, _]) dj65_157_14 rfl rfl ?_
  refine g_iload (pc' := 18) dj65_157_16 rfl rfl ?_
  refine g_iloadN (pc' := 19) dj65_157_18 rfl rfl ?_
  refine g_icmpge (pc' := 22) (pc2 := 54) dj65_157_19 rfl (by decide) rfl (fun c19 => ?_) (fun c19 => False.elim (c19 (by decide)))
  refine g_aloadN (pc' := 23) dj65_157_22 rfl rfl rfl ?_
  refine g_iload (pc' := 25) dj65_157_23 rfl rfl ?_
  refine g_aaload (pc' := 26) (v := .ref p.1) dj65_157_25 rfl (A) rfl (by decide) rfl ?_
  refine g_astore (pc' := 28) (Ls' := #[_, _, _, _, _, _]) dj65_157_26 rfl rfl rfl ?_
  refine g_bipush (pc' := 30) (w := 31) dj65_157_28 rfl (by decide) ?_
  refine g_iloadN (pc' := 31) dj65_157_30 rfl rfl ?_
  refine g_imul (pc' := 32) dj65_157_31 rfl ?_
  refine g_aload (pc' := 34) dj65_157_32 rfl rfl rfl ?_
  refine g_ifnonnullY (pc2 := 41) dj65_157_34 (by decide) rfl ?_
  refine g_aload (pc' := 43) dj65_157_41 rfl rfl rfl ?_
  refine g_invokevirtualN (pc' := 46) [] [] dj65_157_43 rfl (wl_Arrays_383 hw) (wd_Object_hashCode_lrI hw) (wv_String_Object_hashCode_lrI hw) (wm_String_hashCode_lrI hw) (by decide) (nf_ni (ni_ob hw)) ((Ws.1 p hp).2.1.1) (Pay.of_met (met_hash hw S hz Ws hp) (wb_String_hashCode_lrI hw) (wi_String hw) rfl rfl) pd_lrI rfl rfl rfl rfl rfl (fun _ q => nomatch q) fun v43 h43 q43 l43 => ?_
  obtain ⟨rfl, H43⟩ := q43
  have A43 := A.keep H43.1 nt
  have B43 := B.he Ws H43
  have Z43 : Ext Z.heap h43 := H43.ext Z0 (fun p' hp' => (Ws.1 p' hp').1)
  refine g_iadd (pc' := 47) dj65_157_46 rfl ?_
  refine g_istoreN (pc' := 48) (Ls' := #[_, _, _, _, _, _]) dj65_157_47 rfl rfl ?_
  refine g_iinc (pc' := 51) (Ls' := #[.val (.ref t), .val (.int (31 * 1 + hS p.2)), .val (.ref t), .val (.int 2), .val (.int 1), .val (.ref p.1)]) dj65_157_48 rfl rfl rfl ?_
  refine g_goto (pc' := 16) dj65_157_51 (by decide) rfl ?_
  refine g_iload (pc' := 18) dj65_157_16 rfl rfl ?_
  refine g_iloadN (pc' := 19) dj65_157_18 rfl rfl ?_
  refine g_icmpge (pc' := 22) (pc2 := 54) dj65_157_19 rfl (by decide) rfl (fun c19 => ?_) (fun c19 => False.elim (c19 (by decide)))
  refine g_aloadN (pc' := 23) dj65_157_22 rfl rfl rfl ?_
  refine g_iload (pc' := 25) dj65_157_23 rfl rfl ?_
  refine g_aaload (pc' := 26) (v := .ref a) dj65_157_25 rfl (A43) rfl (by decide) rfl ?_
  refine g_astore (pc' := 28) (Ls' := #[_, _, _, _, _, _]) dj65_157_26 rfl rfl rfl ?_
  refine g_bipush (pc' := 30) (w := 31) dj65_157_28 rfl (by decide) ?_
  refine g_iloadN (pc' := 31) dj65_157_30 rfl rfl ?_
  refine g_imul (pc' := 32) dj65_157_31 rfl ?_
  refine g_aload (pc' := 34) dj65_157_32 rfl rfl rfl ?_
  refine g_ifnonnullY (pc2 := 41) dj65_157_34 (by decide) rfl ?_
  refine g_aload (pc' := 43) dj65_157_41 rfl rfl rfl ?_
  have fin : ∀ h1, He Z h h1 L → Go X (Rm 8 0 0 190) Z a0 EL nw yAHC jdk_65_method_157_code 6 (some .int) (fun v h' => v = some (.int (31 * (31 * 1 + hS p.2) + hL (P.map Prod.snd))) ∧ He Z h h' L) (Rm 8 0 0 190).cells (Rm 8 0 0 190).slots [] h1 0 0 (mkF X.m 46 #[.val (.ref t), .val (.int (31 * 1 + hS p.2)), .val (.ref t), .val (.int 2), .val (.int 1), .val (.ref a)] [.int (hL (P.map Prod.snd)), .int (31 * (31 * 1 + hS p.2))]) := by
    intro h1 H1
    refine g_iadd (pc' := 47) dj65_157_46 rfl ?_
    refine g_istoreN (pc' := 48) (Ls' := #[_, _, _, _, _, _]) dj65_157_47 rfl rfl ?_
    refine g_iinc (pc' := 51) (Ls' := #[.val (.ref t), .val (.int (31 * (31 * 1 + hS p.2) + hL (P.map Prod.snd))), .val (.ref t), .val (.int 2), .val (.int 2), .val (.ref a)]) dj65_157_48 rfl rfl rfl ?_
    refine g_goto (pc' := 16) dj65_157_51 (by decide) rfl ?_
    refine g_iload (pc' := 18) dj65_157_16 rfl rfl ?_
    refine g_iloadN (pc' := 19) dj65_157_18 rfl rfl ?_
    refine g_icmpge (pc' := 22) (pc2 := 54) dj65_157_19 rfl (by decide) rfl (fun c19 => False.elim (absurd c19 (by decide))) (fun c19 => ?_)
    refine g_iloadN (pc' := 55) dj65_157_54 rfl rfl ?_
    refine g_ireturn (t := .int) dj65_157_55 rfl (by simp) rfl rfl rfl (⟨rfl, H1⟩)
  by_cases h0 : P = []
  · subst h0
    obtain rfl := B43.nil rfl
    refine g_invokevirtualN (pc' := 46) [] [] dj65_157_43 rfl (wl_Arrays_383 hw) (wd_Object_hashCode_lrI hw) (wv_ImmutableCollectionsSListN_Object_hashCode_lrI hw) (wm_ImmutableCollectionsSAbstractImmutableList_hashCode_lrI hw) (by decide) (nf_ni (ni_ob hw)) (I.2.2.1.ext Z43) (Pay.of_met (met_ILH hw S hz I Z43 H43.2 hP B43) (wb_ImmutableCollectionsSAbstractImmutableList_hashCode_lrI hw) (wi_ImmutableCollectionsSAbstractImmutableList hw) rfl rfl) pd_lrI rfl rfl rfl rfl rfl (fun _ q => nomatch q) fun v43 h43 q43 l43 => ?_
    obtain ⟨rfl, H⟩ := q43
    exact Go.mono 0 0 rfl rfl (fin _ (H43.trans H))
  · have hn0 : P.map Prod.fst ≠ [] := fun q => h0 (List.map_eq_nil_iff.mp q)
    refine g_invokevirtualN (pc' := 46) [] [] dj65_157_43 rfl (wl_Arrays_383 hw) (wd_Object_hashCode_lrI hw) (wv_ImmutableCollectionsSList12_Object_hashCode_lrI hw) (wm_ImmutableCollectionsSAbstractImmutableList_hashCode_lrI hw) (by decide) (nf_ni (ni_ob hw)) (B43.l12 hn0) (Pay.of_met (met_ILH hw S hz I Z43 H43.2 hP B43) (wb_ImmutableCollectionsSAbstractImmutableList_hashCode_lrI hw) (wi_ImmutableCollectionsSAbstractImmutableList hw) rfl rfl) pd_lrI rfl rfl rfl rfl rfl (fun _ q => nomatch q) fun v43 h43 q43 l43 => ?_
    obtain ⟨rfl, H⟩ := q43
    exact Go.mono 0 0 rfl rfl (fin _ (H43.trans H))
theorem met_OHs (hw : ∀ d ∈ tables_1, d.before a0 Z = true) (S : Sta Z Z.heap "java/lang/String" "COMPACT_STRINGS" "Z" (.int z)) (hz : ¬ z = 0) {L P : List (Addr × List Int32)} {p : Addr × List Int32} {el em a t : Addr} {kA : ClassId} (I : ICS Z el em) (Z0 : Ext Z.heap h) (Ws : WS Z h L) (hp : p ∈ L) (hP : ∀ p ∈ P, p ∈ L) (B : ILd Z h a el em (P.map Prod.fst)) (A : Arv Z h t kA (.object OBN) 2 [.ref p.1, .ref a] .null) :
    MetW [] l yOHs jdk_31_method_5_code 1 (some .int) (Rm 9 0 0 210) #[.ref t] Z a0 EL nw [] h (fun v h' => v = some (.int (31 * (31 * 1 + hS p.2) + hL (P.map Prod.snd))) ∧ He Z h h' L) := by
  refine MetW.of (by first | exact plainFor_of_name (by first | (simp [plainName, overriddenIn]; done) | decide +kernel) | decide +kernel) fun X hX => Go.old fun EZ => ?_
  show Go X _ _ _ _ _ _ _ _ _ _ _ _ _ _ _ _ (mkF X.m 0 #[.val (.ref t)] [])
  refine g_aloadN (pc' := 1) dj31_5_0 rfl rfl rfl ?_
  refine g_invokestatic (pc' := 4) [] [_] dj31_5_1 rfl (wl_Objects_28 hw) (ws_Arrays_hashCode_lALjavalangObjectrI hw) (wi_Arrays hw) (wb_Arrays_hashCode_lALjavalangObjectrI hw) (by decide) (Pay.of_met (met_AHC hw S hz I Z0 Ws hp hP B A) (wb_Arrays_hashCode_lALjavalangObjectrI hw) (wi_Arrays hw) rfl rfl) pd_lALjavalangObjectrI rfl rfl rfl rfl rfl (fun _ q => nomatch q) fun v1 h1 q1 l1 => ?_
  obtain ⟨rfl, H⟩ := q1
  refine g_ireturn (t := .int) dj31_5_4 rfl (by simp) rfl rfl rfl (⟨rfl, H⟩)
end HCol
/-! CollectionDocument.Text: made, and its text -/
section Text
variable {l : Launch} {R : Room} {Z : State} {a0 : Array Value} {EL : List (String × Nat)} {nw : Bool} {h : Heap} {W : Nat} {z : Int32}
abbrev TXN : String := "com/example/simple_rocchio/simplerocchio/CollectionDocument$Text"
abbrev yTxi : MethodName := ⟨"com/example/simple_rocchio/simplerocchio/CollectionDocument$Text", "<init>", "(Ljava/lang/String;Ljava/util/List;)V"⟩
theorem met_Txi (hw : ∀ d ∈ tables_1, d.before a0 Z = true) {el em mir o a t d x : Addr} {xs : List Addr} {v0 v1 : Value} (I : ICS Z el em) (M : Mir Z mir) (EZ : Ext Z.heap h) (ho : Z.heap.size ≤ o) (E : Exa Z h o TXN) (F0 : Fld Z h o TXN "mText" "Ljava/lang/String;" v0) (F1 : Fld Z h o TXN "mFields" "Ljava/util/List;" v1) (B : ALd Z h a t d xs) (h2 : xs.length ≤ 2) (hx : ∀ x ∈ xs, Exa Z h x STN) (hta : Z.heap.size ≤ a) :
    MetW [] l yTxi prog_3_method_1_code 3 none (Rm 8 2 4 160) #[.ref o, .ref x, .ref a] Z a0 EL nw [o] h (fun v h' => v = none ∧ Keep h h' [o] ∧ Exa Z h' o TXN ∧ Fld Z h' o TXN "mText" "Ljava/lang/String;" (.ref x) ∧ ∃ b, Fld Z h' o TXN "mFields" "Ljava/util/List;" (.ref b) ∧ ILd Z h' b el em xs) := by
  have ne : RoadKit.slotOf Z TXN "mFields" "Ljava/util/List;" ≠ RoadKit.slotOf Z TXN "mText" "Ljava/lang/String;" := slot_ne (Or.inr (wy_CollectionDocumentSText_CollectionDocumentSText_mFields hw)) (Or.inr (wy_CollectionDocumentSText_CollectionDocumentSText_mText hw)) (by decide) (t := .object "java/util/List") (t' := .object "java/lang/String") (by decide) (by decide)
  have no : ∀ {b : Addr} {C : String}, C ≠ TXN → Exa Z h b C → b ∉ [o] := fun hC Eb q => by cases List.mem_singleton.mp q; exact Eb.ne E hC rfl
  refine MetW.of (by first | exact plainFor_of_name (by first | (simp [plainName, overriddenIn]; done) | decide +kernel) | decide +kernel) fun X hX => Go.old fun EZ => ?_
  show Go X _ _ _ _ _ _ _ _ _ _ _ _ _ _ _ _ (mkF X.m 0 #[.val (.ref o), .val (.ref x), .val (.ref a)] [])
  refine g_aloadN (pc' := 1) dp3_1_0 rfl rfl rfl ?_
  refine g_objinit (pc' := 4) dp3_1_1 rfl (wl_CollectionDocumentSText_1 hw) (wm_Object_init_lrV hw) (wb_Object_init_lrV hw) rfl rfl rfl ?_
  refine g_aloadN (pc' := 5) dp3_1_4 rfl rfl rfl ?_
  refine g_aloadN (pc' := 6) dp3_1_5 rfl rfl rfl ?_
  refine g_putfield (pc' := 9) dp3_1_6 rfl (wf_CollectionDocumentSText_7 hw) (F0) (E) (Or.inr ⟨wy_CollectionDocumentSText_CollectionDocumentSText_mText hw, rfl, rfl⟩) (wn_CollectionDocumentSText hw) (ty := (.object "java/lang/String")) (by decide) rfl rfl (ho) (by simp) fun h6 W6 => ?_
  refine g_aloadN (pc' := 10) dp3_1_9 rfl rfl rfl ?_
  refine g_aloadN (pc' := 11) dp3_1_10 rfl rfl rfl ?_
  have Kw := Keep.of_wr W6
  have B6 : ALd Z h6 a t d xs := by
    obtain ⟨b1, b2, b3, ⟨mc, b4⟩, b5⟩ := B
    have na := no (by decide) b1
    refine ⟨b1.keep Kw, b2.keep Kw na, b3.keep Kw na, ⟨mc, b4.keep Kw na⟩, b5.imp id fun ⟨q1, q2, q3, k, q4, q5, q6⟩ => ⟨q1, q2, q3, k, q4.keep Kw (fun q => by cases List.mem_singleton.mp q; exact E.neArv q4 (wn_CollectionDocumentSText hw) rfl), q5, q6.keep Kw⟩⟩
  have Z6 : Ext Z.heap h6 := ext_keep EZ Kw (allS ho all0)
  refine g_invokestatic (pc' := 14) [] [_] dp3_1_11 rfl (wl_CollectionDocumentSText_13 hw) (ws_List_copyOf_lLjavautilCollectionrLjavautilList hw) (wi_List hw) (wb_List_copyOf_lLjavautilCollectionrLjavautilList hw) (by decide) (Pay.of_met (met_cp hw I M Z6 B6 h2 (fun x q => (hx x q).keep Kw)) (wb_List_copyOf_lLjavautilCollectionrLjavautilList hw) (wi_List hw) rfl rfl) pd_lLjavautilCollectionrLjavautilList rfl rfl rfl rfl rfl (fun _ q => nomatch q) fun v11 h11 q11 l11 => ?_
  obtain ⟨b, rfl, E11, B11⟩ := q11
  refine g_putfield (pc' := 17) dp3_1_14 rfl (wf_CollectionDocumentSText_19 hw) ((F1.other W6 (Or.inr ne)).ext E11) ((E.wr W6).ext E11) (Or.inr ⟨wy_CollectionDocumentSText_CollectionDocumentSText_mFields hw, rfl, rfl⟩) (wn_CollectionDocumentSText hw) (ty := (.object "java/util/List")) (by decide) rfl rfl (ho) (by simp) fun h14 W14 => ?_
  have Kw2 := Keep.of_wr W14
  have B14 : ILd Z h14 b el em xs := by
    rcases B11 with q | ⟨u, q, h1, h2', h3⟩ | ⟨u, v, q, h1, h2', h3⟩
    · exact Or.inl q
    · have nb : b ∉ [o] := fun q => by cases List.mem_singleton.mp q; exact h1.ne ((E.wr W6).ext E11) (by decide) rfl
      exact Or.inr (Or.inl ⟨u, q, h1.keep Kw2, h2'.keep Kw2 nb, h3.keep Kw2 nb⟩)
    · have nb : b ∉ [o] := fun q => by cases List.mem_singleton.mp q; exact h1.ne ((E.wr W6).ext E11) (by decide) rfl
      exact Or.inr (Or.inr ⟨u, v, q, h1.keep Kw2, h2'.keep Kw2 nb, h3.keep Kw2 nb⟩)
  refine g_return dp3_1_17 rfl rfl rfl (⟨rfl, (((Keep.refl h [o]).wr W6 (Or.inl (List.mem_cons_self ..))).ext E11).wr W14 (Or.inl (List.mem_cons_self ..)), ((E.wr W6).ext E11).wr W14, ((F0.same W6).ext E11).other W14 (Or.inr ne.symm), b, ((F1.other W6 (Or.inr ne)).ext E11).same W14, B14⟩)
abbrev yTxE : MethodName := ⟨"com/example/simple_rocchio/simplerocchio/CollectionDocument$Text", "equals", "(Ljava/lang/Object;)Z"⟩
abbrev yTxH : MethodName := ⟨"com/example/simple_rocchio/simplerocchio/CollectionDocument$Text", "hashCode", "()I"⟩
/-- a Text over the String p and the list of Strings P -/
def TD (Z : State) (h : Heap) (el em o : Addr) (p : Addr × List Int32) (P : List (Addr × List Int32)) : Prop := Exa Z h o TXN ∧ Fld Z h o TXN "mText" "Ljava/lang/String;" (.ref p.1) ∧ ∃ b, Fld Z h o TXN "mFields" "Ljava/util/List;" (.ref b) ∧ ILd Z h b el em (P.map Prod.fst)
theorem TD.ext {h' : Heap} {el em o : Addr} {p : Addr × List Int32} {P : List (Addr × List Int32)} (D : TD Z h el em o p P) (E : Ext h h') : TD Z h' el em o p P := by
  obtain ⟨h1, h2, b, h3, h4⟩ := D
  exact ⟨h1.ext E, h2.ext E, b, h3.ext E, h4.ext E⟩
theorem TD.he {h' : Heap} {L : List (Addr × List Int32)} {el em o : Addr} {p : Addr × List Int32} {P : List (Addr × List Int32)} (D : TD Z h el em o p P) (Ws : WS Z h L) (H : He Z h h' L) : TD Z h' el em o p P := by
  obtain ⟨h1, h2, b, h3, h4⟩ := D
  have no : o ∉ L.map Prod.fst := fun q => by
    obtain ⟨p, hp, e⟩ := List.mem_map.mp q
    exact h1.ne (Ws.1 p hp).2.1.1 (by decide) e.symm
  exact ⟨h1.keep H.1, h2.keep H.1 no, b, h3.keep H.1 no, h4.he Ws H⟩
theorem met_TxE (hw : ∀ d ∈ tables_1, d.before a0 Z = true) (S : Sta Z Z.heap "java/lang/String" "COMPACT_STRINGS" "Z" (.int z)) (hz : ¬ z = 0) {L P P' : List (Addr × List Int32)} {p p' : Addr × List Int32} {el em o o' : Addr} (I : ICS Z el em) (Z0 : Ext Z.heap h) (Ws : WS Z h L) (hp : p ∈ L) (hp' : p' ∈ L) (hP : ∀ q ∈ P, q ∈ L) (hP' : ∀ q ∈ P', q ∈ L) (D : TD Z h el em o p P) (D' : TD Z h el em o' p' P') :
    MetW [] l yTxE prog_3_method_4_code 3 (some .boolean) (Rm 7 1 8 150) #[.ref o, .ref o'] Z a0 EL nw [] h (fun v h' => (∃ e : Int32, v = some (.int e) ∧ ((e = 1 ∧ p.2 = p'.2 ∧ P.map Prod.snd = P'.map Prod.snd) ∨ e = 0)) ∧ Ext h h') := by
  obtain ⟨E, F0, b, F1, B⟩ := D
  obtain ⟨E', F0', b', F1', B'⟩ := D'
  refine MetW.of (by first | exact plainFor_of_name (by first | (simp [plainName, overriddenIn]; done) | decide +kernel) | decide +kernel) fun X hX => Go.old fun EZ => ?_
  show Go X _ _ _ _ _ _ _ _ _ _ _ _ _ _ _ _ (mkF X.m 0 #[.val (.ref o), .val (.ref o'), .unset] [])
  refine g_aloadN (pc' := 1) dp3_4_0 rfl rfl rfl ?_
  refine g_instanceofY (pc' := 4) dp3_4_1 rfl (wc_CollectionDocumentSText_8 hw) (Ins.self E') ?_
  refine g_ifeq (pc' := 7) (pc2 := 46) dp3_4_4 rfl (by decide) rfl (fun c4 => ?_) (fun c4 => False.elim (absurd c4 (by decide)))
  refine g_aloadN (pc' := 8) dp3_4_7 rfl rfl rfl ?_
  refine g_checkcast (pc' := 11) dp3_4_8 rfl (wc_CollectionDocumentSText_8 hw) (Ins.self E') ?_
  refine g_astoreN (pc' := 12) (Ls' := #[_, _, _]) dp3_4_11 rfl rfl rfl ?_
  refine g_aloadN (pc' := 13) dp3_4_12 rfl rfl rfl ?_
  refine g_getfield (pc' := 16) dp3_4_13 rfl (wf_CollectionDocumentSText_7 hw) (F0) ?_
  refine g_aloadN (pc' := 17) dp3_4_16 rfl rfl rfl ?_
  refine g_getfield (pc' := 20) dp3_4_17 rfl (wf_CollectionDocumentSText_7 hw) (F0') ?_
  refine g_invokevirtualN (pc' := 23) [] [_] dp3_4_20 rfl (wl_CollectionDocumentSText_23 hw) (wd_String_equals_lLjavalangObjectrZ hw) (wv_String_String_equals_lLjavalangObjectrZ hw) (wm_String_equals_lLjavalangObjectrZ hw) (by decide) (NF.sel (wv_String_String_equals_lLjavalangObjectrZ hw)) ((Ws.1 p hp).2.1.1) (pay_eq (own_eq hw) (wn_String hw) S hz EZ (Ws.1 p hp).2.1 (Ws.1 p' hp').2.1 rfl rfl) pd_lLjavalangObjectrZ rfl rfl rfl rfl rfl (fun _ q => nomatch q) fun v20 h20 q20 l20 => ?_
  obtain ⟨q20, e20⟩ := q20
  have e20 := e20.symm
  subst e20
  rcases q20 with ⟨rfl, ep⟩ | ⟨rfl, -⟩
  · refine g_ifeq (pc' := 26) (pc2 := 46) dp3_4_23 rfl (by decide) rfl (fun c23 => ?_) (fun c23 => False.elim (absurd c23 (by decide)))
    refine g_aloadN (pc' := 27) dp3_4_26 rfl rfl rfl ?_
    refine g_getfield (pc' := 30) dp3_4_27 rfl (wf_CollectionDocumentSText_19 hw) (F1) ?_
    refine g_aloadN (pc' := 31) dp3_4_30 rfl rfl rfl ?_
    refine g_getfield (pc' := 34) dp3_4_31 rfl (wf_CollectionDocumentSText_19 hw) (F1') ?_
    have fin : ∀ {e : Int32} {h1 : Heap}, ((e = 1 ∧ P.map Prod.snd = P'.map Prod.snd) ∨ e = 0) → Ext h h1 → Go X (Rm 7 1 8 150) Z a0 EL nw yTxE prog_3_method_4_code 3 (some .boolean) (fun v h' => (∃ e : Int32, v = some (.int e) ∧ ((e = 1 ∧ p.2 = p'.2 ∧ P.map Prod.snd = P'.map Prod.snd) ∨ e = 0)) ∧ Ext h h') (Rm 7 1 8 150).cells (Rm 7 1 8 150).slots [] h1 1 8 (mkF X.m 39 #[.val (.ref o), .val (.ref o'), .val (.ref o')] [.int e]) := by
      intro e h1 he E1
      rcases he with ⟨rfl, eq⟩ | rfl
      · refine g_ifeq (pc' := 42) (pc2 := 46) dp3_4_39 rfl (by decide) rfl (fun c39 => ?_) (fun c39 => False.elim (absurd c39 (by decide)))
        refine g_iconst (pc' := 43) (w := 1) dp3_4_42 rfl (by decide) ?_
        refine g_goto (pc' := 47) dp3_4_43 (by decide) rfl ?_
        refine g_ireturn (t := .boolean) dp3_4_47 rfl (by simp) rfl rfl rfl (⟨⟨1, rfl, Or.inl ⟨rfl, ep, eq⟩⟩, E1⟩)
      · refine g_ifeq (pc' := 42) (pc2 := 46) dp3_4_39 rfl (by decide) rfl (fun c39 => False.elim (c39 rfl)) (fun c39 => ?_)
        refine g_iconst (pc' := 47) (w := 0) dp3_4_46 rfl (by decide) ?_
        refine g_ireturn (t := .boolean) dp3_4_47 rfl (by simp) rfl rfl rfl (⟨⟨0, rfl, Or.inr rfl⟩, E1⟩)
    by_cases h0 : P = []
    · subst h0
      obtain rfl := B.nil rfl
      refine g_invokeinterface (pc' := 39) [] [_] dp3_4_34 rfl (wl_CollectionDocumentSText_29 hw) (wd_List_equals_lLjavalangObjectrZ hw) (wv_ImmutableCollectionsSListN_List_equals_lLjavalangObjectrZ hw) (wm_ImmutableCollectionsSAbstractImmutableList_equals_lLjavalangObjectrZ hw) (wg_List_equals_lLjavalangObjectrZ hw) rfl (wp_ImmutableCollectionsSAbstractImmutableList_equals_lLjavalangObjectrZ hw) (wu_ImmutableCollectionsSListN_equals_lLjavalangObjectrZ hw) (wx_ImmutableCollectionsSListN_List hw) (by decide) (I.2.2.1.ext EZ) (Pay.of_met (met_ILE hw S hz I EZ Ws hP hP' B B') (wb_ImmutableCollectionsSAbstractImmutableList_equals_lLjavalangObjectrZ hw) (wi_ImmutableCollectionsSAbstractImmutableList hw) rfl rfl) pd_lLjavalangObjectrZ rfl rfl rfl rfl rfl (fun _ q => nomatch q) fun v34 h34 q34 l34 => ?_
      obtain ⟨q34, E34⟩ := q34
      rcases q34 with ⟨rfl, eq⟩ | rfl
      · exact Go.mono 1 8 rfl rfl (fin (Or.inl ⟨rfl, eq⟩) E34)
      · exact Go.mono 1 8 rfl rfl (fin (Or.inr rfl) E34)
    · have hn0 : P.map Prod.fst ≠ [] := fun q => h0 (List.map_eq_nil_iff.mp q)
      refine g_invokeinterface (pc' := 39) [] [_] dp3_4_34 rfl (wl_CollectionDocumentSText_29 hw) (wd_List_equals_lLjavalangObjectrZ hw) (wv_ImmutableCollectionsSList12_List_equals_lLjavalangObjectrZ hw) (wm_ImmutableCollectionsSAbstractImmutableList_equals_lLjavalangObjectrZ hw) (wg_List_equals_lLjavalangObjectrZ hw) rfl (wp_ImmutableCollectionsSAbstractImmutableList_equals_lLjavalangObjectrZ hw) (wu_ImmutableCollectionsSList12_equals_lLjavalangObjectrZ hw) (wx_ImmutableCollectionsSList12_List hw) (by decide) (B.l12 hn0) (Pay.of_met (met_ILE hw S hz I EZ Ws hP hP' B B') (wb_ImmutableCollectionsSAbstractImmutableList_equals_lLjavalangObjectrZ hw) (wi_ImmutableCollectionsSAbstractImmutableList hw) rfl rfl) pd_lLjavalangObjectrZ rfl rfl rfl rfl rfl (fun _ q => nomatch q) fun v34 h34 q34 l34 => ?_
      obtain ⟨q34, E34⟩ := q34
      rcases q34 with ⟨rfl, eq⟩ | rfl
      · exact Go.mono 1 8 rfl rfl (fin (Or.inl ⟨rfl, eq⟩) E34)
      · exact Go.mono 1 8 rfl rfl (fin (Or.inr rfl) E34)
  · refine g_ifeq (pc' := 26) (pc2 := 46) dp3_4_23 rfl (by decide) rfl (fun c23 => False.elim (c23 rfl)) (fun c23 => ?_)
    refine g_iconst (pc' := 47) (w := 0) dp3_4_46 rfl (by decide) ?_
    refine g_ireturn (t := .boolean) dp3_4_47 rfl (by simp) rfl rfl rfl (⟨⟨0, rfl, Or.inr rfl⟩, ext_refl _⟩)
theorem met_TxH (hw : ∀ d ∈ tables_1, d.before a0 Z = true) (S : Sta Z Z.heap "java/lang/String" "COMPACT_STRINGS" "Z" (.int z)) (hz : ¬ z = 0) {L P : List (Addr × List Int32)} {p : Addr × List Int32} {el em o : Addr} (I : ICS Z el em) (Z0 : Ext Z.heap h) (Ws : WS Z h L) (hp : p ∈ L) (hP : ∀ q ∈ P, q ∈ L) (D : TD Z h el em o p P) :
    MetW [] l yTxH prog_3_method_5_code 1 (some .int) (Rm 10 1 2 226) #[.ref o] Z a0 EL nw [] h (fun v h' => v = some (.int (31 * (31 * 1 + hS p.2) + hL (P.map Prod.snd))) ∧ WS Z h' L ∧ ∀ o p P, TD Z h el em o p P → TD Z h' el em o p P) := by
  obtain ⟨E, F0, b, F1, B⟩ := D
  have Ib : ∀ {h1 : Heap}, Ext h h1 → Ins Z h1 b OBN true := fun E1 => by
    by_cases q : P.map Prod.fst = []
    · rw [B.nil q]; exact Ins.of_exa (I.2.2.1.ext (ext_trans Z0 E1)) (wx_ImmutableCollectionsSListN_Object hw)
    · exact Ins.of_exa ((B.ext E1).l12 q) (wx_ImmutableCollectionsSList12_Object hw)
  refine MetW.of (by first | exact plainFor_of_name (by first | (simp [plainName, overriddenIn]; done) | decide +kernel) | decide +kernel) fun X hX => Go.old fun EZ => ?_
  show Go X _ _ _ _ _ _ _ _ _ _ _ _ _ _ _ _ (mkF X.m 0 #[.val (.ref o)] [])
  refine g_iconst (pc' := 1) (w := 2) dp3_5_0 rfl (by decide) ?_
  refine g_anewarrayX (ad := OAD) (by decide) (pc' := 4) (cap := 2) dp3_5_1 rfl (wc_CollectionDocumentSText_2 hw) (wo_Object hw) (by decide) (by decide) rfl rfl rfl fun h1 a1 k1 e1 E1 O1 B1 A1 => ?_
  have ha : h.size ≤ a1 := Nat.le_of_eq e1.symm
  have z1 : Z.heap.size ≤ a1 := Nat.le_trans Z0.1 ha
  refine g_dup (pc' := 5) dp3_5_4 rfl rfl ?_
  refine g_iconst (pc' := 6) (w := 0) dp3_5_5 rfl (by decide) ?_
  refine g_aloadN (pc' := 7) dp3_5_6 rfl rfl rfl ?_
  refine g_getfield (pc' := 10) dp3_5_7 rfl (wf_CollectionDocumentSText_7 hw) ((F0.ext E1)) ?_
  refine g_aastore (pc' := 11) (i := 0) dp3_5_10 rfl A1 O1 (Ins.of_exa ((Ws.1 p hp).2.1.1.ext E1) (wx_String_Object hw)) z1 (by decide) (by decide) (by decide) fun h10 K10 A10 => ?_
  have E10 : Ext h h10 := ext_keep E1 K10 (allS ha all0)
  refine g_dup (pc' := 12) dp3_5_11 rfl rfl ?_
  refine g_iconst (pc' := 13) (w := 1) dp3_5_12 rfl (by decide) ?_
  refine g_aloadN (pc' := 14) dp3_5_13 rfl rfl rfl ?_
  refine g_getfield (pc' := 17) dp3_5_14 rfl (wf_CollectionDocumentSText_19 hw) ((F1.ext E10)) ?_
  refine g_aastore (pc' := 18) (i := 1) dp3_5_17 rfl A10 O1 (Ib E10) z1 (by decide) (by decide) (by simp) fun h17 K17 A17 => ?_
  have E17 : Ext h h17 := ext_keep E10 K17 (allS ha all0)
  have A17 : Arv Z h17 a1 k1 (.object OBN) 2 [.ref p.1, .ref b] .null := A17
  refine g_invokestatic (pc' := 21) [] [_] dp3_5_18 rfl (wl_CollectionDocumentSText_30 hw) (ws_Objects_hash_lALjavalangObjectrI hw) (wi_Objects hw) (wb_Objects_hash_lALjavalangObjectrI hw) (by decide) (Pay.of_met (met_OHs hw S hz I (ext_trans Z0 E17) (Ws.ext E17) hp hP (B.ext E17) A17) (wb_Objects_hash_lALjavalangObjectrI hw) (wi_Objects hw) rfl rfl) pd_lALjavalangObjectrI rfl rfl rfl rfl rfl (fun _ q => nomatch q) fun v18 h18 q18 l18 => ?_
  obtain ⟨rfl, H18⟩ := q18
  refine g_ireturn (t := .int) dp3_5_21 rfl (by simp) rfl rfl rfl (⟨rfl, H18.2, fun o p P D => (D.ext E17).he (Ws.ext E17) H18⟩)
end Text
/-! the statics of ArrayList and ImmutableCollections, from the words of the start -/
section Stat258
open Jvm.Free.SBG Jvm.Free.AList Jvm.Free.SB Jvm.Free.SubstrLeaves
variable {s : State} {args : Array Value}
theorem arr0 {t : Term} {a : Addr} (hf : Fit s) (w1 : (Jvm.Cond.arrayOf t (.object OBN)).before args s = true) (w2 : (Jvm.Cond.eq (.length t) (.int 0)).before args s = true) (ev : t.eval args s none [] s = some (.ref a)) : ∃ k, Arv s s.heap a k (.object OBN) 0 [] .null := by
  obtain ⟨cl, A⟩ := Arr.start ev (Cond.before_iff.mp w1)
  have hl := Cond.eq_int w2 rfl
  obtain ⟨d', D', hev', harrAt, hlen⟩ := Term.length_spec hl
  cases ev.symm.trans hev'
  cases (State.arrayAt?_spec harrAt).1.symm.trans A.1
  have h31 := length_lt ev harrAt hl
  have e : (Term.length t).eval args s none [] s = some (.int (Int32.ofNat cl.slots.size)) := by simp [Term.eval, ev, harrAt, h31]
  have e2 : Int32.ofNat cl.slots.size = 0 := by
    have := Option.some.inj (e.symm.trans hl)
    simpa using this
  exact ⟨_, Arv.start hf A h31 e2 (by decide) rfl trivial⟩
end Stat258
/-! the law's helpers, and the law -/
section Law
variable {l : Launch} {R : Room} {Z : State} {a0 : Array Value} {EL : List (String × Nat)} {nw : Bool} {h h' : Heap} {W : Nat} {z : Int32}
theorem Pay.any {y : MethodName} {as' : Array Value} {sf : List Addr} {kc ks : Nat} {Q : Option Value → Heap → Prop} (P : Pay l R y W as' Z a0 EL true sf h kc ks Q) : Pay l R y W as' Z a0 EL nw sf h kc ks Q := fun p e below s args len vm0 hZ H hE hs hEL m meth c A g ig mk a X1 hg hsize hdg hW hn hp => by
  obtain ⟨v, B, X2, h1, h2, ⟨L, q, e1, e2, e3, c1, w⟩, stp⟩ := P p e below s args len vm0 hZ H hE hs hEL m meth c A g ig mk a X1 hg hsize hdg hW hn hp
  exact ⟨v, B, X2, h1, h2, ⟨L, q, e1, e2, e3, c1, fun _ => w rfl⟩, stp⟩
theorem mod3 (y : Int32) : ∃ j : Nat, j ≤ 2 ∧ (y &&& 3) % 3 = Int32.ofNat j := and_small (P := fun y => ∃ j : Nat, j ≤ 2 ∧ y % 3 = Int32.ofNat j) 3 (by decide) fun i hi => ⟨i % 3, by omega, mod_ofNat (by omega) (by decide) (by decide)⟩
theorem arv_ob {t : Addr} {k k' : ClassId} {n n' : Int32} {vs vs' : List Value} {C : String} {d d' : Value} (A : Arv Z h t k (.object C) n vs d) (A' : Arv Z h t k' .byte n' vs' d') : False := by
  obtain ⟨c1, ⟨a1, ⟨-, k1, a2, m1, a3⟩, -⟩, -⟩ := A
  obtain ⟨c2, ⟨b1, ⟨-, k2, b2, m2, b3⟩, -⟩, -⟩ := A'
  cases a1.symm.trans b1
  cases a2.symm.trans b2
  rw [a3] at b3
  cases b3
theorem WS.app {L L' : List (Addr × List Int32)} (A : WS Z h L) (B : WS Z h L') (d : ∀ p ∈ L, ∀ q ∈ L', p.1 < q.1) : WS Z h (L ++ L') := ⟨fun p hp => (List.mem_append.mp hp).elim (A.1 p) (B.1 p), fun p hp q hq e => by
  rcases List.mem_append.mp hp with hp | hp <;> rcases List.mem_append.mp hq with hq | hq
  · exact A.2 p hp q hq e
  · exact absurd e (Nat.ne_of_lt (d p hp q hq))
  · exact absurd e.symm (Nat.ne_of_lt (d q hq p hp))
  · exact B.2 p hp q hq e⟩
theorem WS.one {p : Addr × List Int32} (H : HStr Z h p) : WS Z h [p] := ⟨fun q hq => by cases List.mem_singleton.mp hq; exact H, fun q hq r hr _ => by cases List.mem_singleton.mp hq; cases List.mem_singleton.mp hr; rfl⟩
theorem HStr.keepE {p : Addr × List Int32} {o : Addr} {C : String} {nI : Nat} (S : HStr Z h p) (E : Exa Z h o C) (w : (Jvm.Cond.instantiable C nI).before a0 Z = true) (hC : C ≠ SN) (K : Keep h h' [o]) : HStr Z h' p :=
  S.keep K (fun x hx q => by cases List.mem_singleton.mp hx; exact E.ne q hC rfl) (fun x hx _ _ _ q => by cases List.mem_singleton.mp hx; exact E.neArv q w rfl)
abbrev yStr : MethodName := ⟨"com/example/simple_rocchio/simplerocchio/TextHashCodePinLaw", "str", "(II)Ljava/lang/String;"⟩
abbrev yFds : MethodName := ⟨"com/example/simple_rocchio/simplerocchio/TextHashCodePinLaw", "fields", "(I)Ljava/util/List;"⟩
abbrev yMk : MethodName := ⟨"com/example/simple_rocchio/simplerocchio/TextHashCodePinLaw", "make", "(II)Lcom/example/simple_rocchio/simplerocchio/CollectionDocument$Text;"⟩
theorem hstr_of {p : Addr × List Int32} (hz0 : Z.heap.size ≤ p.1) (T : Str Z h p.1 p.2) (H : HF Z h p.1) (B : BA Z h p.1 p.2) (hc : ∀ c ∈ p.2, ¬ c < 0 ∧ ¬ (255 : Int32) < c) (hl : p.2.length ≤ 2) : HStr Z h p := ⟨hz0, T, HV.new H, B, hc, hl⟩
theorem met_str (hw : ∀ d ∈ tables_1, d.before a0 Z = true) (S : Sta Z Z.heap "java/lang/String" "COMPACT_STRINGS" "Z" (.int z)) (hz : ¬ z = 0) (hm : ("java/lang/String", 7) ∈ EL) {j : Nat} (hj : j ≤ 2) {m : Int32} :
    MetW [] l yStr method_2_code 2 (some (.object "java/lang/String")) (Rm 4 6 16 100) #[.int (Int32.ofNat j), .int m] Z a0 EL false [] h (fun v h' => ∃ p : Addr × List Int32, v = some (.ref p.1) ∧ h.size ≤ p.1 ∧ p.1 < h'.size ∧ Ext h h' ∧ HStr Z h' p) := by
  match j, hj with
  | 0, _ =>
    refine MetW.of (by first | exact plainFor_of_name (by first | (simp [plainName, overriddenIn]; done) | decide +kernel) | decide +kernel) fun X hX => Go.old fun EZ => ?_
    show Go X _ _ _ _ _ _ _ _ _ _ _ _ _ _ _ _ (mkF X.m 0 #[.val (.int (Int32.ofNat 0)), .val (.int m)] [])
    refine g_iloadN (pc' := 1) dm2_0 rfl rfl ?_
    refine g_ifne (pc' := 4) (pc2 := 15) dm2_1 rfl (by decide) rfl (fun c1 => ?_) (fun c1 => False.elim (c1 rfl))
    refine g_new (pc' := 7) dm2_4 rfl (wc_TextHashCodePinLaw_7 hw) (wn_String hw) (wi_String hw) rfl rfl fun h4 a4 e4 E4 A4 D4 => ?_
    refine g_dup (pc' := 8) dm2_7 rfl rfl ?_
    refine g_iconst (pc' := 9) (w := 0) dm2_8 rfl (by decide) ?_
    refine g_newarray (pc' := 11) (cap := 0) dm2_9 rfl (wa_char hw) (by decide) (by decide) rfl rfl rfl fun h9 a9 k9 e9 E9 A9 => ?_
    have hx : h.size ≤ a4 := Nat.le_of_eq e4.symm
    have zx : Z.heap.size ≤ a4 := Nat.le_trans EZ.1 hx
    have A9' : Arv Z h9 a9 k9 .char (Int32.ofNat ([] : List Int32).length) (([] : List Int32).map Value.int) (.int 0) := A9
    refine g_invokespecial (pc' := 14) [a4] [_] dm2_11 rfl rfl (wl_TextHashCodePinLaw_9 hw) (wm_String_init_lACrV hw) (wb_String_init_lACrV hw) (by decide) (Pay.of_met (met_I1h hw S hz hm (ext_trans EZ (ext_trans E4 E9)) (cs := []) (by simp) (fun _ q => nomatch q) zx (A4.ext E9) ((D4 (Or.inr (wy_String_String_value hw)) (ty := .array .byte) (by decide)).ext E9) ((D4 (Or.inr (wy_String_String_coder hw)) (ty := .byte) (by decide)).ext E9) (HF.ext ⟨D4 (Or.inl (wy_String_String_hash hw)) (ty := .int) (by decide), D4 (Or.inl (wy_String_String_hashIsZero hw)) (ty := .boolean) (by decide)⟩ E9) A9') (wb_String_init_lACrV hw) (wi_String hw) rfl rfl) pd_lACrV rfl rfl rfl rfl rfl (fun _ q => by cases List.mem_singleton.mp q; simp) fun v11 h11 q11 l11 => ?_
    obtain ⟨rfl, K11, T11, H11, B11⟩ := q11
    refine g_areturn dm2_14 rfl rfl rfl rfl rfl rfl (⟨(a4, []), rfl, hx, T11.lt, ext_keep (ext_trans E4 E9) K11 (allS hx all0), hstr_of zx T11 H11 B11 (fun _ q => nomatch q) (by simp)⟩)
  | 1, _ =>
    have hc : ∀ c ∈ [(m &&& 255).toUInt32.toUInt16.toUInt32.toInt32], ¬ c < 0 ∧ ¬ (255 : Int32) < c := inS (P := fun c => ¬ c < 0 ∧ ¬ (255 : Int32) < c) (ok8 m) in0
    refine MetW.of (by first | exact plainFor_of_name (by first | (simp [plainName, overriddenIn]; done) | decide +kernel) | decide +kernel) fun X hX => Go.old fun EZ => ?_
    show Go X _ _ _ _ _ _ _ _ _ _ _ _ _ _ _ _ (mkF X.m 0 #[.val (.int (Int32.ofNat 1)), .val (.int m)] [])
    refine g_iloadN (pc' := 1) dm2_0 rfl rfl ?_
    refine g_ifne (pc' := 4) (pc2 := 15) dm2_1 rfl (by decide) rfl (fun c1 => False.elim (absurd c1 (by decide))) (fun c1 => ?_)
    refine g_iloadN (pc' := 16) dm2_15 rfl rfl ?_
    refine g_iconst (pc' := 17) (w := 1) dm2_16 rfl (by decide) ?_
    refine g_icmpne (pc' := 20) (pc2 := 40) dm2_17 rfl (by decide) rfl (fun c17 => ?_) (fun c17 => False.elim (c17 rfl))
    refine g_new (pc' := 23) dm2_20 rfl (wc_TextHashCodePinLaw_7 hw) (wn_String hw) (wi_String hw) rfl rfl fun h20 a20 e20 E20 A20 D20 => ?_
    refine g_dup (pc' := 24) dm2_23 rfl rfl ?_
    refine g_iconst (pc' := 25) (w := 1) dm2_24 rfl (by decide) ?_
    refine g_newarray (pc' := 27) (cap := 1) dm2_25 rfl (wa_char hw) (by decide) (by decide) rfl rfl rfl fun h25 a25 k25 e25 E25 A25 => ?_
    have hx : h.size ≤ a20 := Nat.le_of_eq e20.symm
    have zx : Z.heap.size ≤ a20 := Nat.le_trans EZ.1 hx
    have hb : h.size ≤ a25 := by rw [e25]; exact E20.1
    have ne : a20 ≠ a25 := Nat.ne_of_lt (by rw [e25]; exact A20.lt)
    refine g_dup (pc' := 28) dm2_27 rfl rfl ?_
    refine g_iconst (pc' := 29) (w := 0) dm2_28 rfl (by decide) ?_
    refine g_iloadN (pc' := 30) dm2_29 rfl rfl ?_
    refine g_sipush (pc' := 33) (w := 255) dm2_30 rfl (by decide) ?_
    refine g_iand (pc' := 34) dm2_33 rfl ?_
    refine g_i2c (pc' := 35) dm2_34 rfl ?_
    refine g_castoreX (pc' := 36) (i := 0) dm2_35 rfl (nar_idem _) (A25) (Nat.le_trans EZ.1 hb) (by decide) (by decide) (ble rfl) fun h35 K35 A35 => ?_
    have A' : Arv Z h35 a25 k25 .char (Int32.ofNat [(m &&& 255).toUInt32.toUInt16.toUInt32.toInt32].length) ([(m &&& 255).toUInt32.toUInt16.toUInt32.toInt32].map Value.int) (.int 0) := A35
    have E35 : Ext h h35 := ext_keep (ext_trans E20 E25) K35 (allS hb all0)
    have kf : ∀ {nm d : String} {v : Value}, Fld Z h20 a20 SN nm d v → Fld Z h35 a20 SN nm d v := fun F => (F.ext E25).keep K35 (ninS ne nin0)
    refine g_invokespecial (pc' := 39) [a20] [_] dm2_36 rfl rfl (wl_TextHashCodePinLaw_9 hw) (wm_String_init_lACrV hw) (wb_String_init_lACrV hw) (by decide) (Pay.of_met (met_I1h hw S hz hm (ext_trans EZ E35) (cs := [(m &&& 255).toUInt32.toUInt16.toUInt32.toInt32]) (by simp) hc zx ((A20.ext E25).keep K35) (kf (D20 (Or.inr (wy_String_String_value hw)) (ty := .array .byte) (by decide))) (kf (D20 (Or.inr (wy_String_String_coder hw)) (ty := .byte) (by decide))) ⟨kf (D20 (Or.inl (wy_String_String_hash hw)) (ty := .int) (by decide)), kf (D20 (Or.inl (wy_String_String_hashIsZero hw)) (ty := .boolean) (by decide))⟩ A') (wb_String_init_lACrV hw) (wi_String hw) rfl rfl) pd_lACrV rfl rfl rfl rfl rfl (fun _ q => by cases List.mem_singleton.mp q; simp) fun v36 h36 q36 l36 => ?_
    obtain ⟨rfl, K36, T36, H36, B36⟩ := q36
    refine g_areturn dm2_39 rfl rfl rfl rfl rfl rfl (⟨(a20, _), rfl, hx, T36.lt, ext_keep E35 K36 (allS hx all0), hstr_of zx T36 H36 B36 hc (by simp)⟩)
  | 2, _ =>
    have hc : ∀ c ∈ [(m &&& 255).toUInt32.toUInt16.toUInt32.toInt32, ((m.toUInt32 >>> ((8 : Int32) &&& 31).toUInt32).toInt32 &&& 255).toUInt32.toUInt16.toUInt32.toInt32], ¬ c < 0 ∧ ¬ (255 : Int32) < c := inS (P := fun c => ¬ c < 0 ∧ ¬ (255 : Int32) < c) (ok8 m) (inS (P := fun c => ¬ c < 0 ∧ ¬ (255 : Int32) < c) (ok8 _) in0)
    refine MetW.of (by first | exact plainFor_of_name (by first | (simp [plainName, overriddenIn]; done) | decide +kernel) | decide +kernel) fun X hX => Go.old fun EZ => ?_
    show Go X _ _ _ _ _ _ _ _ _ _ _ _ _ _ _ _ (mkF X.m 0 #[.val (.int (Int32.ofNat 2)), .val (.int m)] [])
    refine g_iloadN (pc' := 1) dm2_0 rfl rfl ?_
    refine g_ifne (pc' := 4) (pc2 := 15) dm2_1 rfl (by decide) rfl (fun c1 => False.elim (absurd c1 (by decide))) (fun c1 => ?_)
    refine g_iloadN (pc' := 16) dm2_15 rfl rfl ?_
    refine g_iconst (pc' := 17) (w := 1) dm2_16 rfl (by decide) ?_
    refine g_icmpne (pc' := 20) (pc2 := 40) dm2_17 rfl (by decide) rfl (fun c17 => False.elim (absurd c17 (by decide))) (fun c17 => ?_)
    refine g_new (pc' := 43) dm2_40 rfl (wc_TextHashCodePinLaw_7 hw) (wn_String hw) (wi_String hw) rfl rfl fun h40 a40 e40 E40 A40 D40 => ?_
    refine g_dup (pc' := 44) dm2_43 rfl rfl ?_
    refine g_iconst (pc' := 45) (w := 2) dm2_44 rfl (by decide) ?_
    refine g_newarray (pc' := 47) (cap := 2) dm2_45 rfl (wa_char hw) (by decide) (by decide) rfl rfl rfl fun h45 a45 k45 e45 E45 A45 => ?_
    have hx : h.size ≤ a40 := Nat.le_of_eq e40.symm
    have zx : Z.heap.size ≤ a40 := Nat.le_trans EZ.1 hx
    have hb : h.size ≤ a45 := by rw [e45]; exact E40.1
    have ne : a40 ≠ a45 := Nat.ne_of_lt (by rw [e45]; exact A40.lt)
    refine g_dup (pc' := 48) dm2_47 rfl rfl ?_
    refine g_iconst (pc' := 49) (w := 0) dm2_48 rfl (by decide) ?_
    refine g_iloadN (pc' := 50) dm2_49 rfl rfl ?_
    refine g_sipush (pc' := 53) (w := 255) dm2_50 rfl (by decide) ?_
    refine g_iand (pc' := 54) dm2_53 rfl ?_
    refine g_i2c (pc' := 55) dm2_54 rfl ?_
    refine g_castoreX (pc' := 56) (i := 0) dm2_55 rfl (nar_idem _) (A45) (Nat.le_trans EZ.1 hb) (by decide) (by decide) (ble rfl) fun h55 K55 A55 => ?_
    refine g_dup (pc' := 57) dm2_56 rfl rfl ?_
    refine g_iconst (pc' := 58) (w := 1) dm2_57 rfl (by decide) ?_
    refine g_iloadN (pc' := 59) dm2_58 rfl rfl ?_
    refine g_bipush (pc' := 61) (w := 8) dm2_59 rfl (by decide) ?_
    refine g_iushr (pc' := 62) dm2_61 rfl ?_
    refine g_sipush (pc' := 65) (w := 255) dm2_62 rfl (by decide) ?_
    refine g_iand (pc' := 66) dm2_65 rfl ?_
    refine g_i2c (pc' := 67) dm2_66 rfl ?_
    refine g_castoreX (pc' := 68) (i := 1) dm2_67 rfl (nar_idem _) (A55) (Nat.le_trans EZ.1 hb) (by decide) (by decide) (ble rfl) fun h67 K67 A67 => ?_
    have A' : Arv Z h67 a45 k45 .char (Int32.ofNat [(m &&& 255).toUInt32.toUInt16.toUInt32.toInt32, ((m.toUInt32 >>> ((8 : Int32) &&& 31).toUInt32).toInt32 &&& 255).toUInt32.toUInt16.toUInt32.toInt32].length) ([(m &&& 255).toUInt32.toUInt16.toUInt32.toInt32, ((m.toUInt32 >>> ((8 : Int32) &&& 31).toUInt32).toInt32 &&& 255).toUInt32.toUInt16.toUInt32.toInt32].map Value.int) (.int 0) := A67
    have E67 : Ext h h67 := ext_keep (ext_keep (ext_trans E40 E45) K55 (allS hb all0)) K67 (allS hb all0)
    have kf : ∀ {nm d : String} {v : Value}, Fld Z h40 a40 SN nm d v → Fld Z h67 a40 SN nm d v := fun F => ((F.ext E45).keep K55 (ninS ne nin0)).keep K67 (ninS ne nin0)
    refine g_invokespecial (pc' := 71) [a40] [_] dm2_68 rfl rfl (wl_TextHashCodePinLaw_9 hw) (wm_String_init_lACrV hw) (wb_String_init_lACrV hw) (by decide) (Pay.of_met (met_I1h hw S hz hm (ext_trans EZ E67) (cs := [(m &&& 255).toUInt32.toUInt16.toUInt32.toInt32, ((m.toUInt32 >>> ((8 : Int32) &&& 31).toUInt32).toInt32 &&& 255).toUInt32.toUInt16.toUInt32.toInt32]) (by simp) hc zx (((A40.ext E45).keep K55).keep K67) (kf (D40 (Or.inr (wy_String_String_value hw)) (ty := .array .byte) (by decide))) (kf (D40 (Or.inr (wy_String_String_coder hw)) (ty := .byte) (by decide))) ⟨kf (D40 (Or.inl (wy_String_String_hash hw)) (ty := .int) (by decide)), kf (D40 (Or.inl (wy_String_String_hashIsZero hw)) (ty := .boolean) (by decide))⟩ A') (wb_String_init_lACrV hw) (wi_String hw) rfl rfl) pd_lACrV rfl rfl rfl rfl rfl (fun _ q => by cases List.mem_singleton.mp q; simp) fun v68 h68 q68 l68 => ?_
    obtain ⟨rfl, K68, T68, H68, B68⟩ := q68
    refine g_areturn dm2_71 rfl rfl rfl rfl rfl rfl (⟨(a40, _), rfl, hx, T68.lt, ext_keep E67 K68 (allS hx all0), hstr_of zx T68 H68 B68 hc (by simp)⟩)
/-! valueOf(char), with its hash *)-/
theorem met_IBBh (hw : ∀ d ∈ tables_1, d.before a0 Z = true) {x b : Addr} {v0 c0 : Value} (hx : Z.heap.size ≤ x) (E : Exa Z h x SN) (V : Fld Z h x SN "value" "[B" v0) (C : Fld Z h x SN "coder" "B" c0) (H : HF Z h x) :
    MetW [] l yIBB jdk_42_method_151_code 3 none (Rm 1 0 0 12) #[.ref x, .ref b, .int 0] Z a0 EL nw [x] h (fun v h' => v = none ∧ Keep h h' [x] ∧ Exa Z h' x SN ∧ Fld Z h' x SN "value" "[B" (.ref b) ∧ Fld Z h' x SN "coder" "B" (.int 0) ∧ HF Z h' x) := by
  refine MetW.of (by first | exact plainFor_of_name (by first | (simp [plainName, overriddenIn]; done) | decide +kernel) | decide +kernel) fun X hX => Go.old fun EZ => ?_
  show Go X _ _ _ _ _ _ _ _ _ _ _ _ _ _ _ _ (mkF X.m 0 #[.val (.ref x), .val (.ref b), .val (.int 0)] [])
  refine g_aloadN (pc' := 1) dj42_151_0 rfl rfl rfl ?_
  refine g_objinit (pc' := 4) dj42_151_1 rfl (wl_String_1 hw) (wm_Object_init_lrV hw) (wb_Object_init_lrV hw) rfl rfl rfl ?_
  refine g_aloadN (pc' := 5) dj42_151_4 rfl rfl rfl ?_
  refine g_aloadN (pc' := 6) dj42_151_5 rfl rfl rfl ?_
  refine g_putfield (pc' := 9) dj42_151_6 rfl (wf_String_9 hw) (V) (E) (Or.inr ⟨wy_String_String_value hw, rfl, rfl⟩) (wn_String hw) (ty := (.array .byte)) (by decide) rfl rfl (hx) (by simp) fun h6 W6 => ?_
  refine g_aloadN (pc' := 10) dj42_151_9 rfl rfl rfl ?_
  refine g_iloadN (pc' := 11) dj42_151_10 rfl rfl ?_
  refine g_putfield (pc' := 14) dj42_151_11 rfl (wf_String_15 hw) (C.other W6 (Or.inr (st_ne hw))) (E.wr W6) (Or.inr ⟨wy_String_String_coder hw, rfl, rfl⟩) (wn_String hw) (ty := .byte) (by decide) rfl rfl (hx) (by simp) fun h11 W11 => ?_
  refine g_return dj42_151_14 rfl rfl rfl (⟨rfl, ((Keep.refl _ _).wr W6 (Or.inl (List.mem_cons_self ..))).wr W11 (Or.inl (List.mem_cons_self ..)), (E.wr W6).wr W11, (V.same W6).other W11 (Or.inr (st_ne hw).symm), (C.other W6 (Or.inr (st_ne hw))).same W11, (H.wv hw W6).wc hw W11⟩)
theorem met_valH (hw : ∀ d ∈ tables_1, d.before a0 Z = true) (S : Sta Z Z.heap "java/lang/String" "COMPACT_STRINGS" "Z" (.int z)) (hz : ¬ z = 0) (c : Int32) (hc0 : ¬ c < 0) (hc : ¬ (255 : Int32) < c) : MetW [] l yVal jdk_42_method_139_code 1 (some (.object "java/lang/String")) (Rm 2 2 5 40) #[.int c] Z a0 EL nw [] h
    (fun v h' => ∃ a, v = some (.ref a) ∧ h.size ≤ a ∧ a < h'.size ∧ Ext h h' ∧ HStr Z h' (a, [c])) := by
  refine MetW.of (by first | exact plainFor_of_name (by first | (simp [plainName, overriddenIn]; done) | decide +kernel) | decide +kernel) fun X hX => Go.old fun EZ => ?_
  show Go X _ _ _ _ _ _ _ _ _ _ _ _ _ _ _ _ (mkF X.m 0 #[.val (.int c)] [])
  refine g_getstatic (pc' := 3) dj42_139_0 rfl (wf_String_38 hw) (S) ?_
  refine g_ifeq (pc' := 6) (pc2 := 26) dj42_139_3 rfl (by decide) rfl (fun c3 => ?_) (fun c3 => False.elim (hz c3))
  refine g_iloadN (pc' := 7) dj42_139_6 rfl rfl ?_
  refine g_invokestatic (pc' := 10) [] [_] dj42_139_7 rfl (wl_String_1015 hw) (ws_StringLatin1_canEncode_lCrZ hw) (wi_StringLatin1 hw) (wb_StringLatin1_canEncode_lCrZ hw) (by decide) (Pay.of_met (met_can c hc) (wb_StringLatin1_canEncode_lCrZ hw) (wi_StringLatin1 hw) rfl rfl) pd_lCrZ rfl rfl rfl rfl rfl (fun _ q => nomatch q) fun v7 h7 q7 l7 => ?_
  obtain ⟨rfl, e7⟩ := q7
  have e7 := e7.symm
  subst e7
  refine g_ifeq (pc' := 13) (pc2 := 26) dj42_139_10 rfl (by decide) rfl (fun c10 => ?_) (fun c10 => False.elim (absurd c10 (by decide)))
  refine g_new (pc' := 16) dj42_139_13 rfl (wc_String_10 hw) (wn_String hw) (wi_String hw) rfl rfl fun h13 a13 e13 E13 A13 D13 => ?_
  refine g_dup (pc' := 17) dj42_139_16 rfl rfl ?_
  refine g_iloadN (pc' := 18) dj42_139_17 rfl rfl ?_
  have hx : h.size ≤ a13 := Nat.le_of_eq e13.symm
  have zx : Z.heap.size ≤ a13 := Nat.le_trans EZ.1 hx
  refine g_invokestatic (pc' := 21) [] [_] dj42_139_18 rfl (wl_String_1018 hw) (ws_StringLatin1_toBytes_lCrAB hw) (wi_StringLatin1 hw) (wb_StringLatin1_toBytes_lCrAB hw) (by decide) (Pay.of_met (met_toB hw c) (wb_StringLatin1_toBytes_lCrAB hw) (wi_StringLatin1 hw) rfl rfl) pd_lCrAB rfl rfl rfl rfl rfl (fun _ q => nomatch q) fun v18 h18 q18 l18 => ?_
  obtain ⟨b, kb, rfl, lb, E18, A18⟩ := q18
  refine g_iconst (pc' := 22) (w := 0) dj42_139_21 rfl (by decide) ?_
  refine g_invokespecial (pc' := 25) [a13] [_, _] dj42_139_22 rfl rfl (wl_String_209 hw) (wm_String_init_lABBrV hw) (wb_String_init_lABBrV hw) (by decide) (Pay.of_met (met_IBBh hw (b := b) zx (A13.ext E18) ((D13 (Or.inr (wy_String_String_value hw)) (ty := .array .byte) (by decide)).ext E18) ((D13 (Or.inr (wy_String_String_coder hw)) (ty := .byte) (by decide)).ext E18) (HF.ext ⟨D13 (Or.inl (wy_String_String_hash hw)) (ty := .int) (by decide), D13 (Or.inl (wy_String_String_hashIsZero hw)) (ty := .boolean) (by decide)⟩ E18)) (wb_String_init_lABBrV hw) (wi_String hw) rfl rfl) pd_lABBrV rfl rfl rfl rfl rfl (fun _ q => by cases List.mem_singleton.mp q; simp) fun v22 h22 q22 l22 => ?_
  obtain ⟨rfl, K22, E22, V22, C22, H22⟩ := q22
  have hne : b ∉ [a13] := ninS (Nat.ne_of_gt (Nat.lt_of_lt_of_le A13.lt lb)) nin0
  have hcc : ∀ u ∈ [c], ¬ u < 0 ∧ ¬ (255 : Int32) < u := fun u hu => by cases List.mem_singleton.mp hu; exact ⟨hc0, hc⟩
  refine g_areturn dj42_139_25 rfl rfl rfl rfl rfl rfl (⟨a13, rfl, hx, E22.lt, ext_keep (ext_trans E13 E18) K22 (allS hx all0), hstr_of (p := (a13, [c])) zx (Str.of_lit E22 C22 V22 (A18.keep K22 hne) rfl rfl hcc (ble rfl)) H22 (Or.inl (Nat.le_refl _)) hcc (by simp)⟩)
theorem met_fds (hw : ∀ d ∈ tables_1, d.before a0 Z = true) (S : Sta Z Z.heap "java/lang/String" "COMPACT_STRINGS" "Z" (.int z)) (hz : ¬ z = 0) {d : Addr} (DA : DefA Z d) {w : Int32} :
    MetW [] l yFds method_3_code 3 (some (.object "java/util/List")) (Rm 6 8 44 130) #[.int w] Z a0 EL nw [] h (fun v h' => ∃ a t P, v = some (.ref a) ∧ h.size ≤ a ∧ Ext h h' ∧ ALd Z h' a t d (P.map Prod.fst) ∧ (∀ q ∈ P, h.size ≤ q.1 ∧ q.1 < h'.size) ∧ WS Z h' P ∧ P.length ≤ 2) := by
  refine MetW.of (by first | exact plainFor_of_name (by first | (simp [plainName, overriddenIn]; done) | decide +kernel) | decide +kernel) fun X hX => Go.old fun EZ => ?_
  show Go X _ _ _ _ _ _ _ _ _ _ _ _ _ _ _ _ (mkF X.m 0 #[.val (.int w), .unset, .unset] [])
  refine g_iloadN (pc' := 1) dm3_0 rfl rfl ?_
  refine g_bipush (pc' := 3) (w := 16) dm3_1 rfl (by decide) ?_
  refine g_iushr (pc' := 4) dm3_3 rfl ?_
  refine g_iconst (pc' := 5) (w := 3) dm3_4 rfl (by decide) ?_
  refine g_iand (pc' := 6) dm3_5 rfl ?_
  refine g_iconst (pc' := 7) (w := 3) dm3_6 rfl (by decide) ?_
  refine g_irem (pc' := 8) dm3_7 rfl (by decide) ?_
  obtain ⟨j, hj, ej⟩ := mod3 (w.toUInt32 >>> ((16 : Int32) &&& 31).toUInt32).toInt32
  rw [ej]
  refine g_istoreN (pc' := 9) (Ls' := #[_, _, _]) dm3_8 rfl rfl ?_
  refine g_new (pc' := 12) dm3_9 rfl (wc_TextHashCodePinLaw_12 hw) (wn_ArrayList hw) (wi_ArrayList hw) rfl rfl fun h9 a9 e9 E9 A9 D9 => ?_
  refine g_dup (pc' := 13) dm3_12 rfl rfl ?_
  have ha : h.size ≤ a9 := Nat.le_of_eq e9.symm
  have za : Z.heap.size ≤ a9 := Nat.le_trans EZ.1 ha
  refine g_invokespecial (pc' := 16) [a9] [] dm3_13 rfl rfl (wl_TextHashCodePinLaw_14 hw) (wm_ArrayList_init_lrV hw) (wb_ArrayList_init_lrV hw) (by decide) (Pay.of_met (met_ALi hw DA za A9 (D9 (Or.inl (wy_ArrayList_ArrayList_elementData hw)) (ty := .array (.object "java/lang/Object")) (by decide)) (D9 (Or.inl (wy_ArrayList_ArrayList_size hw)) (ty := .int) (by decide)) (D9 (Or.inl (wy_ArrayList_AbstractList_modCount hw)) (ty := .int) (by decide))) (wb_ArrayList_init_lrV hw) (wi_ArrayList hw) rfl rfl) pd_lrV rfl rfl rfl rfl rfl (fun _ q => q) fun v13 h13 q13 l13 => ?_
  obtain ⟨rfl, K13, B13⟩ := q13
  have F13 : Ext h h13 := ext_keep E9 K13 (allS ha all0)
  refine g_astoreN (pc' := 17) (Ls' := #[_, _, _]) dm3_16 rfl rfl rfl ?_
  refine g_iloadN (pc' := 18) dm3_17 rfl rfl ?_
  refine g_iconst (pc' := 19) (w := 1) dm3_18 rfl (by decide) ?_
  match j, hj with
  | 0, _ =>
    refine g_icmplt (pc' := 22) (pc2 := 38) dm3_19 rfl (by decide) rfl (fun c19 => False.elim (absurd ((ofNat_lt (a := 0) (b := 1) (by omega) (by omega)).mpr (by omega)) c19)) (fun c19 => ?_)
    refine g_iloadN (pc' := 39) dm3_38 rfl rfl ?_
    refine g_iconst (pc' := 40) (w := 2) dm3_39 rfl (by decide) ?_
    refine g_icmplt (pc' := 43) (pc2 := 62) dm3_40 rfl (by decide) rfl (fun c40 => False.elim (absurd ((ofNat_lt (a := 0) (b := 2) (by omega) (by omega)).mpr (by omega)) c40)) (fun c40 => ?_)
    refine g_aloadN (pc' := 63) dm3_62 rfl rfl rfl ?_
    refine g_areturn dm3_63 rfl rfl rfl rfl rfl rfl (⟨a9, d, [], rfl, ha, F13, B13, (fun _ q => nomatch q), ⟨(fun _ q => nomatch q), (fun _ q => nomatch q)⟩, by simp⟩)
  | 1, _ =>
    refine g_icmplt (pc' := 22) (pc2 := 38) dm3_19 rfl (by decide) rfl (fun c19 => ?_) (fun c19 => False.elim (absurd ((ofNat_lt (b := 1) (by omega) (by omega)).mp c19) (by omega)))
    refine g_aloadN (pc' := 23) dm3_22 rfl rfl rfl ?_
    refine g_iloadN (pc' := 24) dm3_23 rfl rfl ?_
    refine g_sipush (pc' := 27) (w := 255) dm3_24 rfl (by decide) ?_
    refine g_iand (pc' := 28) dm3_27 rfl ?_
    refine g_i2c (pc' := 29) dm3_28 rfl ?_
    refine g_invokestatic (pc' := 32) [] [_] dm3_29 rfl (wl_TextHashCodePinLaw_15 hw) (ws_String_valueOf_lCrLjavalangString hw) (wi_String hw) (wb_String_valueOf_lCrLjavalangString hw) (by decide) (Pay.of_met (met_valH hw S hz _ (ok8 w).1 (ok8 w).2) (wb_String_valueOf_lCrLjavalangString hw) (wi_String hw) rfl rfl) pd_lCrLjavalangString rfl rfl rfl rfl rfl (fun _ q => nomatch q) fun v29 h29 q29 l29 => ?_
    obtain ⟨x1, rfl, y1, y2, E29, T29⟩ := q29
    have F29 := ext_trans F13 E29
    refine g_invokeinterface (pc' := 37) [a9] [_] dm3_32 rfl (wl_TextHashCodePinLaw_19 hw) (wd_List_add_lLjavalangObjectrZ hw) (wv_ArrayList_List_add_lLjavalangObjectrZ hw) (wm_ArrayList_add_lLjavalangObjectrZ hw) (wg_List_add_lLjavalangObjectrZ hw) rfl (wp_ArrayList_add_lLjavalangObjectrZ hw) (wu_ArrayList_add_lLjavalangObjectrZ hw) (wx_ArrayList_List hw) (by decide) ((B13.ext E29).1) (Pay.any (Pay.of_met (met_addA hw DA (ext_trans EZ F29) za (B13.ext E29) (Ins.of_exa T29.2.1.exa (wx_String_Object hw))) (wb_ArrayList_add_lLjavalangObjectrZ hw) (wi_ArrayList hw) rfl rfl)) pd_lLjavalangObjectrZ rfl rfl rfl rfl rfl (fun _ q => q) fun v32 h32 q32 l32 => ?_
    obtain ⟨rfl, K32, t, t1, t2, B32⟩ := q32
    refine g_pop (pc' := 38) dm3_37 rfl rfl ?_
    refine g_iloadN (pc' := 39) dm3_38 rfl rfl ?_
    refine g_iconst (pc' := 40) (w := 2) dm3_39 rfl (by decide) ?_
    refine g_icmplt (pc' := 43) (pc2 := 62) dm3_40 rfl (by decide) rfl (fun c40 => False.elim (absurd ((ofNat_lt (a := 1) (b := 2) (by omega) (by omega)).mpr (by omega)) c40)) (fun c40 => ?_)
    refine g_aloadN (pc' := 63) dm3_62 rfl rfl rfl ?_
    have H1 := T29.keepE (B13.ext E29).1 (wn_ArrayList hw) (by decide) K32
    refine g_areturn dm3_63 rfl rfl rfl rfl rfl rfl (⟨a9, t, [(x1, _)], rfl, ha, ext_keep F29 K32 (allS ha all0), B32, (fun q hq => by cases List.mem_singleton.mp hq; exact ⟨Nat.le_trans F13.1 y1, H1.2.1.lt⟩), WS.one H1, by simp⟩)
  | 2, _ =>
    refine g_icmplt (pc' := 22) (pc2 := 38) dm3_19 rfl (by decide) rfl (fun c19 => ?_) (fun c19 => False.elim (absurd ((ofNat_lt (b := 1) (by omega) (by omega)).mp c19) (by omega)))
    refine g_aloadN (pc' := 23) dm3_22 rfl rfl rfl ?_
    refine g_iloadN (pc' := 24) dm3_23 rfl rfl ?_
    refine g_sipush (pc' := 27) (w := 255) dm3_24 rfl (by decide) ?_
    refine g_iand (pc' := 28) dm3_27 rfl ?_
    refine g_i2c (pc' := 29) dm3_28 rfl ?_
    refine g_invokestatic (pc' := 32) [] [_] dm3_29 rfl (wl_TextHashCodePinLaw_15 hw) (ws_String_valueOf_lCrLjavalangString hw) (wi_String hw) (wb_String_valueOf_lCrLjavalangString hw) (by decide) (Pay.of_met (met_valH hw S hz _ (ok8 w).1 (ok8 w).2) (wb_String_valueOf_lCrLjavalangString hw) (wi_String hw) rfl rfl) pd_lCrLjavalangString rfl rfl rfl rfl rfl (fun _ q => nomatch q) fun v29 h29 q29 l29 => ?_
    obtain ⟨x1, rfl, y1, y2, E29, T29⟩ := q29
    have F29 := ext_trans F13 E29
    refine g_invokeinterface (pc' := 37) [a9] [_] dm3_32 rfl (wl_TextHashCodePinLaw_19 hw) (wd_List_add_lLjavalangObjectrZ hw) (wv_ArrayList_List_add_lLjavalangObjectrZ hw) (wm_ArrayList_add_lLjavalangObjectrZ hw) (wg_List_add_lLjavalangObjectrZ hw) rfl (wp_ArrayList_add_lLjavalangObjectrZ hw) (wu_ArrayList_add_lLjavalangObjectrZ hw) (wx_ArrayList_List hw) (by decide) ((B13.ext E29).1) (Pay.any (Pay.of_met (met_addA hw DA (ext_trans EZ F29) za (B13.ext E29) (Ins.of_exa T29.2.1.exa (wx_String_Object hw))) (wb_ArrayList_add_lLjavalangObjectrZ hw) (wi_ArrayList hw) rfl rfl)) pd_lLjavalangObjectrZ rfl rfl rfl rfl rfl (fun _ q => q) fun v32 h32 q32 l32 => ?_
    obtain ⟨rfl, K32, t, t1, t2, B32⟩ := q32
    have F32 : Ext h h32 := ext_keep F29 K32 (allS ha all0)
    have ht : h.size ≤ t := Nat.le_trans F29.1 t1
    have H1 := T29.keepE (B13.ext E29).1 (wn_ArrayList hw) (by decide) K32
    obtain ⟨kt, nt, vt, At, Et⟩ : ∃ k n vs, Arv Z h32 t k (.object OBN) n vs .null ∧ Exa Z h32 t OAD := by
      obtain ⟨-, -, -, -, q⟩ := B32
      rcases q with ⟨q, -⟩ | ⟨-, -, -, k, A, -, E⟩
      · exact absurd q (by simp)
      · exact ⟨_, _, _, A, E⟩
    refine g_pop (pc' := 38) dm3_37 rfl rfl ?_
    refine g_iloadN (pc' := 39) dm3_38 rfl rfl ?_
    refine g_iconst (pc' := 40) (w := 2) dm3_39 rfl (by decide) ?_
    refine g_icmplt (pc' := 43) (pc2 := 62) dm3_40 rfl (by decide) rfl (fun c40 => ?_) (fun c40 => False.elim (absurd ((ofNat_lt (b := 2) (by omega) (by omega)).mp c40) (by omega)))
    refine g_aloadN (pc' := 44) dm3_43 rfl rfl rfl ?_
    refine g_iloadN (pc' := 45) dm3_44 rfl rfl ?_
    refine g_bipush (pc' := 47) (w := 8) dm3_45 rfl (by decide) ?_
    refine g_iushr (pc' := 48) dm3_47 rfl ?_
    refine g_sipush (pc' := 51) (w := 255) dm3_48 rfl (by decide) ?_
    refine g_iand (pc' := 52) dm3_51 rfl ?_
    refine g_i2c (pc' := 53) dm3_52 rfl ?_
    refine g_invokestatic (pc' := 56) [] [_] dm3_53 rfl (wl_TextHashCodePinLaw_15 hw) (ws_String_valueOf_lCrLjavalangString hw) (wi_String hw) (wb_String_valueOf_lCrLjavalangString hw) (by decide) (Pay.of_met (met_valH hw S hz _ (ok8 _).1 (ok8 _).2) (wb_String_valueOf_lCrLjavalangString hw) (wi_String hw) rfl rfl) pd_lCrLjavalangString rfl rfl rfl rfl rfl (fun _ q => nomatch q) fun v53 h53 q53 l53 => ?_
    obtain ⟨x2, rfl, y3, y4, E53, T53⟩ := q53
    have F53 := ext_trans F32 E53
    refine Go.addE (Et.ext E53) (by decide) (by decide) ?_
    refine g_invokeinterface (pc' := 61) [a9, t] [_] dm3_56 rfl (wl_TextHashCodePinLaw_19 hw) (wd_List_add_lLjavalangObjectrZ hw) (wv_ArrayList_List_add_lLjavalangObjectrZ hw) (wm_ArrayList_add_lLjavalangObjectrZ hw) (wg_List_add_lLjavalangObjectrZ hw) rfl (wp_ArrayList_add_lLjavalangObjectrZ hw) (wu_ArrayList_add_lLjavalangObjectrZ hw) (wx_ArrayList_List hw) (by decide) ((B32.ext E53).1) (Pay.of_met (met_addB hw za (B32.ext E53) (Ins.of_exa T53.2.1.exa (wx_String_Object hw))) (wb_ArrayList_add_lLjavalangObjectrZ hw) (wi_ArrayList hw) rfl rfl) pd_lLjavalangObjectrZ rfl rfl rfl rfl rfl (fun y hy => by simp only [List.mem_cons, List.not_mem_nil, or_false] at hy; rcases hy with rfl | rfl <;> simp) fun v56 h56 q56 l56 => ?_
    obtain ⟨rfl, K56, B56⟩ := q56
    have kp : ∀ {q : Addr × List Int32}, HStr Z h53 q → HStr Z h56 q := fun H => H.keep K56
      (fun x hx q => by
        simp only [List.mem_cons, List.not_mem_nil, or_false] at hx
        rcases hx with rfl | rfl
        · exact (B32.ext E53).1.ne q (by decide) rfl
        · exact (Et.ext E53).ne q (by decide) rfl)
      (fun x hx _ _ _ q => by
        simp only [List.mem_cons, List.not_mem_nil, or_false] at hx
        rcases hx with rfl | rfl
        · exact (B32.ext E53).1.neArv q (wn_ArrayList hw) rfl
        · exact arv_ob (At.ext E53) q)
    refine g_pop (pc' := 62) dm3_61 rfl rfl ?_
    refine g_aloadN (pc' := 63) dm3_62 rfl rfl rfl ?_
    have H2 := kp T53
    have H1' := kp (H1.ext E53)
    have RR : ∀ {c1 c2 : List Int32} (q : Addr × List Int32), q ∈ [(x1, c1), (x2, c2)] → h.size ≤ q.1 ∧ q.1 < h56.size := by
      intro c1 c2 q hq
      simp only [List.mem_cons, List.not_mem_nil, or_false] at hq
      rcases hq with rfl | rfl
      · exact ⟨Nat.le_trans F13.1 y1, H1'.2.1.lt⟩
      · exact ⟨Nat.le_trans F32.1 y3, H2.2.1.lt⟩
    have WW := WS.app (WS.one H1') (WS.one H2) (fun q hq r hr => by cases List.mem_singleton.mp hq; cases List.mem_singleton.mp hr; exact Nat.lt_of_lt_of_le H1.2.1.lt y3)
    refine g_areturn dm3_63 rfl rfl rfl rfl rfl rfl (⟨a9, t, [(x1, _), (x2, _)], rfl, ha, ext_keep F53 K56 (allS ha (allS ht all0)), B56, (fun q hq => RR q hq), WW, by simp⟩)
theorem met_mk (hw : ∀ d ∈ tables_1, d.before a0 Z = true) (S : Sta Z Z.heap "java/lang/String" "COMPACT_STRINGS" "Z" (.int z)) (hz : ¬ z = 0) (hm : ("java/lang/String", 7) ∈ EL) {d el em mir : Addr} (DA : DefA Z d) (I : ICS Z el em) (M : Mir Z mir) {u w : Int32} :
    MetW [] l yMk method_4_code 2 (some (.object TXN)) (Rm 9 18 70 200) #[.int u, .int w] Z a0 EL false [] h (fun v h' => ∃ o p P, v = some (.ref o) ∧ Ext h h' ∧ TD Z h' el em o p P ∧ (∀ q ∈ p :: P, h.size ≤ q.1 ∧ q.1 < h'.size) ∧ WS Z h' (p :: P)) := by
  refine MetW.of (by first | exact plainFor_of_name (by first | (simp [plainName, overriddenIn]; done) | decide +kernel) | decide +kernel) fun X hX => Go.old fun EZ => ?_
  show Go X _ _ _ _ _ _ _ _ _ _ _ _ _ _ _ _ (mkF X.m 0 #[.val (.int u), .val (.int w)] [])
  refine g_new (pc' := 3) dm4_0 rfl (wc_TextHashCodePinLaw_25 hw) (wn_CollectionDocumentSText hw) (wi_CollectionDocumentSText hw) rfl rfl fun h0 a0 e0 E0 A0 D0 => ?_
  refine g_dup (pc' := 4) dm4_3 rfl rfl ?_
  refine g_iloadN (pc' := 5) dm4_4 rfl rfl ?_
  refine g_bipush (pc' := 7) (w := 16) dm4_5 rfl (by decide) ?_
  refine g_iushr (pc' := 8) dm4_7 rfl ?_
  refine g_iconst (pc' := 9) (w := 3) dm4_8 rfl (by decide) ?_
  refine g_iand (pc' := 10) dm4_9 rfl ?_
  refine g_iconst (pc' := 11) (w := 3) dm4_10 rfl (by decide) ?_
  refine g_irem (pc' := 12) dm4_11 rfl (by decide) ?_
  obtain ⟨j, hj, ej⟩ := mod3 (u.toUInt32 >>> ((16 : Int32) &&& 31).toUInt32).toInt32
  rw [ej]
  have h0' : h.size ≤ a0 := Nat.le_of_eq e0.symm
  have z0 : Z.heap.size ≤ a0 := Nat.le_trans EZ.1 h0'
  refine g_iloadN (pc' := 13) dm4_12 rfl rfl ?_
  refine g_invokestatic (pc' := 16) [] [_, _] dm4_13 rfl (wl_TextHashCodePinLaw_27 hw) (ws_TextHashCodePinLaw_str_lIIrLjavalangString hw) (wi_TextHashCodePinLaw hw) (wb_TextHashCodePinLaw_str_lIIrLjavalangString hw) (by decide) (Pay.of_met (met_str hw S hz hm hj) (wb_TextHashCodePinLaw_str_lIIrLjavalangString hw) (wi_TextHashCodePinLaw hw) rfl rfl) pd_lIIrLjavalangString rfl rfl rfl rfl rfl (fun _ q => nomatch q) fun v13 h13 q13 l13 => ?_
  obtain ⟨p, rfl, p1, p2, E13, T13⟩ := q13
  refine g_iloadN (pc' := 17) dm4_16 rfl rfl ?_
  refine g_invokestatic (pc' := 20) [] [_] dm4_17 rfl (wl_TextHashCodePinLaw_33 hw) (ws_TextHashCodePinLaw_fields_lIrLjavautilList hw) (wi_TextHashCodePinLaw hw) (wb_TextHashCodePinLaw_fields_lIrLjavautilList hw) (by decide) (Pay.of_met (met_fds hw S hz DA) (wb_TextHashCodePinLaw_fields_lIrLjavautilList hw) (wi_TextHashCodePinLaw hw) rfl rfl) pd_lIrLjavautilList rfl rfl rfl rfl rfl (fun _ q => nomatch q) fun v17 h17 q17 l17 => ?_
  obtain ⟨a, t, P, rfl, ha, E17, B17, R17, W17, h2⟩ := q17
  have F17 := ext_trans E13 E17
  have za : Z.heap.size ≤ a := Nat.le_trans (ext_trans (ext_trans EZ E0) E13).1 ha
  refine g_invokespecial (pc' := 23) [a0] [_, _] dm4_20 rfl rfl (wl_TextHashCodePinLaw_37 hw) (wm_CollectionDocumentSText_init_lLjavalangStringLjavautilListrV hw) (wb_CollectionDocumentSText_init_lLjavalangStringLjavautilListrV hw) (by decide) (Pay.of_met (met_Txi hw I M (ext_trans (ext_trans EZ E0) F17) z0 (A0.ext F17) ((D0 (Or.inr (wy_CollectionDocumentSText_CollectionDocumentSText_mText hw)) (ty := .object "java/lang/String") (by decide)).ext F17) ((D0 (Or.inr (wy_CollectionDocumentSText_CollectionDocumentSText_mFields hw)) (ty := .object "java/util/List") (by decide)).ext F17) B17 (by rw [List.length_map]; exact h2) (fun x hx => by obtain ⟨q, hq, rfl⟩ := List.mem_map.mp hx; exact (W17.1 q hq).2.1.1) za) (wb_CollectionDocumentSText_init_lLjavalangStringLjavautilListrV hw) (wi_CollectionDocumentSText hw) rfl rfl) pd_lLjavalangStringLjavautilListrV rfl rfl rfl rfl rfl (fun _ q => q) fun v20 h20 q20 l20 => ?_
  obtain ⟨rfl, K20, Eo, Fo, b, Gb, Lb⟩ := q20
  have kp : ∀ {q : Addr × List Int32}, HStr Z h17 q → HStr Z h20 q := fun H => H.keepE (A0.ext F17) (wn_CollectionDocumentSText hw) (by decide) K20
  have Hp := kp (T13.ext E17)
  have W20 : WS Z h20 P := ⟨fun q hq => kp (W17.1 q hq), W17.2⟩
  have RR : ∀ q ∈ p :: P, h.size ≤ q.1 ∧ q.1 < h20.size := fun q hq => by
    rcases List.mem_cons.mp hq with rfl | hq
    · exact ⟨Nat.le_trans E0.1 p1, Hp.2.1.lt⟩
    · exact ⟨Nat.le_trans (ext_trans E0 E13).1 (R17 q hq).1, (W20.1 q hq).2.1.lt⟩
  have WW : WS Z h20 (p :: P) := WS.app (L := [p]) (WS.one Hp) W20 (fun q hq r hr => by cases List.mem_singleton.mp hq; exact Nat.lt_of_lt_of_le p2 (R17 r hr).1)
  refine g_areturn dm4_23 rfl rfl rfl rfl rfl rfl (⟨a0, p, P, rfl, ext_keep (ext_trans E0 F17) K20 (allS h0' all0), ⟨Eo, Fo, b, Gb, Lb⟩, RR, WW⟩)
theorem law_C {X : Cx} (hX : X.l = l) (hw : ∀ d ∈ tables_1, d.before a0 Z = true) (S : Sta Z Z.heap "java/lang/String" "COMPACT_STRINGS" "Z" (.int z)) (hz : ¬ z = 0) {d el em mir : Addr} (DA : DefA Z d) (I : ICS Z el em) (M : Mir Z mir) (EZ : Ext Z.heap h) (p0 p1 p2 p3 p4 f u w : Int32) :
    Go X room_1 Z a0 consts_1 false x code maxLocals ret (fun v h' => v = some (.int 1)) room_1.cells room_1.slots [] h 0 0 (mkF X.m 34 #[.val (.int p0), .val (.int p1), .val (.int p2), .val (.int p3), .val (.int p4), .val (.int f), .val (.int u), .val (.int w), .unset, .unset, .unset, .unset, .unset, .unset] []) := by
  subst hX
  refine g_iloadN (pc' := 35) at_34 rfl rfl ?_
  refine g_iloadN (pc' := 36) at_35 rfl rfl ?_
  refine g_invokestatic (pc' := 39) [] [_, _] at_36 rfl (wl_TextHashCodePinLaw_40 hw) (ws_TextHashCodePinLaw_make_lIIrLcomexamplesimple_rocchiosimplerocchioCollectionDocumentSText hw) (wi_TextHashCodePinLaw hw) (wb_TextHashCodePinLaw_make_lIIrLcomexamplesimple_rocchiosimplerocchioCollectionDocumentSText hw) (by decide) (Pay.of_met (met_mk hw S hz (by decide) DA I M) (wb_TextHashCodePinLaw_make_lIIrLcomexamplesimple_rocchiosimplerocchioCollectionDocumentSText hw) (wi_TextHashCodePinLaw hw) rfl rfl) pd_lIIrLcomexamplesimple_rocchiosimplerocchioCollectionDocumentSText rfl rfl rfl rfl rfl (fun _ q => nomatch q) fun v36 h36 q36 l36 => ?_
  obtain ⟨o, p, P, rfl, E36, D36, R36, W36⟩ := q36
  refine g_astore (pc' := 41) (Ls' := #[_, _, _, _, _, _, _, _, _, _, _, _, _, _]) at_39 rfl rfl rfl ?_
  refine g_iload (pc' := 43) at_41 rfl rfl ?_
  refine g_iload (pc' := 45) at_43 rfl rfl ?_
  refine g_invokestatic (pc' := 48) [] [_, _] at_45 rfl (wl_TextHashCodePinLaw_40 hw) (ws_TextHashCodePinLaw_make_lIIrLcomexamplesimple_rocchiosimplerocchioCollectionDocumentSText hw) (wi_TextHashCodePinLaw hw) (wb_TextHashCodePinLaw_make_lIIrLcomexamplesimple_rocchiosimplerocchioCollectionDocumentSText hw) (by decide) (Pay.of_met (met_mk hw S hz (by decide) DA I M) (wb_TextHashCodePinLaw_make_lIIrLcomexamplesimple_rocchiosimplerocchioCollectionDocumentSText hw) (wi_TextHashCodePinLaw hw) rfl rfl) pd_lIIrLcomexamplesimple_rocchiosimplerocchioCollectionDocumentSText rfl rfl rfl rfl rfl (fun _ q => nomatch q) fun v45 h45 q45 l45 => ?_
  obtain ⟨o', p', P', rfl, E45, D45, R45, W45⟩ := q45
  have Ws : WS Z h45 ((p :: P) ++ (p' :: P')) := WS.app (W36.ext E45) W45 (fun a ha b hb => Nat.lt_of_lt_of_le (R36 a ha).2 (R45 b hb).1)
  have Z45 := ext_trans (ext_trans EZ E36) E45
  have hp : p ∈ (p :: P) ++ (p' :: P') := by simp
  have hp' : p' ∈ (p :: P) ++ (p' :: P') := by simp
  have hP : ∀ q ∈ P, q ∈ (p :: P) ++ (p' :: P') := fun q hq => List.mem_append_left _ (List.mem_cons_of_mem _ hq)
  have hP' : ∀ q ∈ P', q ∈ (p :: P) ++ (p' :: P') := fun q hq => List.mem_append_right _ (List.mem_cons_of_mem _ hq)
  have D45' := D36.ext E45
  refine g_astore (pc' := 50) (Ls' := #[_, _, _, _, _, _, _, _, _, _, _, _, _, _]) at_48 rfl rfl rfl ?_
  refine g_aload (pc' := 52) at_50 rfl rfl rfl ?_
  refine g_aload (pc' := 54) at_52 rfl rfl rfl ?_
  refine g_invokevirtualN (pc' := 57) [] [_] at_54 rfl (wl_TextHashCodePinLaw_44 hw) (wd_CollectionDocumentSText_equals_lLjavalangObjectrZ hw) (wv_CollectionDocumentSText_CollectionDocumentSText_equals_lLjavalangObjectrZ hw) (wm_CollectionDocumentSText_equals_lLjavalangObjectrZ hw) (by decide) (NF.sel (wv_CollectionDocumentSText_CollectionDocumentSText_equals_lLjavalangObjectrZ hw)) (D45'.1) (Pay.of_met (met_TxE hw S hz I Z45 Ws hp hp' hP hP' D45' D45) (wb_CollectionDocumentSText_equals_lLjavalangObjectrZ hw) (wi_CollectionDocumentSText hw) rfl rfl) pd_lLjavalangObjectrZ rfl rfl rfl rfl rfl (fun _ q => nomatch q) fun v54 h54 q54 l54 => ?_
  obtain ⟨⟨e, rfl, he⟩, E54⟩ := q54
  have W54 := Ws.ext E54
  have D54 := D45'.ext E54
  have D54' := D45.ext E54
  refine g_istore (pc' := 59) (Ls' := #[_, _, _, _, _, _, _, _, _, _, _, _, _, _]) at_57 rfl rfl ?_
  refine g_aload (pc' := 61) at_59 rfl rfl rfl ?_
  refine Go.old fun Z54 => ?_
  refine g_invokevirtualN (pc' := 64) [] [] at_61 rfl (wl_TextHashCodePinLaw_47 hw) (wd_CollectionDocumentSText_hashCode_lrI hw) (wv_CollectionDocumentSText_CollectionDocumentSText_hashCode_lrI hw) (wm_CollectionDocumentSText_hashCode_lrI hw) (by decide) (NF.sel (wv_CollectionDocumentSText_CollectionDocumentSText_hashCode_lrI hw)) (D54.1) (Pay.of_met (met_TxH hw S hz I Z54 W54 hp hP D54) (wb_CollectionDocumentSText_hashCode_lrI hw) (wi_CollectionDocumentSText hw) rfl rfl) pd_lrI rfl rfl rfl rfl rfl (fun _ q => nomatch q) fun v61 h61 q61 l61 => ?_
  obtain ⟨rfl, W61, T61⟩ := q61
  refine g_istore (pc' := 66) (Ls' := #[_, _, _, _, _, _, _, _, _, _, _, _, _, _]) at_64 rfl rfl ?_
  refine g_aload (pc' := 68) at_66 rfl rfl rfl ?_
  refine Go.old fun Z61 => ?_
  refine g_invokevirtualN (pc' := 71) [] [] at_68 rfl (wl_TextHashCodePinLaw_47 hw) (wd_CollectionDocumentSText_hashCode_lrI hw) (wv_CollectionDocumentSText_CollectionDocumentSText_hashCode_lrI hw) (wm_CollectionDocumentSText_hashCode_lrI hw) (by decide) (NF.sel (wv_CollectionDocumentSText_CollectionDocumentSText_hashCode_lrI hw)) ((T61 _ _ _ D54).1) (Pay.of_met (met_TxH hw S hz I Z61 W61 hp hP (T61 _ _ _ D54)) (wb_CollectionDocumentSText_hashCode_lrI hw) (wi_CollectionDocumentSText hw) rfl rfl) pd_lrI rfl rfl rfl rfl rfl (fun _ q => nomatch q) fun v68 h68 q68 l68 => ?_
  obtain ⟨rfl, W68, T68⟩ := q68
  refine g_istore (pc' := 73) (Ls' := #[_, _, _, _, _, _, _, _, _, _, _, _, _, _]) at_71 rfl rfl ?_
  refine g_aload (pc' := 75) at_73 rfl rfl rfl ?_
  refine Go.old fun Z68 => ?_
  refine g_invokevirtualN (pc' := 78) [] [] at_75 rfl (wl_TextHashCodePinLaw_47 hw) (wd_CollectionDocumentSText_hashCode_lrI hw) (wv_CollectionDocumentSText_CollectionDocumentSText_hashCode_lrI hw) (wm_CollectionDocumentSText_hashCode_lrI hw) (by decide) (NF.sel (wv_CollectionDocumentSText_CollectionDocumentSText_hashCode_lrI hw)) ((T68 _ _ _ (T61 _ _ _ D54')).1) (Pay.of_met (met_TxH hw S hz I Z68 W68 hp' hP' (T68 _ _ _ (T61 _ _ _ D54'))) (wb_CollectionDocumentSText_hashCode_lrI hw) (wi_CollectionDocumentSText hw) rfl rfl) pd_lrI rfl rfl rfl rfl rfl (fun _ q => nomatch q) fun v75 h75 q75 l75 => ?_
  obtain ⟨rfl, W75, T75⟩ := q75
  refine g_istore (pc' := 80) (Ls' := #[_, _, _, _, _, _, _, _, _, _, _, _, _, _]) at_78 rfl rfl ?_
  refine g_iload (pc' := 82) at_80 rfl rfl ?_
  refine g_iload (pc' := 84) at_82 rfl rfl ?_
  refine g_icmpne (pc' := 87) (pc2 := 103) at_84 rfl (by decide) rfl (fun c84 => ?_) (fun c84 => False.elim (c84 rfl))
  refine g_iload (pc' := 89) at_87 rfl rfl ?_
  rcases he with ⟨rfl, e1, e2⟩ | rfl
  · refine g_ifeq (pc' := 92) (pc2 := 99) at_89 rfl (by decide) rfl (fun c89 => ?_) (fun c89 => False.elim (absurd c89 (by decide)))
    refine g_iload (pc' := 94) at_92 rfl rfl ?_
    refine g_iload (pc' := 96) at_94 rfl rfl ?_
    refine g_icmpne (pc' := 99) (pc2 := 103) at_96 rfl (by decide) rfl (fun c96 => ?_) (fun c96 => False.elim (c96 (by rw [e1, e2])))
    refine g_iconst (pc' := 100) (w := 1) at_99 rfl (by decide) ?_
    refine g_goto (pc' := 104) at_100 (by decide) rfl ?_
    refine g_ireturn (t := .boolean) at_104 rfl (by simp) rfl rfl rfl (rfl)
  · refine g_ifeq (pc' := 92) (pc2 := 99) at_89 rfl (by decide) rfl (fun c89 => False.elim (c89 rfl)) (fun c89 => ?_)
    refine g_iconst (pc' := 100) (w := 1) at_99 rfl (by decide) ?_
    refine g_goto (pc' := 104) at_100 (by decide) rfl ?_
    refine g_ireturn (t := .boolean) at_104 rfl (by simp) rfl rfl rfl (rfl)
theorem met_law (hw : ∀ d ∈ tables_1, d.before a0 Z = true) (S : Sta Z Z.heap "java/lang/String" "COMPACT_STRINGS" "Z" (.int z)) (hz : ¬ z = 0) {d el em mir : Addr} (DA : DefA Z d) (I : ICS Z el em) (M : Mir Z mir) (ws : List Jvm.Cond) (p0 p1 p2 p3 p4 : Int32) :
    MetW ws l x code maxLocals ret room_1 #[.int p0, .int p1, .int p2, .int p3, .int p4] Z a0 consts_1 false [] h (fun v h' => v = some (.int 1)) := by
  refine MetW.of (by first | exact plainFor_of_name (by first | (simp [plainName, overriddenIn]; done) | decide +kernel) | decide +kernel) fun X hX => Go.old fun EZ => ?_
  show Go X _ _ _ _ _ _ _ _ _ _ _ _ _ _ _ _ (mkF X.m 0 #[.val (.int p0), .val (.int p1), .val (.int p2), .val (.int p3), .val (.int p4), .unset, .unset, .unset, .unset, .unset, .unset, .unset, .unset, .unset] [])
  refine g_iload (pc' := 2) at_0 rfl rfl ?_
  refine g_iconst (pc' := 3) (w := 3) at_2 rfl (by decide) ?_
  refine g_iand (pc' := 4) at_3 rfl ?_
  refine g_istore (pc' := 6) (Ls' := #[_, _, _, _, _, _, _, _, _, _, _, _, _, _]) at_4 rfl rfl ?_
  refine g_iload (pc' := 8) at_6 rfl rfl ?_
  refine g_iconst (pc' := 9) (w := 1) at_8 rfl (by decide) ?_
  refine g_iand (pc' := 10) at_9 rfl ?_
  refine g_ifne (pc' := 13) (pc2 := 17) at_10 rfl (by decide) rfl (fun c10 => ?_) (fun c10 => ?_)
  · refine g_iloadN (pc' := 14) at_13 rfl rfl ?_
    refine g_goto (pc' := 18) at_14 (by decide) rfl ?_
    refine g_istore (pc' := 20) (Ls' := #[_, _, _, _, _, _, _, _, _, _, _, _, _, _]) at_18 rfl rfl ?_
    refine g_iload (pc' := 22) at_20 rfl rfl ?_
    refine g_iconst (pc' := 23) (w := 2) at_22 rfl (by decide) ?_
    refine g_iand (pc' := 24) at_23 rfl ?_
    refine g_ifne (pc' := 27) (pc2 := 31) at_24 rfl (by decide) rfl (fun c24 => ?_) (fun c24 => ?_)
    · refine g_iloadN (pc' := 28) at_27 rfl rfl ?_
      refine g_goto (pc' := 32) at_28 (by decide) rfl ?_
      refine g_istore (pc' := 34) (Ls' := #[_, _, _, _, _, _, _, _, _, _, _, _, _, _]) at_32 rfl rfl ?_
      exact law_C hX hw S hz DA I M EZ _ _ _ _ _ _ _ _
    · refine g_iloadN (pc' := 32) at_31 rfl rfl ?_
      refine g_istore (pc' := 34) (Ls' := #[_, _, _, _, _, _, _, _, _, _, _, _, _, _]) at_32 rfl rfl ?_
      exact law_C hX hw S hz DA I M EZ _ _ _ _ _ _ _ _
  · refine g_iloadN (pc' := 18) at_17 rfl rfl ?_
    refine g_istore (pc' := 20) (Ls' := #[_, _, _, _, _, _, _, _, _, _, _, _, _, _]) at_18 rfl rfl ?_
    refine g_iload (pc' := 22) at_20 rfl rfl ?_
    refine g_iconst (pc' := 23) (w := 2) at_22 rfl (by decide) ?_
    refine g_iand (pc' := 24) at_23 rfl ?_
    refine g_ifne (pc' := 27) (pc2 := 31) at_24 rfl (by decide) rfl (fun c24 => ?_) (fun c24 => ?_)
    · refine g_iloadN (pc' := 28) at_27 rfl rfl ?_
      refine g_goto (pc' := 32) at_28 (by decide) rfl ?_
      refine g_istore (pc' := 34) (Ls' := #[_, _, _, _, _, _, _, _, _, _, _, _, _, _]) at_32 rfl rfl ?_
      exact law_C hX hw S hz DA I M EZ _ _ _ _ _ _ _ _
    · refine g_iloadN (pc' := 32) at_31 rfl rfl ?_
      refine g_istore (pc' := 34) (Ls' := #[_, _, _, _, _, _, _, _, _, _, _, _, _, _]) at_32 rfl rfl ?_
      exact law_C hX hw S hz DA I M EZ _ _ _ _ _ _ _ _
end Law
set_option maxRecDepth 65536 in
set_option maxHeartbeats 40000000 in
theorem comes_1 {Post : Tables → Env → Array Value → State → Outcome → State → Prop} (hpost : ∀ tb e args s v u, (limb_1_1.after args s (.returned v) u = true ∧ limb_1_2.after args s (.returned v) u = true ∧ True) → ReturnedEndW s (.returned v) u (Jvm.fieldLocs frame_1_writes args s ++ Jvm.arrayLocs frame_1_arrays args s ++ Jvm.staticLocs frame_1_statics s) 72 1280 → Post tb e args s (.returned v) u) :
    ArmFor flags0 classFile x code maxLocals ret World_1 tables_1 room_1 Calls_1 rest_1 Pre_1 Post := by
  intro l hfl _ _ p e ha hc hk s m args below hf hA hF happ hP
  obtain ⟨hcalls, hrest, hpre⟩ := hP
  obtain ⟨-, -, -, hnamed, -, -, -, hat⟩ := (Spec.applies_iff hf).mp happ
  obtain ⟨hg, hn⟩ := and_e (Cond.before_iff.mp (show (Jvm.Cond.and given_1 narrow_1).before args s = true from hpre))
  obtain ⟨hcount, hg⟩ := and_e hg
  obtain ⟨g0, hg⟩ := and_e hg
  obtain ⟨g1, hg⟩ := and_e hg
  obtain ⟨g2, hg⟩ := and_e hg
  obtain ⟨g3, hg⟩ := and_e hg
  have g4 := hg
  obtain ⟨w0, w1, w2, w3, w4, rfl⟩ : ∃ w0 w1 w2 w3 w4 : Value, args = #[w0, w1, w2, w3, w4] := by
    have hs : args.size = 5 := by simpa [Cond.value, given_1] using hcount
    obtain ⟨L⟩ := args
    match L, hs with
    | [w0, w1, w2, w3, w4], _ => exact ⟨w0, w1, w2, w3, w4, rfl⟩
  have hw := fun d (hd : d ∈ tables_1) => atoms_spec (ws := Jvm.Cond.code x code maxLocals ret :: tables_1) hat d (List.mem_cons_of_mem _ hd)
  obtain ⟨hsets, hown0⟩ := atoms_of _ (rest_1_c_eq ▸ (show rest_1_c.before _ s = true from hrest))
  have hfit : Fit s := fun {y c} hc i hi => by
    obtain ⟨ha, rfl⟩ := Array.getElem?_eq_some_iff.mp hc
    have q := List.all_eq_true.mp ((Array.all_eq_true_iff_forall_mem.mp hF) _ (Array.getElem_mem ha)) i (List.mem_range.mpr hi)
    simpa [Array.getElem?_eq_getElem hi] using q
  obtain ⟨i0, e0⟩ := is_v g0
  obtain rfl : w0 = (.int i0) := Option.some.inj e0
  obtain ⟨i1, e1⟩ := is_v g1
  obtain rfl : w1 = (.int i1) := Option.some.inj e1
  obtain ⟨i2, e2⟩ := is_v g2
  obtain rfl : w2 = (.int i2) := Option.some.inj e2
  obtain ⟨i3, e3⟩ := is_v g3
  obtain rfl : w3 = (.int i3) := Option.some.inj e3
  obtain ⟨i4, e4⟩ := is_v g4
  obtain rfl : w4 = (.int i4) := Option.some.inj e4
  have n5 := not_v (Cond.before_iff.mp (hsets _ (List.mem_of_getElem? (i := 18) rfl)))
  obtain ⟨zc, ezc⟩ := is_v (Cond.before_iff.mp (hsets _ (List.mem_of_getElem? (i := 17) rfl)))
  have S12 : Sta s s.heap "java/lang/String" "COMPACT_STRINGS" "Z" (.int zc) := Sta.start ezc (Or.inl (hsets _ (List.mem_of_getElem? (i := 16) rfl)))
  have c17 : ¬ (zc = (0 : Int32)) := gotF (Cond.eq_ints ezc (Term.int_eval (0))) n5
  obtain ⟨vf, evf, rvf⟩ := isR_v (Cond.before_iff.mp (hsets _ (List.mem_of_getElem? (i := 24) rfl)))
  have S16 : Sta s s.heap "jdk/internal/util/Preconditions" "SIOOBE_FORMATTER" "Ljava/util/function/BiFunction;" vf := Sta.start evf (Or.inl (hsets _ (List.mem_of_getElem? (i := 23) rfl)))
  obtain ⟨dd, _, _, _, edd, -⟩ := Cond.exactly_spec (hsets _ (List.mem_of_getElem? (i := 7) rfl))
  have DA : DefA s dd := ⟨Sta.start edd (Or.inr ⟨wi_ArrayList hw, hsets _ (List.mem_of_getElem? (i := 2) rfl)⟩), arr0 hfit (hsets _ (List.mem_of_getElem? (i := 6) rfl)) (hsets _ (List.mem_of_getElem? (i := 8) rfl)) edd⟩
  obtain ⟨el, _, _, _, eel, -⟩ := Cond.exactly_spec (hsets _ (List.mem_of_getElem? (i := 11) rfl))
  obtain ⟨em, _, _, _, eem, -⟩ := Cond.exactly_spec (hsets _ (List.mem_of_getElem? (i := 27) rfl))
  obtain ⟨ee, _, _, _, eee, -⟩ := Cond.exactly_spec (hsets _ (List.mem_of_getElem? (i := 13) rfl))
  obtain ⟨kee, Aee⟩ := arr0 hfit (hsets _ (List.mem_of_getElem? (i := 12) rfl)) (hsets _ (List.mem_of_getElem? (i := 14) rfl)) eee
  have Fee : Fld s s.heap el LNN "elements" OAD (.ref ee) := Fld.start (by first | exact (fld_at eel).symm.trans eee | simpa [Term.eval, eel] using eee)
  have IC : ICS s el em := ⟨Sta.start eel (Or.inl (hsets _ (List.mem_of_getElem? (i := 10) rfl))), Sta.start eem (Or.inl (hsets _ (List.mem_of_getElem? (i := 26) rfl))), Exa.start eel (Cond.before_iff.mp (hsets _ (List.mem_of_getElem? (i := 11) rfl))), Exa.start eem (Cond.before_iff.mp (hsets _ (List.mem_of_getElem? (i := 27) rfl))), ee, kee, Fee, Aee⟩
  obtain ⟨cO, kO, mir, mm1, mm2, mm3, -⟩ := hcalls.1
  have MI : Mir s mir := ⟨cO, kO, mm1, mm2, mm3⟩
  have hheld : ∀ p ∈ consts_1, Jvm.Lit.constHeld s p.1 p.2 := fun p hp => hcalls.2.1 p hp
  have hcw : Jvm.Lit.compactW.before _ s = true := hsets _ (List.mem_of_getElem? (i := 18) rfl)
  have hEL : EW s _ consts_1 := EW.cons (wt_String_7 hw) (by decide) (EW.nil)
  have hCH : CHv s consts_1 s.vm s.heap := CHv.start hEL hheld hcw (wa_byte hw) (wn_String hw)
  obtain ⟨n, o, h1, h2, h3, _, L, rfl, ⟨rfl, N, -⟩, -, -, hq⟩ := met_law (l := l) hw S12 c17 DA IC MI tables_1 i0 i1 i2 i3 i4 p e ha hc hk s m _ below hf ((Spec.applies_iff_loose hf).mp happ).1 ⟨rfl, State.Warmed39.refl s, rfl, hCH, ext_refl _, hEL, fun _ q => nomatch q⟩ trivial
  refine ⟨n, _, h1, h2, h3, hpost _ _ _ _ _ _ ⟨Cond.after_iff.mpr rfl, Cond.after_iff.mpr (eq_i res_at (Term.int_eval (1)) rfl), trivial⟩ ⟨hq.1, hq.2.1, hq.2.2.1, (hq.2.2.2.sift fun y hy => Or.inr (N y hy)).mono (by decide) (by decide)⟩⟩
theorem main_1_1 : Claimed_1_1 := comes_1 fun _ _ _ _ _ _ h hF => ⟨h.1, hF⟩
theorem main_1_2 : Claimed_1_2 := comes_1 fun _ _ _ _ _ _ h hF => ⟨h.2.1, hF⟩
end Jvm.Pilot.@@N@@
namespace Jvm.Pilot.@@N@@
open Jvm Jvm.ClassFile Sem Op Lib Jvm.Free Jvm.Stand Jvm.Pilot.@@N@@.Jvm.D
/-! MADE BY PROGRAM (witnessworld.py) out of the Statement's table words and the real class files: 42 classes; the members and pool entries that the words name. The judged class is class 1, her method 4. -/
namespace start1
open Jvm.ClassFile
def u (s : String) : CpInfo := .utf8 (stringToUtf16 s)
/-- a pool by its gaps: so many unusable entries, then the entry; so many at the end -/
def gap : Nat → List CpInfo → List CpInfo
  | 0, r => r
  | n + 1, r => .unusable :: gap n r
def poolList (es : List (Nat × CpInfo)) (last : Nat) : List CpInfo := es.foldr (fun e r => gap e.1 (e.2 :: r)) (gap last [])
def pool (es : List (Nat × CpInfo)) (last : Nat) : Array CpInfo := ⟨poolList es last⟩
def fileOf (pool : Array CpInfo) (this : Nat) (attrs : Array Attribute := #[]) (ms : Array MethodInfo := #[]) (fl : Nat := 33) (sup : Nat := 0) (ifs : Array Nat := #[]) (fds : Array FieldInfo := #[]) : ClassFile where
  minorVersion := 0
  majorVersion := 65
  constantPool := pool
  accessFlags := fl
  thisClass := this
  superClass := sup
  interfaces := ifs
  fields := fds
  methods := ms
  attributes := attrs
def plain (name : String) (sup : Option ClassId) : Class where
  name := name
  kind := .ordinary
  loader := none
  accessFlags := 33
  super := sup
  interfaces := #[]
  cf := none
  fields := #[]
  methods := #[]
  instanceTypes := #[]
  staticTypes := #[]
  resolved := #[]
  callSites := []
  init := .initialized
  statics := none
  mirror := none

def pool0 : Array CpInfo := pool [(5, u "<init>"), (0, u "()V"), (1, .class_ 10), (1, u "java/lang/Object"), (0, u "getClass"), (0, u "()Ljava/lang/Class;"), (14, u "hashCode"), (0, u "()I"), (63, u "equals"), (0, u "(Ljava/lang/Object;)Z")] 30

def k0c0 : Code := { maxStack := 0, maxLocals := 1, code := object_method_1_code, exceptionTable := #[], attributes := #[] }
def k0m0 : Method := { name := "<init>", desc := "()V", sig := { parameters := [], returnType := none }, accessFlags := 1, code := some k0c0 }
def k0m1 : Method := { name := "getClass", desc := "()Ljava/lang/Class;", sig := { parameters := [], returnType := some (.object "java/lang/Class") }, accessFlags := 273, code := none }
def k0m2 : Method := { name := "hashCode", desc := "()I", sig := { parameters := [], returnType := some .int }, accessFlags := 257, code := none }
def k0c3 : Code := { maxStack := 2, maxLocals := 2, code := ⟨#[0x2a, 0x2b, 0xa6, 0x00, 0x07, 0x04, 0xa7, 0x00, 0x04, 0x03, 0xac]⟩, exceptionTable := #[], attributes := #[] }
def k0m3 : Method := { name := "equals", desc := "(Ljava/lang/Object;)Z", sig := { parameters := [(.object "java/lang/Object")], returnType := some .boolean }, accessFlags := 1, code := some k0c3 }
/-- java/lang/Object -/
def k0 : Class := { plain "java/lang/Object" none with
  accessFlags := 33
  interfaces := #[]
  cf := some (fileOf pool0 8 #[] #[{ accessFlags := 1, nameIndex := 5, descriptorIndex := 6, attributes := #[] }, { accessFlags := 273, nameIndex := 11, descriptorIndex := 12, attributes := #[] }, { accessFlags := 257, nameIndex := 27, descriptorIndex := 28, attributes := #[] }, { accessFlags := 1, nameIndex := 92, descriptorIndex := 93, attributes := #[] }] 33 0 #[] #[])
  fields := #[]
  methods := #[k0m0, k0m1, k0m2, k0m3]
  instanceTypes := #[]
  staticTypes := #[]
  resolved := Array.replicate 124 none
  statics := none }

def pool1 : Array CpInfo := pool [(2, .class_ 4), (0, .nameAndType 5 6), (0, u "java/lang/Object"), (0, u "<init>"), (0, u "()V"), (0, .class_ 8), (0, u "java/lang/String"), (0, .methodref 7 10), (0, .nameAndType 5 11), (0, u "([C)V"), (0, .class_ 13), (0, u "java/util/ArrayList"), (0, .methodref 12 3), (0, .methodref 7 16), (0, .nameAndType 17 18), (0, u "valueOf"), (0, u "(C)Ljava/lang/String;"), (0, .interfaceMethodref 20 21), (0, .class_ 22), (0, .nameAndType 23 24), (0, u "java/util/List"), (0, u "add"), (0, u "(Ljava/lang/Object;)Z"), (0, .class_ 26), (0, u "com/example/simple_rocchio/simplerocchio/CollectionDocument$Text"), (0, .methodref 28 29), (0, .class_ 30), (0, .nameAndType 31 32), (0, u "com/example/simple_rocchio/simplerocchio/TextHashCodePinLaw"), (0, u "str"), (0, u "(II)Ljava/lang/String;"), (0, .methodref 28 34), (0, .nameAndType 35 36), (0, u "fields"), (0, u "(I)Ljava/util/List;"), (0, .methodref 25 38), (0, .nameAndType 5 39), (0, u "(Ljava/lang/String;Ljava/util/List;)V"), (0, .methodref 28 41), (0, .nameAndType 42 43), (0, u "make"), (0, u "(II)Lcom/example/simple_rocchio/simplerocchio/CollectionDocument$Text;"), (0, .methodref 25 45), (0, .nameAndType 46 24), (0, u "equals"), (0, .methodref 25 48), (0, .nameAndType 49 50), (0, u "hashCode"), (0, u "()I"), (5, u "law"), (0, u "(IIIII)Z")] 6

def k1m0 : Method := { name := "<init>", desc := "()V", sig := { parameters := [], returnType := none }, accessFlags := 2, code := none }
def k1c1 : Code := { maxStack := 7, maxLocals := 2, code := method_2_code, exceptionTable := #[], attributes := #[] }
def k1m1 : Method := { name := "str", desc := "(II)Ljava/lang/String;", sig := { parameters := [.int, .int], returnType := some (.object "java/lang/String") }, accessFlags := 10, code := some k1c1 }
def k1c2 : Code := { maxStack := 3, maxLocals := 3, code := method_3_code, exceptionTable := #[], attributes := #[] }
def k1m2 : Method := { name := "fields", desc := "(I)Ljava/util/List;", sig := { parameters := [.int], returnType := some (.object "java/util/List") }, accessFlags := 10, code := some k1c2 }
def k1c3 : Code := { maxStack := 4, maxLocals := 2, code := method_4_code, exceptionTable := #[], attributes := #[] }
def k1m3 : Method := { name := "make", desc := "(II)Lcom/example/simple_rocchio/simplerocchio/CollectionDocument$Text;", sig := { parameters := [.int, .int], returnType := some (.object "com/example/simple_rocchio/simplerocchio/CollectionDocument$Text") }, accessFlags := 10, code := some k1c3 }
def k1c4 : Code := { maxStack := 2, maxLocals := 14, code := code, exceptionTable := #[], attributes := #[] }
def k1m4 : Method := { name := "law", desc := "(IIIII)Z", sig := { parameters := [.int, .int, .int, .int, .int], returnType := some .boolean }, accessFlags := 9, code := some k1c4 }
/-- com/example/simple_rocchio/simplerocchio/TextHashCodePinLaw -/
def k1 : Class := { plain "com/example/simple_rocchio/simplerocchio/TextHashCodePinLaw" (some 0) with
  accessFlags := 49
  interfaces := #[]
  cf := some (fileOf pool1 28 #[] #[{ accessFlags := 2, nameIndex := 5, descriptorIndex := 6, attributes := #[] }, { accessFlags := 10, nameIndex := 31, descriptorIndex := 32, attributes := #[] }, { accessFlags := 10, nameIndex := 35, descriptorIndex := 36, attributes := #[] }, { accessFlags := 10, nameIndex := 42, descriptorIndex := 43, attributes := #[] }, { accessFlags := 9, nameIndex := 56, descriptorIndex := 57, attributes := #[] }] 49 2 #[] #[])
  fields := #[]
  methods := #[k1m0, k1m1, k1m2, k1m3, k1m4]
  instanceTypes := #[]
  staticTypes := #[]
  resolved := Array.replicate 64 none
  statics := none }

def pool2 : Array CpInfo := pool [(1, .methodref 2 3), (0, .class_ 4), (0, .nameAndType 5 6), (0, u "java/lang/Object"), (0, u "<init>"), (0, u "()V"), (0, .fieldref 8 9), (0, .class_ 10), (0, .nameAndType 11 12), (0, u "com/example/simple_rocchio/simplerocchio/CollectionDocument$Text"), (0, u "mText"), (0, u "Ljava/lang/String;"), (0, .interfaceMethodref 14 15), (0, .class_ 16), (0, .nameAndType 17 18), (0, u "java/util/List"), (0, u "copyOf"), (0, u "(Ljava/util/Collection;)Ljava/util/List;"), (0, .fieldref 8 20), (0, .nameAndType 21 22), (0, u "mFields"), (0, u "Ljava/util/List;"), (0, .methodref 24 25), (0, .class_ 26), (0, .nameAndType 27 28), (0, u "java/lang/String"), (0, u "equals"), (0, u "(Ljava/lang/Object;)Z"), (0, .interfaceMethodref 14 25), (0, .methodref 31 32), (0, .class_ 33), (0, .nameAndType 34 35), (0, u "java/util/Objects"), (0, u "hash"), (0, u "([Ljava/lang/Object;)I"), (10, u "(Ljava/lang/String;Ljava/util/List;)V"), (9, u "hashCode"), (0, u "()I"), (4, .class_ 63), (0, u "com/example/simple_rocchio/simplerocchio/CollectionDocument")] 16

def k2c0 : Code := { maxStack := 2, maxLocals := 3, code := prog_3_method_1_code, exceptionTable := #[], attributes := #[] }
def k2m0 : Method := { name := "<init>", desc := "(Ljava/lang/String;Ljava/util/List;)V", sig := { parameters := [(.object "java/lang/String"), (.object "java/util/List")], returnType := none }, accessFlags := 1, code := some k2c0 }
def k2c1 : Code := { maxStack := 2, maxLocals := 3, code := prog_3_method_4_code, exceptionTable := #[], attributes := #[] }
def k2m1 : Method := { name := "equals", desc := "(Ljava/lang/Object;)Z", sig := { parameters := [(.object "java/lang/Object")], returnType := some .boolean }, accessFlags := 1, code := some k2c1 }
def k2c2 : Code := { maxStack := 4, maxLocals := 1, code := prog_3_method_5_code, exceptionTable := #[], attributes := #[] }
def k2m2 : Method := { name := "hashCode", desc := "()I", sig := { parameters := [], returnType := some .int }, accessFlags := 1, code := some k2c2 }
/-- com/example/simple_rocchio/simplerocchio/CollectionDocument$Text -/
def k2 : Class := { plain "com/example/simple_rocchio/simplerocchio/CollectionDocument$Text" (some 0) with
  accessFlags := 49
  interfaces := #[]
  cf := some (fileOf pool2 8 #[.nestHost 62] #[{ accessFlags := 1, nameIndex := 5, descriptorIndex := 46, attributes := #[] }, { accessFlags := 1, nameIndex := 27, descriptorIndex := 28, attributes := #[] }, { accessFlags := 1, nameIndex := 56, descriptorIndex := 57, attributes := #[] }] 49 2 #[] #[{ accessFlags := 18, nameIndex := 11, descriptorIndex := 12, attributes := #[] }, { accessFlags := 18, nameIndex := 21, descriptorIndex := 22, attributes := #[] }])
  fields := #[{ name := "mText", type := (.object "java/lang/String"), accessFlags := 18, slot := 0, constantValue := 0 }, { name := "mFields", type := (.object "java/util/List"), accessFlags := 18, slot := 1, constantValue := 0 }]
  methods := #[k2m0, k2m1, k2m2]
  instanceTypes := #[(.object "java/lang/String"), (.object "java/util/List")]
  staticTypes := #[]
  resolved := Array.replicate 80 none
  statics := none }

def pool3 : Array CpInfo := pool [(1, .class_ 2), (0, u "java/io/Serializable"), (0, .class_ 4), (0, u "java/lang/Object")] 2

/-- java/io/Serializable -/
def k3 : Class := { plain "java/io/Serializable" (some 0) with
  accessFlags := 1537
  interfaces := #[]
  cf := some (fileOf pool3 1 #[] #[] 1537 3 #[] #[])
  fields := #[]
  methods := #[]
  instanceTypes := #[]
  staticTypes := #[]
  resolved := Array.replicate 7 none
  statics := none }

def pool4 : Array CpInfo := pool [(1, .class_ 2), (0, u "java/lang/Comparable"), (0, .class_ 4), (0, u "java/lang/Object")] 7

/-- java/lang/Comparable -/
def k4 : Class := { plain "java/lang/Comparable" (some 0) with
  accessFlags := 1537
  interfaces := #[]
  cf := some (fileOf pool4 1 #[] #[] 1537 3 #[] #[])
  fields := #[]
  methods := #[]
  instanceTypes := #[]
  staticTypes := #[]
  resolved := Array.replicate 12 none
  statics := none }

def pool5 : Array CpInfo := pool [(2, .class_ 4), (1, u "java/lang/CharSequence"), (42, .class_ 48), (0, u "java/lang/CharSequence$1CodePointIterator"), (10, .class_ 60), (0, u "java/lang/CharSequence$1CharIterator"), (5, .class_ 67), (0, u "java/lang/Object")] 63

/-- java/lang/CharSequence -/
def k5 : Class := { plain "java/lang/CharSequence" (some 0) with
  accessFlags := 1537
  interfaces := #[]
  cf := some (fileOf pool5 2 #[.nestMembers #[47, 59]] #[] 1537 66 #[] #[])
  fields := #[]
  methods := #[]
  instanceTypes := #[]
  staticTypes := #[]
  resolved := Array.replicate 131 none
  statics := none }

def pool6 : Array CpInfo := pool [(1, .class_ 2), (0, u "java/lang/constant/Constable"), (0, .class_ 4), (0, u "java/lang/Object")] 6

/-- java/lang/constant/Constable -/
def k6 : Class := { plain "java/lang/constant/Constable" (some 0) with
  accessFlags := 1537
  interfaces := #[]
  cf := some (fileOf pool6 1 #[] #[] 1537 3 #[] #[])
  fields := #[]
  methods := #[]
  instanceTypes := #[]
  staticTypes := #[]
  resolved := Array.replicate 11 none
  statics := none }

def pool7 : Array CpInfo := pool [(1, .class_ 2), (0, u "java/lang/constant/ConstantDesc"), (0, .class_ 4), (0, u "java/lang/Object")] 32

/-- java/lang/constant/ConstantDesc -/
def k7 : Class := { plain "java/lang/constant/ConstantDesc" (some 0) with
  accessFlags := 1537
  interfaces := #[]
  cf := some (fileOf pool7 1 #[] #[] 1537 3 #[] #[])
  fields := #[]
  methods := #[]
  instanceTypes := #[]
  staticTypes := #[]
  resolved := Array.replicate 37 none
  statics := none }

def pool8 : Array CpInfo := pool [(1, .methodref 2 3), (0, .class_ 4), (0, .nameAndType 5 6), (0, u "java/lang/Object"), (0, u "<init>"), (0, u "()V"), (0, .string 8), (0, u ""), (0, .fieldref 10 11), (0, .class_ 12), (0, .nameAndType 13 14), (0, u "java/lang/String"), (0, u "value"), (0, u "[B"), (0, .fieldref 10 16), (0, .nameAndType 17 18), (0, u "coder"), (0, u "B"), (0, .fieldref 10 20), (0, .nameAndType 21 22), (0, u "hash"), (0, u "I"), (0, .fieldref 10 24), (0, .nameAndType 25 26), (0, u "hashIsZero"), (0, u "Z"), (0, .methodref 10 28), (0, .nameAndType 5 29), (0, u "([CIILjava/lang/Void;)V"), (8, .fieldref 10 39), (0, .nameAndType 40 26), (0, u "COMPACT_STRINGS"), (1, .class_ 44), (1, u "java/lang/StringUTF16"), (0, u "compress"), (1, .methodref 42 48), (0, .nameAndType 49 50), (0, u "coderFromArrayLen"), (0, u "([BI)B"), (2, u "toBytes"), (53, .class_ 109), (1, u "java/lang/StringLatin1"), (32, u "()Z"), (34, .methodref 42 178), (0, .nameAndType 45 179), (0, u "([CII)[B"), (29, .methodref 10 210), (0, .nameAndType 5 211), (0, u "([BB)V"), (122, u "()I"), (34, u "(C)Z"), (122, .methodref 10 493), (0, .nameAndType 494 142), (0, u "isLatin1"), (46, .methodref 107 542), (0, .nameAndType 543 544), (0, u "equals"), (0, u "([B[B)Z"), (28, u "(Ljava/lang/Object;)Z"), (1, .class_ 576), (0, u "java/lang/CharSequence"), (22, u "CASE_INSENSITIVE_ORDER"), (0, u "Ljava/util/Comparator;"), (27, .methodref 107 629), (0, .nameAndType 630 631), (0, u "hashCode"), (0, u "([B)I"), (150, u "valueOf"), (0, u "(C)Ljava/lang/String;"), (226, u "([C)V"), (4, .methodref 107 1016), (0, .nameAndType 1017 369), (0, u "canEncode"), (0, .methodref 107 1019), (0, .nameAndType 53 1020), (0, u "(C)[B"), (80, u "serialPersistentFields"), (0, u "[Ljava/io/ObjectStreamField;"), (0, .class_ 1104), (0, u "java/lang/String$CaseInsensitiveComparator"), (1, .class_ 1107), (0, u "java/io/Serializable"), (0, .class_ 1109), (0, u "java/lang/Comparable"), (0, .class_ 1111), (0, u "java/lang/constant/Constable"), (0, .class_ 1113), (0, u "java/lang/constant/ConstantDesc"), (2, u "serialVersionUID"), (0, u "J"), (3, u "REPL"), (0, u "C"), (2, u "LATIN1"), (1, u "UTF16")] 323

def k8m0 : Method := { name := "<init>", desc := "()V", sig := { parameters := [], returnType := none }, accessFlags := 1, code := none }
def k8c1 : Code := { maxStack := 5, maxLocals := 2, code := jdk_42_method_3_code, exceptionTable := #[], attributes := #[] }
def k8m1 : Method := { name := "<init>", desc := "([C)V", sig := { parameters := [(.array .char)], returnType := none }, accessFlags := 1, code := some k8c1 }
def k8c2 : Code := { maxStack := 2, maxLocals := 3, code := jdk_42_method_66_code, exceptionTable := #[], attributes := #[] }
def k8m2 : Method := { name := "equals", desc := "(Ljava/lang/Object;)Z", sig := { parameters := [(.object "java/lang/Object")], returnType := some .boolean }, accessFlags := 1, code := some k8c2 }
def k8c3 : Code := { maxStack := 2, maxLocals := 2, code := jdk_42_method_78_code, exceptionTable := #[], attributes := #[] }
def k8m3 : Method := { name := "hashCode", desc := "()I", sig := { parameters := [], returnType := some .int }, accessFlags := 1, code := some k8c3 }
def k8c4 : Code := { maxStack := 4, maxLocals := 1, code := jdk_42_method_139_code, exceptionTable := #[], attributes := #[] }
def k8m4 : Method := { name := "valueOf", desc := "(C)Ljava/lang/String;", sig := { parameters := [.char], returnType := some (.object "java/lang/String") }, accessFlags := 9, code := some k8c4 }
def k8c5 : Code := { maxStack := 4, maxLocals := 6, code := jdk_42_method_149_code, exceptionTable := #[], attributes := #[] }
def k8m5 : Method := { name := "<init>", desc := "([CIILjava/lang/Void;)V", sig := { parameters := [(.array .char), .int, .int, (.object "java/lang/Void")], returnType := none }, accessFlags := 2, code := some k8c5 }
def k8c6 : Code := { maxStack := 2, maxLocals := 3, code := jdk_42_method_151_code, exceptionTable := #[], attributes := #[] }
def k8m6 : Method := { name := "<init>", desc := "([BB)V", sig := { parameters := [(.array .byte), .byte], returnType := none }, accessFlags := 0, code := some k8c6 }
def k8c7 : Code := { maxStack := 1, maxLocals := 1, code := jdk_42_method_154_code, exceptionTable := #[], attributes := #[] }
def k8m7 : Method := { name := "isLatin1", desc := "()Z", sig := { parameters := [], returnType := some .boolean }, accessFlags := 0, code := some k8c7 }
/-- java/lang/String -/
def k8 : Class := { plain "java/lang/String" (some 0) with
  accessFlags := 49
  interfaces := #[3, 4, 5, 6, 7]
  cf := some (fileOf pool8 10 #[.nestMembers #[1103]] #[{ accessFlags := 1, nameIndex := 5, descriptorIndex := 6, attributes := #[] }, { accessFlags := 1, nameIndex := 5, descriptorIndex := 1010, attributes := #[] }, { accessFlags := 1, nameIndex := 543, descriptorIndex := 573, attributes := #[] }, { accessFlags := 1, nameIndex := 630, descriptorIndex := 334, attributes := #[] }, { accessFlags := 9, nameIndex := 782, descriptorIndex := 783, attributes := #[] }, { accessFlags := 2, nameIndex := 5, descriptorIndex := 29, attributes := #[] }, { accessFlags := 0, nameIndex := 5, descriptorIndex := 211, attributes := #[] }, { accessFlags := 0, nameIndex := 494, descriptorIndex := 142, attributes := #[] }] 49 2 #[1106, 1108, 575, 1110, 1112] #[{ accessFlags := 18, nameIndex := 13, descriptorIndex := 14, attributes := #[] }, { accessFlags := 18, nameIndex := 17, descriptorIndex := 18, attributes := #[] }, { accessFlags := 2, nameIndex := 21, descriptorIndex := 22, attributes := #[] }, { accessFlags := 2, nameIndex := 25, descriptorIndex := 26, attributes := #[] }, { accessFlags := 26, nameIndex := 1116, descriptorIndex := 1117, attributes := #[] }, { accessFlags := 24, nameIndex := 40, descriptorIndex := 26, attributes := #[] }, { accessFlags := 26, nameIndex := 1101, descriptorIndex := 1102, attributes := #[] }, { accessFlags := 26, nameIndex := 1121, descriptorIndex := 1122, attributes := #[] }, { accessFlags := 25, nameIndex := 599, descriptorIndex := 600, attributes := #[] }, { accessFlags := 24, nameIndex := 1125, descriptorIndex := 18, attributes := #[] }, { accessFlags := 24, nameIndex := 1127, descriptorIndex := 18, attributes := #[] }])
  fields := #[{ name := "value", type := (.array .byte), accessFlags := 18, slot := 0, constantValue := 0 }, { name := "coder", type := .byte, accessFlags := 18, slot := 1, constantValue := 0 }, { name := "hash", type := .int, accessFlags := 2, slot := 2, constantValue := 0 }, { name := "hashIsZero", type := .boolean, accessFlags := 2, slot := 3, constantValue := 0 }, { name := "serialVersionUID", type := .long, accessFlags := 26, slot := 0, constantValue := 0 }, { name := "COMPACT_STRINGS", type := .boolean, accessFlags := 24, slot := 1, constantValue := 0 }, { name := "serialPersistentFields", type := (.array (.object "java/io/ObjectStreamField")), accessFlags := 26, slot := 2, constantValue := 0 }, { name := "REPL", type := .char, accessFlags := 26, slot := 3, constantValue := 0 }, { name := "CASE_INSENSITIVE_ORDER", type := (.object "java/util/Comparator"), accessFlags := 25, slot := 4, constantValue := 0 }, { name := "LATIN1", type := .byte, accessFlags := 24, slot := 5, constantValue := 0 }, { name := "UTF16", type := .byte, accessFlags := 24, slot := 6, constantValue := 0 }]
  methods := #[k8m0, k8m1, k8m2, k8m3, k8m4, k8m5, k8m6, k8m7]
  instanceTypes := #[(.array .byte), .byte, .int, .boolean]
  staticTypes := #[.long, .boolean, (.array (.object "java/io/ObjectStreamField")), .char, (.object "java/util/Comparator"), .byte, .byte]
  resolved := Array.replicate 1451 none
  statics := some 0 }

def pool9 : Array CpInfo := pool [(8, .class_ 10), (1, u "java/lang/Iterable"), (24, .class_ 36), (0, u "java/lang/Object")] 25

/-- java/lang/Iterable -/
def k9 : Class := { plain "java/lang/Iterable" (some 0) with
  accessFlags := 1537
  interfaces := #[]
  cf := some (fileOf pool9 8 #[] #[] 1537 35 #[] #[])
  fields := #[]
  methods := #[]
  instanceTypes := #[]
  staticTypes := #[]
  resolved := Array.replicate 62 none
  statics := none }

def pool10 : Array CpInfo := pool [(10, .class_ 12), (1, u "java/util/Collection"), (0, u "toArray"), (16, u "()Z"), (29, .class_ 61), (0, u "java/lang/Object"), (0, .class_ 63), (0, u "java/lang/Iterable"), (2, u "isEmpty"), (3, u "()[Ljava/lang/Object;")] 44

def k10m0 : Method := { name := "isEmpty", desc := "()Z", sig := { parameters := [], returnType := some .boolean }, accessFlags := 1025, code := none }
def k10m1 : Method := { name := "toArray", desc := "()[Ljava/lang/Object;", sig := { parameters := [], returnType := some (.array (.object "java/lang/Object")) }, accessFlags := 1025, code := none }
/-- java/util/Collection -/
def k10 : Class := { plain "java/util/Collection" (some 0) with
  accessFlags := 1537
  interfaces := #[9]
  cf := some (fileOf pool10 10 #[] #[{ accessFlags := 1025, nameIndex := 66, descriptorIndex := 30, attributes := #[] }, { accessFlags := 1025, nameIndex := 13, descriptorIndex := 70, attributes := #[] }] 1537 60 #[62] #[])
  fields := #[]
  methods := #[k10m0, k10m1]
  instanceTypes := #[]
  staticTypes := #[]
  resolved := Array.replicate 115 none
  statics := none }

def pool11 : Array CpInfo := pool [(1, .methodref 2 3), (0, .class_ 4), (0, .nameAndType 5 6), (0, u "java/lang/Object"), (0, u "<init>"), (0, u "()V"), (1, .class_ 10), (1, u "java/util/AbstractCollection"), (0, u "size"), (0, u "()I"), (64, .class_ 78), (0, u "java/util/Collection")] 81

def k11c0 : Code := { maxStack := 1, maxLocals := 1, code := jdk_22_method_1_code, exceptionTable := #[], attributes := #[] }
def k11m0 : Method := { name := "<init>", desc := "()V", sig := { parameters := [], returnType := none }, accessFlags := 4, code := some k11c0 }
def k11m1 : Method := { name := "size", desc := "()I", sig := { parameters := [], returnType := some .int }, accessFlags := 1025, code := none }
/-- java/util/AbstractCollection -/
def k11 : Class := { plain "java/util/AbstractCollection" (some 0) with
  accessFlags := 1057
  interfaces := #[10]
  cf := some (fileOf pool11 8 #[] #[{ accessFlags := 4, nameIndex := 5, descriptorIndex := 6, attributes := #[] }, { accessFlags := 1025, nameIndex := 11, descriptorIndex := 12, attributes := #[] }] 1057 2 #[77] #[])
  fields := #[]
  methods := #[k11m0, k11m1]
  instanceTypes := #[]
  staticTypes := #[]
  resolved := Array.replicate 160 none
  statics := none }

def pool12 : Array CpInfo := pool [(8, .class_ 10), (1, u "java/util/SequencedCollection"), (15, .class_ 27), (0, u "java/lang/Object"), (0, .class_ 29), (0, u "java/util/Collection")] 27

/-- java/util/SequencedCollection -/
def k12 : Class := { plain "java/util/SequencedCollection" (some 0) with
  accessFlags := 1537
  interfaces := #[10]
  cf := some (fileOf pool12 8 #[] #[] 1537 26 #[28] #[])
  fields := #[]
  methods := #[]
  instanceTypes := #[]
  staticTypes := #[]
  resolved := Array.replicate 57 none
  statics := none }

def pool13 : Array CpInfo := pool [(8, .class_ 10), (1, u "java/util/List"), (20, u "(Ljava/lang/Object;)V"), (16, u "<init>"), (11, u "add"), (3, u "(Ljava/lang/Object;)Z"), (10, u "get"), (0, u "(I)Ljava/lang/Object;"), (11, u "of"), (1, .fieldref 91 92), (0, .class_ 93), (0, .nameAndType 94 95), (0, u "java/util/ImmutableCollections"), (0, u "EMPTY_LIST"), (0, u "Ljava/util/ImmutableCollections$ListN;"), (0, .class_ 97), (0, u "java/util/ImmutableCollections$List12"), (0, .methodref 96 99), (0, .nameAndType 48 31), (0, .methodref 96 101), (0, .nameAndType 48 102), (0, u "(Ljava/lang/Object;Ljava/lang/Object;)V"), (0, .class_ 104), (0, u "java/lang/Object"), (3, u "([Ljava/lang/Object;)Ljava/util/List;"), (3, .methodref 91 113), (0, .nameAndType 114 115), (0, u "listCopy"), (0, u "(Ljava/util/Collection;)Ljava/util/List;"), (3, u "()Ljava/util/List;"), (0, .class_ 121), (0, u "java/util/SequencedCollection"), (1, u "iterator"), (0, u "()Ljava/util/Iterator;"), (45, u "equals"), (63, u "copyOf")] 16

def k13m0 : Method := { name := "iterator", desc := "()Ljava/util/Iterator;", sig := { parameters := [], returnType := some (.object "java/util/Iterator") }, accessFlags := 1025, code := none }
def k13m1 : Method := { name := "add", desc := "(Ljava/lang/Object;)Z", sig := { parameters := [(.object "java/lang/Object")], returnType := some .boolean }, accessFlags := 1025, code := none }
def k13m2 : Method := { name := "equals", desc := "(Ljava/lang/Object;)Z", sig := { parameters := [(.object "java/lang/Object")], returnType := some .boolean }, accessFlags := 1025, code := none }
def k13m3 : Method := { name := "get", desc := "(I)Ljava/lang/Object;", sig := { parameters := [.int], returnType := some (.object "java/lang/Object") }, accessFlags := 1025, code := none }
def k13c4 : Code := { maxStack := 1, maxLocals := 0, code := jdk_40_method_36_code, exceptionTable := #[], attributes := #[] }
def k13m4 : Method := { name := "of", desc := "()Ljava/util/List;", sig := { parameters := [], returnType := some (.object "java/util/List") }, accessFlags := 9, code := some k13c4 }
def k13c5 : Code := { maxStack := 5, maxLocals := 2, code := jdk_40_method_47_code, exceptionTable := #[], attributes := #[] }
def k13m5 : Method := { name := "of", desc := "([Ljava/lang/Object;)Ljava/util/List;", sig := { parameters := [(.array (.object "java/lang/Object"))], returnType := some (.object "java/util/List") }, accessFlags := 137, code := some k13c5 }
def k13c6 : Code := { maxStack := 1, maxLocals := 1, code := jdk_40_method_48_code, exceptionTable := #[], attributes := #[] }
def k13m6 : Method := { name := "copyOf", desc := "(Ljava/util/Collection;)Ljava/util/List;", sig := { parameters := [(.object "java/util/Collection")], returnType := some (.object "java/util/List") }, accessFlags := 9, code := some k13c6 }
/-- java/util/List -/
def k13 : Class := { plain "java/util/List" (some 0) with
  accessFlags := 1537
  interfaces := #[12]
  cf := some (fileOf pool13 8 #[] #[{ accessFlags := 1025, nameIndex := 123, descriptorIndex := 124, attributes := #[] }, { accessFlags := 1025, nameIndex := 60, descriptorIndex := 64, attributes := #[] }, { accessFlags := 1025, nameIndex := 170, descriptorIndex := 64, attributes := #[] }, { accessFlags := 1025, nameIndex := 75, descriptorIndex := 76, attributes := #[] }, { accessFlags := 9, nameIndex := 88, descriptorIndex := 119, attributes := #[] }, { accessFlags := 137, nameIndex := 88, descriptorIndex := 108, attributes := #[] }, { accessFlags := 9, nameIndex := 234, descriptorIndex := 115, attributes := #[] }] 1537 103 #[120] #[])
  fields := #[]
  methods := #[k13m0, k13m1, k13m2, k13m3, k13m4, k13m5, k13m6]
  instanceTypes := #[]
  staticTypes := #[]
  resolved := Array.replicate 251 none
  statics := none }

def pool14 : Array CpInfo := pool [(1, .methodref 2 3), (0, .class_ 4), (0, .nameAndType 5 6), (0, u "java/util/AbstractCollection"), (0, u "<init>"), (0, u "()V"), (0, .fieldref 8 9), (0, .class_ 10), (0, .nameAndType 11 12), (0, u "java/util/AbstractList"), (0, u "modCount"), (0, u "I"), (64, .class_ 78), (0, u "java/util/AbstractList$Itr"), (3, .class_ 83), (0, u "java/util/AbstractList$ListItr"), (9, .class_ 94), (0, u "java/util/AbstractList$RandomAccessSubList"), (3, .class_ 99), (0, u "java/util/AbstractList$SubList"), (33, .class_ 134), (0, u "java/util/List"), (73, .class_ 209), (0, u "java/util/AbstractList$SubList$1"), (0, .class_ 211), (0, u "java/util/AbstractList$RandomAccessSpliterator")] 6

def k14c0 : Code := { maxStack := 2, maxLocals := 1, code := jdk_39_method_1_code, exceptionTable := #[], attributes := #[] }
def k14m0 : Method := { name := "<init>", desc := "()V", sig := { parameters := [], returnType := none }, accessFlags := 4, code := some k14c0 }
/-- java/util/AbstractList -/
def k14 : Class := { plain "java/util/AbstractList" (some 11) with
  accessFlags := 1057
  interfaces := #[13]
  cf := some (fileOf pool14 8 #[.nestMembers #[93, 98, 208, 210, 82, 77]] #[{ accessFlags := 4, nameIndex := 5, descriptorIndex := 6, attributes := #[] }] 1057 2 #[133] #[{ accessFlags := 132, nameIndex := 11, descriptorIndex := 12, attributes := #[] }])
  fields := #[{ name := "modCount", type := .int, accessFlags := 132, slot := 0, constantValue := 0 }]
  methods := #[k14m0]
  instanceTypes := #[.int]
  staticTypes := #[]
  resolved := Array.replicate 218 none
  statics := none }

def pool15 : Array CpInfo := pool [(1, .class_ 2), (0, u "java/util/RandomAccess"), (0, .class_ 4), (0, u "java/lang/Object")] 2

/-- java/util/RandomAccess -/
def k15 : Class := { plain "java/util/RandomAccess" (some 0) with
  accessFlags := 1537
  interfaces := #[]
  cf := some (fileOf pool15 1 #[] #[] 1537 3 #[] #[])
  fields := #[]
  methods := #[]
  instanceTypes := #[]
  staticTypes := #[]
  resolved := Array.replicate 7 none
  statics := none }

def pool16 : Array CpInfo := pool [(1, .class_ 2), (0, u "java/lang/Cloneable"), (0, .class_ 4), (0, u "java/lang/Object")] 2

/-- java/lang/Cloneable -/
def k16 : Class := { plain "java/lang/Cloneable" (some 0) with
  accessFlags := 1537
  interfaces := #[]
  cf := some (fileOf pool16 1 #[] #[] 1537 3 #[] #[])
  fields := #[]
  methods := #[]
  instanceTypes := #[]
  staticTypes := #[]
  resolved := Array.replicate 7 none
  statics := none }

def pool17 : Array CpInfo := pool [(1, .methodref 2 3), (0, .class_ 4), (0, .nameAndType 5 6), (0, u "java/util/AbstractList"), (0, u "<init>"), (0, u "()V"), (0, .class_ 8), (0, u "java/lang/Object"), (0, .fieldref 10 11), (0, .class_ 12), (0, .nameAndType 13 14), (0, u "java/util/ArrayList"), (0, u "elementData"), (0, u "[Ljava/lang/Object;"), (2, u "EMPTY_ELEMENTDATA"), (21, .fieldref 10 40), (0, .nameAndType 41 14), (0, u "DEFAULTCAPACITY_EMPTY_ELEMENTDATA"), (4, u "toArray"), (0, u "()[Ljava/lang/Object;"), (0, .fieldref 10 49), (0, .nameAndType 50 51), (0, u "size"), (0, u "I"), (6, .class_ 60), (1, u "java/util/Arrays"), (0, u "copyOf"), (1, .fieldref 10 64), (0, .nameAndType 65 51), (0, u "modCount"), (0, .methodref 58 67), (0, .nameAndType 61 68), (0, u "([Ljava/lang/Object;I)[Ljava/lang/Object;"), (0, .methodref 10 70), (0, .nameAndType 71 72), (0, u "grow"), (0, u "(I)[Ljava/lang/Object;"), (6, .methodref 80 81), (0, .class_ 82), (0, .nameAndType 83 84), (0, u "java/lang/Math"), (0, u "max"), (0, u "(II)I"), (11, u "(Ljava/lang/Object;)Z"), (32, .methodref 10 130), (0, .nameAndType 71 47), (0, .methodref 10 132), (0, .nameAndType 133 134), (0, u "add"), (0, u "(Ljava/lang/Object;[Ljava/lang/Object;I)V"), (13, .class_ 149), (0, u "java/util/List"), (23, u "()Z"), (88, .class_ 263), (0, u "java/util/ArrayList$ListItr"), (3, .class_ 268), (0, u "java/util/ArrayList$Itr"), (7, .class_ 277), (0, u "java/util/ArrayList$SubList"), (12, .class_ 291), (0, u "java/util/ArrayList$ArrayListSpliterator"), (37, .class_ 330), (0, u "java/util/RandomAccess"), (0, .class_ 332), (0, u "java/lang/Cloneable"), (0, .class_ 334), (0, u "java/io/Serializable"), (0, u "serialVersionUID"), (0, u "J"), (3, u "DEFAULT_CAPACITY"), (22, u "isEmpty"), (136, .class_ 501), (0, u "java/util/ArrayList$SubList$2"), (0, .class_ 503), (0, u "java/util/ArrayList$SubList$1")] 5

def k17c0 : Code := { maxStack := 2, maxLocals := 1, code := jdk_38_method_2_code, exceptionTable := #[], attributes := #[] }
def k17m0 : Method := { name := "<init>", desc := "()V", sig := { parameters := [], returnType := none }, accessFlags := 1, code := some k17c0 }
def k17c1 : Code := { maxStack := 4, maxLocals := 4, code := jdk_38_method_6_code, exceptionTable := #[], attributes := #[] }
def k17m1 : Method := { name := "grow", desc := "(I)[Ljava/lang/Object;", sig := { parameters := [.int], returnType := some (.array (.object "java/lang/Object")) }, accessFlags := 2, code := some k17c1 }
def k17c2 : Code := { maxStack := 3, maxLocals := 1, code := jdk_38_method_7_code, exceptionTable := #[], attributes := #[] }
def k17m2 : Method := { name := "grow", desc := "()[Ljava/lang/Object;", sig := { parameters := [], returnType := some (.array (.object "java/lang/Object")) }, accessFlags := 2, code := some k17c2 }
def k17c3 : Code := { maxStack := 1, maxLocals := 1, code := jdk_38_method_9_code, exceptionTable := #[], attributes := #[] }
def k17m3 : Method := { name := "isEmpty", desc := "()Z", sig := { parameters := [], returnType := some .boolean }, accessFlags := 1, code := some k17c3 }
def k17c4 : Code := { maxStack := 2, maxLocals := 1, code := jdk_38_method_16_code, exceptionTable := #[], attributes := #[] }
def k17m4 : Method := { name := "toArray", desc := "()[Ljava/lang/Object;", sig := { parameters := [], returnType := some (.array (.object "java/lang/Object")) }, accessFlags := 1, code := some k17c4 }
def k17c5 : Code := { maxStack := 3, maxLocals := 4, code := jdk_38_method_24_code, exceptionTable := #[], attributes := #[] }
def k17m5 : Method := { name := "add", desc := "(Ljava/lang/Object;[Ljava/lang/Object;I)V", sig := { parameters := [(.object "java/lang/Object"), (.array (.object "java/lang/Object")), .int], returnType := none }, accessFlags := 2, code := some k17c5 }
def k17c6 : Code := { maxStack := 4, maxLocals := 2, code := jdk_38_method_25_code, exceptionTable := #[], attributes := #[] }
def k17m6 : Method := { name := "add", desc := "(Ljava/lang/Object;)Z", sig := { parameters := [(.object "java/lang/Object")], returnType := some .boolean }, accessFlags := 1, code := some k17c6 }
/-- java/util/ArrayList -/
def k17 : Class := { plain "java/util/ArrayList" (some 14) with
  accessFlags := 33
  interfaces := #[13, 15, 16, 3]
  cf := some (fileOf pool17 10 #[.nestMembers #[290, 276, 500, 502, 262, 267]] #[{ accessFlags := 1, nameIndex := 5, descriptorIndex := 6, attributes := #[] }, { accessFlags := 2, nameIndex := 71, descriptorIndex := 72, attributes := #[] }, { accessFlags := 2, nameIndex := 71, descriptorIndex := 47, attributes := #[] }, { accessFlags := 1, nameIndex := 363, descriptorIndex := 173, attributes := #[] }, { accessFlags := 1, nameIndex := 46, descriptorIndex := 47, attributes := #[] }, { accessFlags := 2, nameIndex := 133, descriptorIndex := 134, attributes := #[] }, { accessFlags := 1, nameIndex := 133, descriptorIndex := 96, attributes := #[] }] 33 2 #[148, 329, 331, 333] #[{ accessFlags := 26, nameIndex := 335, descriptorIndex := 336, attributes := #[] }, { accessFlags := 26, nameIndex := 340, descriptorIndex := 51, attributes := #[] }, { accessFlags := 26, nameIndex := 17, descriptorIndex := 14, attributes := #[] }, { accessFlags := 26, nameIndex := 41, descriptorIndex := 14, attributes := #[] }, { accessFlags := 128, nameIndex := 13, descriptorIndex := 14, attributes := #[] }, { accessFlags := 2, nameIndex := 50, descriptorIndex := 51, attributes := #[] }])
  fields := #[{ name := "serialVersionUID", type := .long, accessFlags := 26, slot := 0, constantValue := 0 }, { name := "DEFAULT_CAPACITY", type := .int, accessFlags := 26, slot := 1, constantValue := 0 }, { name := "EMPTY_ELEMENTDATA", type := (.array (.object "java/lang/Object")), accessFlags := 26, slot := 2, constantValue := 0 }, { name := "DEFAULTCAPACITY_EMPTY_ELEMENTDATA", type := (.array (.object "java/lang/Object")), accessFlags := 26, slot := 3, constantValue := 0 }, { name := "elementData", type := (.array (.object "java/lang/Object")), accessFlags := 128, slot := 1, constantValue := 0 }, { name := "size", type := .int, accessFlags := 2, slot := 2, constantValue := 0 }]
  methods := #[k17m0, k17m1, k17m2, k17m3, k17m4, k17m5, k17m6]
  instanceTypes := #[.int, (.array (.object "java/lang/Object")), .int]
  staticTypes := #[.long, .int, (.array (.object "java/lang/Object")), (.array (.object "java/lang/Object"))]
  resolved := Array.replicate 509 none
  statics := some 1 }

def pool18 : Array CpInfo := pool [(2, .class_ 4), (1, u "java/lang/Object"), (0, u "<init>"), (0, u "()V"), (3, .class_ 11), (0, u "java/util/ImmutableCollections$List12"), (0, .class_ 13), (0, u "java/util/ImmutableCollections$ListN"), (3, u "Z"), (0, .class_ 19), (0, u "java/util/List"), (0, .interfaceMethodref 21 22), (0, .class_ 23), (0, .nameAndType 24 25), (0, u "java/util/Collection"), (0, u "isEmpty"), (0, u "()Z"), (0, .interfaceMethodref 18 27), (0, .nameAndType 28 29), (0, u "of"), (0, u "()Ljava/util/List;"), (0, .interfaceMethodref 21 31), (0, .nameAndType 32 33), (0, u "toArray"), (0, u "()[Ljava/lang/Object;"), (0, .interfaceMethodref 18 35), (0, .nameAndType 28 36), (0, u "([Ljava/lang/Object;)Ljava/util/List;"), (10, .class_ 49), (1, u "java/util/ImmutableCollections"), (0, u "$assertionsDisabled"), (5, u "[Ljava/lang/Object;"), (5, u "EMPTY_LIST"), (0, u "Ljava/util/ImmutableCollections$ListN;"), (8, u "EMPTY_LIST_NULLS"), (22, u "SALT32L"), (0, u "J"), (2, u "REVERSE"), (6, u "archivedObjects"), (2, u "EMPTY"), (0, u "Ljava/lang/Object;"), (0, .class_ 112), (0, u "java/util/ImmutableCollections$SetN"), (5, u "EMPTY_SET"), (0, u "Ljava/util/ImmutableCollections$SetN;"), (0, .class_ 121), (0, u "java/util/ImmutableCollections$MapN"), (3, u "EMPTY_MAP"), (0, u "Ljava/util/ImmutableCollections$MapN;"), (4, u "EXPAND_FACTOR"), (0, u "I"), (9, u "listCopy"), (0, u "(Ljava/util/Collection;)Ljava/util/List;"), (25, .class_ 170), (0, u "java/util/ImmutableCollections$MapN$MapNIterator"), (0, .class_ 172), (0, u "java/util/ImmutableCollections$MapN$1"), (0, .class_ 174), (0, u "java/util/ImmutableCollections$Map1"), (0, .class_ 176), (0, u "java/util/ImmutableCollections$AbstractImmutableMap"), (0, .class_ 178), (0, u "java/util/ImmutableCollections$SetN$SetNIterator"), (0, .class_ 180), (0, u "java/util/ImmutableCollections$Set12"), (0, .class_ 182), (0, u "java/util/ImmutableCollections$Set12$1"), (0, .class_ 184), (0, u "java/util/ImmutableCollections$AbstractImmutableSet"), (0, .class_ 186), (0, u "java/util/ImmutableCollections$SubList"), (0, .class_ 188), (0, u "java/util/ImmutableCollections$ListItr"), (0, .class_ 190), (0, u "java/util/ImmutableCollections$AbstractImmutableList"), (0, .class_ 192), (0, u "java/util/ImmutableCollections$AbstractImmutableCollection"), (0, .class_ 194), (0, u "java/util/ImmutableCollections$Access"), (0, .class_ 196), (0, u "java/util/ImmutableCollections$Access$1")] 16

def k18m0 : Method := { name := "<init>", desc := "()V", sig := { parameters := [], returnType := none }, accessFlags := 2, code := none }
def k18c1 : Code := { maxStack := 1, maxLocals := 2, code := jdk_56_method_3_code, exceptionTable := #[], attributes := #[] }
def k18m1 : Method := { name := "listCopy", desc := "(Ljava/util/Collection;)Ljava/util/List;", sig := { parameters := [(.object "java/util/Collection")], returnType := some (.object "java/util/List") }, accessFlags := 8, code := some k18c1 }
/-- java/util/ImmutableCollections -/
def k18 : Class := { plain "java/util/ImmutableCollections" (some 0) with
  accessFlags := 32
  interfaces := #[]
  cf := some (fileOf pool18 47 #[.nestMembers #[120, 169, 171, 173, 175, 111, 177, 179, 181, 183, 12, 10, 185, 187, 189, 191, 193, 195]] #[{ accessFlags := 2, nameIndex := 5, descriptorIndex := 6, attributes := #[] }, { accessFlags := 8, nameIndex := 142, descriptorIndex := 143, attributes := #[] }] 32 2 #[] #[{ accessFlags := 26, nameIndex := 95, descriptorIndex := 96, attributes := #[] }, { accessFlags := 26, nameIndex := 99, descriptorIndex := 17, attributes := #[] }, { accessFlags := 10, nameIndex := 106, descriptorIndex := 56, attributes := #[] }, { accessFlags := 26, nameIndex := 109, descriptorIndex := 110, attributes := #[] }, { accessFlags := 24, nameIndex := 62, descriptorIndex := 63, attributes := #[] }, { accessFlags := 24, nameIndex := 72, descriptorIndex := 63, attributes := #[] }, { accessFlags := 24, nameIndex := 118, descriptorIndex := 119, attributes := #[] }, { accessFlags := 24, nameIndex := 125, descriptorIndex := 126, attributes := #[] }, { accessFlags := 24, nameIndex := 131, descriptorIndex := 132, attributes := #[] }, { accessFlags := 4120, nameIndex := 50, descriptorIndex := 17, attributes := #[] }])
  fields := #[{ name := "SALT32L", type := .long, accessFlags := 26, slot := 0, constantValue := 0 }, { name := "REVERSE", type := .boolean, accessFlags := 26, slot := 1, constantValue := 0 }, { name := "archivedObjects", type := (.array (.object "java/lang/Object")), accessFlags := 10, slot := 2, constantValue := 0 }, { name := "EMPTY", type := (.object "java/lang/Object"), accessFlags := 26, slot := 3, constantValue := 0 }, { name := "EMPTY_LIST", type := (.object "java/util/ImmutableCollections$ListN"), accessFlags := 24, slot := 4, constantValue := 0 }, { name := "EMPTY_LIST_NULLS", type := (.object "java/util/ImmutableCollections$ListN"), accessFlags := 24, slot := 5, constantValue := 0 }, { name := "EMPTY_SET", type := (.object "java/util/ImmutableCollections$SetN"), accessFlags := 24, slot := 6, constantValue := 0 }, { name := "EMPTY_MAP", type := (.object "java/util/ImmutableCollections$MapN"), accessFlags := 24, slot := 7, constantValue := 0 }, { name := "EXPAND_FACTOR", type := .int, accessFlags := 24, slot := 8, constantValue := 0 }, { name := "$assertionsDisabled", type := .boolean, accessFlags := 4120, slot := 9, constantValue := 0 }]
  methods := #[k18m0, k18m1]
  instanceTypes := #[]
  staticTypes := #[.long, .boolean, (.array (.object "java/lang/Object")), (.object "java/lang/Object"), (.object "java/util/ImmutableCollections$ListN"), (.object "java/util/ImmutableCollections$ListN"), (.object "java/util/ImmutableCollections$SetN"), (.object "java/util/ImmutableCollections$MapN"), .int, .boolean]
  resolved := Array.replicate 213 none
  statics := some 2 }

def pool19 : Array CpInfo := pool [(1, .methodref 2 3), (0, .class_ 4), (0, .nameAndType 5 6), (0, u "java/util/AbstractCollection"), (0, u "<init>"), (0, u "()V"), (1, .class_ 10), (1, u "java/util/ImmutableCollections"), (2, .class_ 14), (0, u "java/util/ImmutableCollections$AbstractImmutableCollection")] 41

def k19c0 : Code := { maxStack := 1, maxLocals := 1, code := jdk_47_method_1_code, exceptionTable := #[], attributes := #[] }
def k19m0 : Method := { name := "<init>", desc := "()V", sig := { parameters := [], returnType := none }, accessFlags := 0, code := some k19c0 }
/-- java/util/ImmutableCollections$AbstractImmutableCollection -/
def k19 : Class := { plain "java/util/ImmutableCollections$AbstractImmutableCollection" (some 11) with
  accessFlags := 1056
  interfaces := #[]
  cf := some (fileOf pool19 13 #[.nestHost 8] #[{ accessFlags := 0, nameIndex := 5, descriptorIndex := 6, attributes := #[] }] 1056 2 #[] #[])
  fields := #[]
  methods := #[k19m0]
  instanceTypes := #[]
  staticTypes := #[]
  resolved := Array.replicate 56 none
  statics := none }

def pool20 : Array CpInfo := pool [(1, .methodref 2 3), (0, .class_ 4), (0, .nameAndType 5 6), (0, u "java/util/ImmutableCollections$AbstractImmutableCollection"), (0, u "<init>"), (0, u "()V"), (1, .class_ 10), (1, u "java/util/ImmutableCollections"), (2, .methodref 14 15), (0, .class_ 16), (0, .nameAndType 17 18), (0, u "java/util/ImmutableCollections$AbstractImmutableList"), (0, u "size"), (0, u "()I"), (42, .class_ 62), (0, u "java/util/ImmutableCollections$ListItr"), (0, .methodref 61 64), (0, .nameAndType 5 65), (0, u "(Ljava/util/List;I)V"), (11, .class_ 78), (0, u "java/util/List"), (0, .interfaceMethodref 77 80), (0, .nameAndType 81 82), (0, u "iterator"), (0, u "()Ljava/util/Iterator;"), (0, .interfaceMethodref 84 85), (0, .class_ 86), (0, .nameAndType 87 88), (0, u "java/util/Iterator"), (0, u "hasNext"), (0, u "()Z"), (0, .methodref 14 90), (0, .nameAndType 91 92), (0, u "get"), (0, u "(I)Ljava/lang/Object;"), (0, .interfaceMethodref 84 94), (0, .nameAndType 95 96), (0, u "next"), (0, u "()Ljava/lang/Object;"), (0, .methodref 98 99), (0, .class_ 100), (0, .nameAndType 101 102), (0, u "java/util/Objects"), (0, u "equals"), (0, u "(Ljava/lang/Object;Ljava/lang/Object;)Z"), (0, .methodref 98 104), (0, .nameAndType 105 106), (0, u "hashCode"), (0, u "(Ljava/lang/Object;)I"), (17, .class_ 125), (0, u "java/util/RandomAccess"), (48, u "(Ljava/lang/Object;)Z")] 21

def k20c0 : Code := { maxStack := 1, maxLocals := 1, code := jdk_46_method_1_code, exceptionTable := #[], attributes := #[] }
def k20m0 : Method := { name := "<init>", desc := "()V", sig := { parameters := [], returnType := none }, accessFlags := 0, code := some k20c0 }
def k20c1 : Code := { maxStack := 4, maxLocals := 1, code := jdk_46_method_10_code, exceptionTable := #[], attributes := #[] }
def k20m1 : Method := { name := "iterator", desc := "()Ljava/util/Iterator;", sig := { parameters := [], returnType := some (.object "java/util/Iterator") }, accessFlags := 1, code := some k20c1 }
def k20c2 : Code := { maxStack := 2, maxLocals := 5, code := jdk_46_method_13_code, exceptionTable := #[], attributes := #[] }
def k20m2 : Method := { name := "equals", desc := "(Ljava/lang/Object;)Z", sig := { parameters := [(.object "java/lang/Object")], returnType := some .boolean }, accessFlags := 1, code := some k20c2 }
def k20c3 : Code := { maxStack := 3, maxLocals := 4, code := jdk_46_method_14_code, exceptionTable := #[], attributes := #[] }
def k20m3 : Method := { name := "hashCode", desc := "()I", sig := { parameters := [], returnType := some .int }, accessFlags := 1, code := some k20c3 }
/-- java/util/ImmutableCollections$AbstractImmutableList -/
def k20 : Class := { plain "java/util/ImmutableCollections$AbstractImmutableList" (some 19) with
  accessFlags := 1056
  interfaces := #[13, 15]
  cf := some (fileOf pool20 14 #[.nestHost 8] #[{ accessFlags := 0, nameIndex := 5, descriptorIndex := 6, attributes := #[] }, { accessFlags := 1, nameIndex := 81, descriptorIndex := 82, attributes := #[] }, { accessFlags := 1, nameIndex := 101, descriptorIndex := 174, attributes := #[] }, { accessFlags := 1, nameIndex := 105, descriptorIndex := 18, attributes := #[] }] 1056 2 #[77, 124] #[])
  fields := #[]
  methods := #[k20m0, k20m1, k20m2, k20m3]
  instanceTypes := #[]
  staticTypes := #[]
  resolved := Array.replicate 196 none
  statics := none }

def pool21 : Array CpInfo := pool [(1, .methodref 2 3), (0, .class_ 4), (0, .nameAndType 5 6), (0, u "java/util/ImmutableCollections$AbstractImmutableList"), (0, u "<init>"), (0, u "()V"), (0, .methodref 8 9), (0, .class_ 10), (0, .nameAndType 11 12), (0, u "java/util/Objects"), (0, u "requireNonNull"), (0, u "(Ljava/lang/Object;)Ljava/lang/Object;"), (0, .fieldref 14 15), (0, .class_ 16), (0, .nameAndType 17 18), (0, u "java/util/ImmutableCollections$List12"), (0, u "e0"), (0, u "Ljava/lang/Object;"), (0, .fieldref 20 21), (0, .class_ 22), (0, .nameAndType 23 18), (0, u "java/util/ImmutableCollections"), (0, u "EMPTY"), (0, .fieldref 14 25), (0, .nameAndType 26 18), (0, u "e1"), (24, u "size"), (0, u "()I"), (17, .class_ 71), (0, u "java/io/Serializable"), (4, u "(Ljava/lang/Object;)V"), (8, u "(Ljava/lang/Object;Ljava/lang/Object;)V"), (4, u "get"), (0, u "(I)Ljava/lang/Object;")] 33

def k21c0 : Code := { maxStack := 2, maxLocals := 2, code := jdk_44_method_1_code, exceptionTable := #[], attributes := #[] }
def k21m0 : Method := { name := "<init>", desc := "(Ljava/lang/Object;)V", sig := { parameters := [(.object "java/lang/Object")], returnType := none }, accessFlags := 0, code := some k21c0 }
def k21c1 : Code := { maxStack := 2, maxLocals := 3, code := jdk_44_method_2_code, exceptionTable := #[], attributes := #[] }
def k21m1 : Method := { name := "<init>", desc := "(Ljava/lang/Object;Ljava/lang/Object;)V", sig := { parameters := [(.object "java/lang/Object"), (.object "java/lang/Object")], returnType := none }, accessFlags := 0, code := some k21c1 }
def k21c2 : Code := { maxStack := 2, maxLocals := 1, code := jdk_44_method_3_code, exceptionTable := #[], attributes := #[] }
def k21m2 : Method := { name := "size", desc := "()I", sig := { parameters := [], returnType := some .int }, accessFlags := 1, code := some k21c2 }
def k21c3 : Code := { maxStack := 2, maxLocals := 2, code := jdk_44_method_5_code, exceptionTable := #[], attributes := #[] }
def k21m3 : Method := { name := "get", desc := "(I)Ljava/lang/Object;", sig := { parameters := [.int], returnType := some (.object "java/lang/Object") }, accessFlags := 1, code := some k21c3 }
/-- java/util/ImmutableCollections$List12 -/
def k21 : Class := { plain "java/util/ImmutableCollections$List12" (some 20) with
  accessFlags := 48
  interfaces := #[3]
  cf := some (fileOf pool21 14 #[.nestHost 20] #[{ accessFlags := 0, nameIndex := 5, descriptorIndex := 76, attributes := #[] }, { accessFlags := 0, nameIndex := 5, descriptorIndex := 85, attributes := #[] }, { accessFlags := 1, nameIndex := 51, descriptorIndex := 52, attributes := #[] }, { accessFlags := 1, nameIndex := 90, descriptorIndex := 91, attributes := #[] }] 48 2 #[70] #[{ accessFlags := 18, nameIndex := 17, descriptorIndex := 18, attributes := #[] }, { accessFlags := 18, nameIndex := 26, descriptorIndex := 18, attributes := #[] }])
  fields := #[{ name := "e0", type := (.object "java/lang/Object"), accessFlags := 18, slot := 0, constantValue := 0 }, { name := "e1", type := (.object "java/lang/Object"), accessFlags := 18, slot := 1, constantValue := 0 }]
  methods := #[k21m0, k21m1, k21m2, k21m3]
  instanceTypes := #[(.object "java/lang/Object"), (.object "java/lang/Object")]
  staticTypes := #[]
  resolved := Array.replicate 125 none
  statics := none }

def pool22 : Array CpInfo := pool [(2, .class_ 4), (1, u "java/util/ImmutableCollections$AbstractImmutableList"), (2, .fieldref 8 9), (0, .class_ 10), (0, .nameAndType 11 12), (0, u "java/util/ImmutableCollections$ListN"), (0, u "elements"), (0, u "[Ljava/lang/Object;"), (2, u "allowNulls"), (0, u "Z"), (42, .class_ 60), (0, u "java/io/Serializable"), (16, u "size"), (0, u "()I"), (35, .class_ 115), (0, u "java/util/ImmutableCollections")] 3

def k22c0 : Code := { maxStack := 1, maxLocals := 1, code := jdk_45_method_3_code, exceptionTable := #[], attributes := #[] }
def k22m0 : Method := { name := "size", desc := "()I", sig := { parameters := [], returnType := some .int }, accessFlags := 1, code := some k22c0 }
/-- java/util/ImmutableCollections$ListN -/
def k22 : Class := { plain "java/util/ImmutableCollections$ListN" (some 20) with
  accessFlags := 48
  interfaces := #[3]
  cf := some (fileOf pool22 8 #[.nestHost 114] #[{ accessFlags := 1, nameIndex := 77, descriptorIndex := 78, attributes := #[] }] 48 2 #[59] #[{ accessFlags := 18, nameIndex := 11, descriptorIndex := 12, attributes := #[] }, { accessFlags := 18, nameIndex := 15, descriptorIndex := 16, attributes := #[] }])
  fields := #[{ name := "elements", type := (.array (.object "java/lang/Object")), accessFlags := 18, slot := 0, constantValue := 0 }, { name := "allowNulls", type := .boolean, accessFlags := 18, slot := 1, constantValue := 0 }]
  methods := #[k22m0]
  instanceTypes := #[(.array (.object "java/lang/Object")), .boolean]
  staticTypes := #[]
  resolved := Array.replicate 119 none
  statics := none }

def pool23 : Array CpInfo := pool [(4, .class_ 6), (1, u "java/lang/Object"), (0, u "<init>"), (0, u "()V"), (5, .class_ 16), (1, u "java/lang/StringLatin1"), (28, .class_ 47), (1, u "jdk/internal/util/ArraysSupport"), (9, u "([B)I"), (26, .methodref 45 85), (0, .nameAndType 86 87), (0, u "vectorizedHashCode"), (0, u "(Ljava/lang/Object;IIII)I"), (2, u "canEncode"), (14, u "(C)Z"), (15, u "$assertionsDisabled"), (0, u "Z"), (98, .class_ 223), (1, u "java/lang/StringLatin1$LinesSpliterator"), (57, u "equals"), (0, u "([B[B)Z"), (15, u "hashCode"), (81, u "toBytes"), (1, u "(C)[B"), (7, .class_ 391), (0, u "java/lang/StringLatin1$CharsSpliterator")] 3

def k23m0 : Method := { name := "<init>", desc := "()V", sig := { parameters := [], returnType := none }, accessFlags := 0, code := none }
def k23c1 : Code := { maxStack := 2, maxLocals := 1, code := jdk_43_method_3_code, exceptionTable := #[], attributes := #[] }
def k23m1 : Method := { name := "canEncode", desc := "(C)Z", sig := { parameters := [.char], returnType := some .boolean }, accessFlags := 9, code := some k23c1 }
def k23c2 : Code := { maxStack := 3, maxLocals := 3, code := jdk_43_method_13_code, exceptionTable := #[], attributes := #[] }
def k23m2 : Method := { name := "equals", desc := "([B[B)Z", sig := { parameters := [(.array .byte), (.array .byte)], returnType := some .boolean }, accessFlags := 9, code := some k23c2 }
def k23c3 : Code := { maxStack := 5, maxLocals := 1, code := jdk_43_method_21_code, exceptionTable := #[], attributes := #[] }
def k23m3 : Method := { name := "hashCode", desc := "([B)I", sig := { parameters := [(.array .byte)], returnType := some .int }, accessFlags := 9, code := some k23c3 }
def k23c4 : Code := { maxStack := 4, maxLocals := 1, code := jdk_43_method_46_code, exceptionTable := #[], attributes := #[] }
def k23m4 : Method := { name := "toBytes", desc := "(C)[B", sig := { parameters := [.char], returnType := some (.array .byte) }, accessFlags := 9, code := some k23c4 }
/-- java/lang/StringLatin1 -/
def k23 : Class := { plain "java/lang/StringLatin1" (some 0) with
  accessFlags := 48
  interfaces := #[]
  cf := some (fileOf pool23 14 #[.nestMembers #[390, 221]] #[{ accessFlags := 0, nameIndex := 7, descriptorIndex := 8, attributes := #[] }, { accessFlags := 9, nameIndex := 90, descriptorIndex := 105, attributes := #[] }, { accessFlags := 9, nameIndex := 281, descriptorIndex := 282, attributes := #[] }, { accessFlags := 9, nameIndex := 298, descriptorIndex := 57, attributes := #[] }, { accessFlags := 9, nameIndex := 380, descriptorIndex := 382, attributes := #[] }] 48 4 #[] #[{ accessFlags := 4120, nameIndex := 121, descriptorIndex := 122, attributes := #[] }])
  fields := #[{ name := "$assertionsDisabled", type := .boolean, accessFlags := 4120, slot := 0, constantValue := 0 }]
  methods := #[k23m0, k23m1, k23m2, k23m3, k23m4]
  instanceTypes := #[]
  staticTypes := #[.boolean]
  resolved := Array.replicate 395 none
  statics := none }

def pool24 : Array CpInfo := pool [(2, .class_ 4), (1, u "java/lang/Object"), (0, u "<init>"), (0, u "()V"), (7, .methodref 2 15), (0, .nameAndType 16 17), (0, u "equals"), (0, u "(Ljava/lang/Object;)Z"), (1, .class_ 21), (1, u "java/util/Arrays"), (1, u "(Ljava/lang/Object;Ljava/lang/Object;)Z"), (0, .methodref 2 25), (0, .nameAndType 26 27), (0, u "hashCode"), (0, u "()I"), (0, .methodref 19 29), (0, .nameAndType 26 30), (0, u "([Ljava/lang/Object;)I"), (11, .class_ 44), (1, u "java/util/Objects"), (0, u "requireNonNull"), (0, u "(Ljava/lang/Object;)Ljava/lang/Object;"), (23, u "(Ljava/lang/Object;)I"), (66, u "hash")] 46

def k24m0 : Method := { name := "<init>", desc := "()V", sig := { parameters := [], returnType := none }, accessFlags := 2, code := none }
def k24c1 : Code := { maxStack := 2, maxLocals := 2, code := jdk_31_method_2_code, exceptionTable := #[], attributes := #[] }
def k24m1 : Method := { name := "equals", desc := "(Ljava/lang/Object;Ljava/lang/Object;)Z", sig := { parameters := [(.object "java/lang/Object"), (.object "java/lang/Object")], returnType := some .boolean }, accessFlags := 9, code := some k24c1 }
def k24c2 : Code := { maxStack := 1, maxLocals := 1, code := jdk_31_method_4_code, exceptionTable := #[], attributes := #[] }
def k24m2 : Method := { name := "hashCode", desc := "(Ljava/lang/Object;)I", sig := { parameters := [(.object "java/lang/Object")], returnType := some .int }, accessFlags := 9, code := some k24c2 }
def k24c3 : Code := { maxStack := 1, maxLocals := 1, code := jdk_31_method_5_code, exceptionTable := #[], attributes := #[] }
def k24m3 : Method := { name := "hash", desc := "([Ljava/lang/Object;)I", sig := { parameters := [(.array (.object "java/lang/Object"))], returnType := some .int }, accessFlags := 137, code := some k24c3 }
def k24c4 : Code := { maxStack := 2, maxLocals := 1, code := jdk_31_method_10_code, exceptionTable := #[], attributes := #[] }
def k24m4 : Method := { name := "requireNonNull", desc := "(Ljava/lang/Object;)Ljava/lang/Object;", sig := { parameters := [(.object "java/lang/Object")], returnType := some (.object "java/lang/Object") }, accessFlags := 9, code := some k24c4 }
/-- java/util/Objects -/
def k24 : Class := { plain "java/util/Objects" (some 0) with
  accessFlags := 49
  interfaces := #[]
  cf := some (fileOf pool24 42 #[] #[{ accessFlags := 2, nameIndex := 5, descriptorIndex := 6, attributes := #[] }, { accessFlags := 9, nameIndex := 16, descriptorIndex := 23, attributes := #[] }, { accessFlags := 9, nameIndex := 26, descriptorIndex := 70, attributes := #[] }, { accessFlags := 137, nameIndex := 137, descriptorIndex := 30, attributes := #[] }, { accessFlags := 9, nameIndex := 45, descriptorIndex := 46, attributes := #[] }] 49 2 #[] #[])
  fields := #[]
  methods := #[k24m0, k24m1, k24m2, k24m3, k24m4]
  instanceTypes := #[]
  staticTypes := #[]
  resolved := Array.replicate 184 none
  statics := none }

def pool25 : Array CpInfo := pool [(2, .class_ 4), (1, u "java/lang/Object"), (0, u "<init>"), (0, u "()V"), (7, .class_ 16), (1, u "java/util/Arrays"), (25, u "()I"), (31, .class_ 76), (1, u "java/util/Arrays$NaturalOrder"), (9, .methodref 2 87), (0, .nameAndType 88 89), (0, u "getClass"), (0, u "()Ljava/lang/Class;"), (20, .class_ 111), (0, u "[Ljava/lang/Object;"), (1, .class_ 115), (1, u "java/util/Arrays$LegacyMergeSort"), (1, u "Z"), (32, .methodref 151 152), (0, .class_ 153), (0, .nameAndType 154 155), (0, u "java/lang/System"), (0, u "arraycopy"), (0, u "(Ljava/lang/Object;ILjava/lang/Object;II)V"), (144, .methodref 14 301), (0, .nameAndType 302 303), (0, u "copyOf"), (0, u "([Ljava/lang/Object;ILjava/lang/Class;)[Ljava/lang/Object;"), (0, .methodref 305 306), (0, .class_ 307), (0, .nameAndType 308 309), (0, u "java/lang/Math"), (0, u "min"), (0, u "(II)I"), (65, .class_ 376), (0, u "java/util/Arrays$ArrayList"), (6, .methodref 2 384), (0, .nameAndType 385 42), (0, u "hashCode"), (3, u "([Ljava/lang/Object;)I"), (55, u "$assertionsDisabled"), (269, u "MIN_ARRAY_SORT_GRAN"), (0, u "I"), (2, u "INSERTIONSORT_THRESHOLD"), (140, u "([Ljava/lang/Object;I)[Ljava/lang/Object;"), (114, .class_ 976), (0, u "java/util/Arrays$ArrayItr")] 52

def k25m0 : Method := { name := "<init>", desc := "()V", sig := { parameters := [], returnType := none }, accessFlags := 2, code := none }
def k25c1 : Code := { maxStack := 3, maxLocals := 2, code := jdk_65_method_119_code, exceptionTable := #[], attributes := #[] }
def k25m1 : Method := { name := "copyOf", desc := "([Ljava/lang/Object;I)[Ljava/lang/Object;", sig := { parameters := [(.array (.object "java/lang/Object")), .int], returnType := some (.array (.object "java/lang/Object")) }, accessFlags := 9, code := some k25c1 }
def k25c2 : Code := { maxStack := 6, maxLocals := 4, code := jdk_65_method_120_code, exceptionTable := #[], attributes := #[] }
def k25m2 : Method := { name := "copyOf", desc := "([Ljava/lang/Object;ILjava/lang/Class;)[Ljava/lang/Object;", sig := { parameters := [(.array (.object "java/lang/Object")), .int, (.object "java/lang/Class")], returnType := some (.array (.object "java/lang/Object")) }, accessFlags := 9, code := some k25c2 }
def k25c3 : Code := { maxStack := 2, maxLocals := 6, code := jdk_65_method_157_code, exceptionTable := #[], attributes := #[] }
def k25m3 : Method := { name := "hashCode", desc := "([Ljava/lang/Object;)I", sig := { parameters := [(.array (.object "java/lang/Object"))], returnType := some .int }, accessFlags := 9, code := some k25c3 }
/-- java/util/Arrays -/
def k25 : Class := { plain "java/util/Arrays" (some 0) with
  accessFlags := 49
  interfaces := #[]
  cf := some (fileOf pool25 14 #[.nestMembers #[975, 375, 113, 74]] #[{ accessFlags := 2, nameIndex := 5, descriptorIndex := 6, attributes := #[] }, { accessFlags := 9, nameIndex := 302, descriptorIndex := 860, attributes := #[] }, { accessFlags := 9, nameIndex := 302, descriptorIndex := 303, attributes := #[] }, { accessFlags := 9, nameIndex := 385, descriptorIndex := 389, attributes := #[] }] 49 2 #[] #[{ accessFlags := 26, nameIndex := 715, descriptorIndex := 716, attributes := #[] }, { accessFlags := 26, nameIndex := 719, descriptorIndex := 716, attributes := #[] }, { accessFlags := 4120, nameIndex := 445, descriptorIndex := 117, attributes := #[] }])
  fields := #[{ name := "MIN_ARRAY_SORT_GRAN", type := .int, accessFlags := 26, slot := 0, constantValue := 0 }, { name := "INSERTIONSORT_THRESHOLD", type := .int, accessFlags := 26, slot := 1, constantValue := 0 }, { name := "$assertionsDisabled", type := .boolean, accessFlags := 4120, slot := 2, constantValue := 0 }]
  methods := #[k25m0, k25m1, k25m2, k25m3]
  instanceTypes := #[]
  staticTypes := #[.int, .int, .boolean]
  resolved := Array.replicate 1029 none
  statics := none }

def pool26 : Array CpInfo := pool [(1, .class_ 2), (0, u "java/lang/Math"), (1, .class_ 6), (1, u "java/lang/Object"), (0, u "<init>"), (0, u "()V"), (89, .class_ 100), (1, u "java/lang/Math$RandomNumberGeneratorHolder"), (71, u "negativeZeroFloatBits"), (0, u "J"), (2, u "negativeZeroDoubleBits"), (21, u "max"), (2, u "min"), (43, u "$assertionsDisabled"), (0, u "Z"), (88, u "(II)I"), (2, u "twoToTheDoubleScaleDown"), (0, u "D"), (4, u "twoToTheDoubleScaleUp"), (9, u "E"), (3, u "PI"), (2, u "TAU"), (2, u "DEGREES_TO_RADIANS"), (0, u "RADIANS_TO_DEGREES")] 94

def k26m0 : Method := { name := "<init>", desc := "()V", sig := { parameters := [], returnType := none }, accessFlags := 2, code := none }
def k26c1 : Code := { maxStack := 2, maxLocals := 2, code := jdk_29_method_65_code, exceptionTable := #[], attributes := #[] }
def k26m1 : Method := { name := "max", desc := "(II)I", sig := { parameters := [.int, .int], returnType := some .int }, accessFlags := 9, code := some k26c1 }
def k26c2 : Code := { maxStack := 2, maxLocals := 2, code := jdk_29_method_69_code, exceptionTable := #[], attributes := #[] }
def k26m2 : Method := { name := "min", desc := "(II)I", sig := { parameters := [.int, .int], returnType := some .int }, accessFlags := 9, code := some k26c2 }
/-- java/lang/Math -/
def k26 : Class := { plain "java/lang/Math" (some 0) with
  accessFlags := 49
  interfaces := #[]
  cf := some (fileOf pool26 1 #[.nestMembers #[98]] #[{ accessFlags := 2, nameIndex := 7, descriptorIndex := 8, attributes := #[] }, { accessFlags := 9, nameIndex := 198, descriptorIndex := 335, attributes := #[] }, { accessFlags := 9, nameIndex := 201, descriptorIndex := 335, attributes := #[] }] 49 4 #[] #[{ accessFlags := 25, nameIndex := 354, descriptorIndex := 339, attributes := #[] }, { accessFlags := 25, nameIndex := 358, descriptorIndex := 339, attributes := #[] }, { accessFlags := 25, nameIndex := 361, descriptorIndex := 339, attributes := #[] }, { accessFlags := 26, nameIndex := 364, descriptorIndex := 339, attributes := #[] }, { accessFlags := 26, nameIndex := 365, descriptorIndex := 339, attributes := #[] }, { accessFlags := 26, nameIndex := 172, descriptorIndex := 173, attributes := #[] }, { accessFlags := 26, nameIndex := 176, descriptorIndex := 173, attributes := #[] }, { accessFlags := 8, nameIndex := 344, descriptorIndex := 339, attributes := #[] }, { accessFlags := 8, nameIndex := 338, descriptorIndex := 339, attributes := #[] }, { accessFlags := 4120, nameIndex := 245, descriptorIndex := 246, attributes := #[] }])
  fields := #[{ name := "E", type := .double, accessFlags := 25, slot := 0, constantValue := 0 }, { name := "PI", type := .double, accessFlags := 25, slot := 1, constantValue := 0 }, { name := "TAU", type := .double, accessFlags := 25, slot := 2, constantValue := 0 }, { name := "DEGREES_TO_RADIANS", type := .double, accessFlags := 26, slot := 3, constantValue := 0 }, { name := "RADIANS_TO_DEGREES", type := .double, accessFlags := 26, slot := 4, constantValue := 0 }, { name := "negativeZeroFloatBits", type := .long, accessFlags := 26, slot := 5, constantValue := 0 }, { name := "negativeZeroDoubleBits", type := .long, accessFlags := 26, slot := 6, constantValue := 0 }, { name := "twoToTheDoubleScaleUp", type := .double, accessFlags := 8, slot := 7, constantValue := 0 }, { name := "twoToTheDoubleScaleDown", type := .double, accessFlags := 8, slot := 8, constantValue := 0 }, { name := "$assertionsDisabled", type := .boolean, accessFlags := 4120, slot := 9, constantValue := 0 }]
  methods := #[k26m0, k26m1, k26m2]
  instanceTypes := #[]
  staticTypes := #[.double, .double, .double, .double, .double, .long, .long, .double, .double, .boolean]
  resolved := Array.replicate 460 none
  statics := none }

def pool27 : Array CpInfo := pool [(2, .class_ 4), (1, u "java/lang/Object"), (0, u "<init>"), (0, u "()V"), (1, .class_ 10), (1, u "java/lang/System"), (0, u "allowSecurityManager"), (0, u "I"), (16, u "cons"), (0, u "Ljava/io/Console;"), (77, .class_ 110), (1, u "java/lang/System$CallersHolder"), (43, u "initialErrStream"), (0, u "Ljava/io/PrintStream;"), (19, u "security"), (0, u "Ljava/lang/SecurityManager;"), (31, .class_ 209), (0, u "java/lang/System$1"), (7, u "props"), (0, u "Ljava/util/Properties;"), (2, u "lineSeparator"), (0, u "Ljava/lang/String;"), (96, .class_ 321), (1, u "java/lang/System$LoggerFinder"), (5, .class_ 328), (0, u "java/lang/System$Logger"), (67, u "err"), (2, u "out"), (91, u "notSupportedJnuEncoding"), (15, u "in"), (17, u "initialIn"), (0, u "Ljava/io/InputStream;"), (35, u "bootLayer"), (0, u "Ljava/lang/ModuleLayer;"), (99, .class_ 664), (0, u "java/lang/System$2"), (9, u "NEVER"), (2, u "MAYBE"), (49, u "arraycopy"), (0, u "(Ljava/lang/Object;ILjava/lang/Object;II)V"), (72, .class_ 802), (0, u "java/lang/System$Logger$Level")] 31

def k27m0 : Method := { name := "<init>", desc := "()V", sig := { parameters := [], returnType := none }, accessFlags := 2, code := none }
def k27m1 : Method := { name := "arraycopy", desc := "(Ljava/lang/Object;ILjava/lang/Object;II)V", sig := { parameters := [(.object "java/lang/Object"), .int, (.object "java/lang/Object"), .int, .int], returnType := none }, accessFlags := 265, code := none }
/-- java/lang/System -/
def k27 : Class := { plain "java/lang/System" (some 0) with
  accessFlags := 49
  interfaces := #[]
  cf := some (fileOf pool27 8 #[.nestMembers #[319, 327, 801, 108, 663, 208]] #[{ accessFlags := 2, nameIndex := 5, descriptorIndex := 6, attributes := #[] }, { accessFlags := 265, nameIndex := 727, descriptorIndex := 728, attributes := #[] }] 49 2 #[] #[{ accessFlags := 25, nameIndex := 507, descriptorIndex := 526, attributes := #[] }, { accessFlags := 25, nameIndex := 399, descriptorIndex := 155, attributes := #[] }, { accessFlags := 25, nameIndex := 396, descriptorIndex := 155, attributes := #[] }, { accessFlags := 10, nameIndex := 525, descriptorIndex := 526, attributes := #[] }, { accessFlags := 26, nameIndex := 674, descriptorIndex := 12, attributes := #[] }, { accessFlags := 26, nameIndex := 677, descriptorIndex := 12, attributes := #[] }, { accessFlags := 10, nameIndex := 11, descriptorIndex := 12, attributes := #[] }, { accessFlags := 74, nameIndex := 175, descriptorIndex := 176, attributes := #[] }, { accessFlags := 10, nameIndex := 491, descriptorIndex := 222, attributes := #[] }, { accessFlags := 74, nameIndex := 29, descriptorIndex := 30, attributes := #[] }, { accessFlags := 74, nameIndex := 154, descriptorIndex := 155, attributes := #[] }, { accessFlags := 10, nameIndex := 217, descriptorIndex := 218, attributes := #[] }, { accessFlags := 10, nameIndex := 221, descriptorIndex := 222, attributes := #[] }, { accessFlags := 8, nameIndex := 562, descriptorIndex := 563, attributes := #[] }])
  fields := #[{ name := "in", type := (.object "java/io/InputStream"), accessFlags := 25, slot := 0, constantValue := 0 }, { name := "out", type := (.object "java/io/PrintStream"), accessFlags := 25, slot := 1, constantValue := 0 }, { name := "err", type := (.object "java/io/PrintStream"), accessFlags := 25, slot := 2, constantValue := 0 }, { name := "initialIn", type := (.object "java/io/InputStream"), accessFlags := 10, slot := 3, constantValue := 0 }, { name := "NEVER", type := .int, accessFlags := 26, slot := 4, constantValue := 0 }, { name := "MAYBE", type := .int, accessFlags := 26, slot := 5, constantValue := 0 }, { name := "allowSecurityManager", type := .int, accessFlags := 10, slot := 6, constantValue := 0 }, { name := "security", type := (.object "java/lang/SecurityManager"), accessFlags := 74, slot := 7, constantValue := 0 }, { name := "notSupportedJnuEncoding", type := (.object "java/lang/String"), accessFlags := 10, slot := 8, constantValue := 0 }, { name := "cons", type := (.object "java/io/Console"), accessFlags := 74, slot := 9, constantValue := 0 }, { name := "initialErrStream", type := (.object "java/io/PrintStream"), accessFlags := 74, slot := 10, constantValue := 0 }, { name := "props", type := (.object "java/util/Properties"), accessFlags := 10, slot := 11, constantValue := 0 }, { name := "lineSeparator", type := (.object "java/lang/String"), accessFlags := 10, slot := 12, constantValue := 0 }, { name := "bootLayer", type := (.object "java/lang/ModuleLayer"), accessFlags := 8, slot := 13, constantValue := 0 }]
  methods := #[k27m0, k27m1]
  instanceTypes := #[]
  staticTypes := #[(.object "java/io/InputStream"), (.object "java/io/PrintStream"), (.object "java/io/PrintStream"), (.object "java/io/InputStream"), .int, .int, .int, (.object "java/lang/SecurityManager"), (.object "java/lang/String"), (.object "java/io/Console"), (.object "java/io/PrintStream"), (.object "java/util/Properties"), (.object "java/lang/String"), (.object "java/lang/ModuleLayer")]
  resolved := Array.replicate 834 none
  statics := none }

def pool28 : Array CpInfo := pool [(6, .class_ 8), (1, u "java/lang/Object"), (0, u "<init>"), (0, u "()V"), (1, .class_ 14), (1, u "java/lang/StringUTF16"), (31, u "$assertionsDisabled"), (0, u "Z"), (13, u "HI_BYTE_SHIFT"), (0, u "I"), (2, u "LO_BYTE_SHIFT"), (49, .methodref 12 116), (0, .nameAndType 117 118), (0, u "compress"), (0, u "([CI[BII)I"), (3, u "([CII)[B"), (138, u "coderFromArrayLen"), (0, u "([BI)B"), (106, .class_ 371), (1, u "java/lang/StringUTF16$LinesSpliterator"), (58, u "MAX_LENGTH"), (196, .class_ 628), (0, u "java/lang/StringUTF16$CodePointsSpliterator"), (0, .class_ 630), (0, u "java/lang/StringUTF16$CharsSpliterator")] 4

def k28m0 : Method := { name := "<init>", desc := "()V", sig := { parameters := [], returnType := none }, accessFlags := 0, code := none }
def k28c1 : Code := { maxStack := 2, maxLocals := 2, code := jdk_52_method_15_code, exceptionTable := #[], attributes := #[] }
def k28m1 : Method := { name := "coderFromArrayLen", desc := "([BI)B", sig := { parameters := [(.array .byte), .int], returnType := some .byte }, accessFlags := 8, code := some k28c1 }
def k28c2 : Code := { maxStack := 5, maxLocals := 6, code := jdk_52_method_16_code, exceptionTable := #[], attributes := #[] }
def k28m2 : Method := { name := "compress", desc := "([CII)[B", sig := { parameters := [(.array .char), .int, .int], returnType := some (.array .byte) }, accessFlags := 9, code := some k28c2 }
def k28c3 : Code := { maxStack := 3, maxLocals := 7, code := jdk_52_method_21_code, exceptionTable := #[], attributes := #[] }
def k28m3 : Method := { name := "compress", desc := "([CI[BII)I", sig := { parameters := [(.array .char), .int, (.array .byte), .int, .int], returnType := some .int }, accessFlags := 9, code := some k28c3 }
/-- java/lang/StringUTF16 -/
def k28 : Class := { plain "java/lang/StringUTF16" (some 0) with
  accessFlags := 48
  interfaces := #[]
  cf := some (fileOf pool28 12 #[.nestMembers #[627, 629, 369]] #[{ accessFlags := 0, nameIndex := 9, descriptorIndex := 10, attributes := #[] }, { accessFlags := 8, nameIndex := 261, descriptorIndex := 262, attributes := #[] }, { accessFlags := 9, nameIndex := 117, descriptorIndex := 122, attributes := #[] }, { accessFlags := 9, nameIndex := 117, descriptorIndex := 118, attributes := #[] }] 48 6 #[] #[{ accessFlags := 26, nameIndex := 61, descriptorIndex := 62, attributes := #[] }, { accessFlags := 26, nameIndex := 65, descriptorIndex := 62, attributes := #[] }, { accessFlags := 24, nameIndex := 430, descriptorIndex := 62, attributes := #[] }, { accessFlags := 4120, nameIndex := 46, descriptorIndex := 47, attributes := #[] }])
  fields := #[{ name := "HI_BYTE_SHIFT", type := .int, accessFlags := 26, slot := 0, constantValue := 0 }, { name := "LO_BYTE_SHIFT", type := .int, accessFlags := 26, slot := 1, constantValue := 0 }, { name := "MAX_LENGTH", type := .int, accessFlags := 24, slot := 2, constantValue := 0 }, { name := "$assertionsDisabled", type := .boolean, accessFlags := 4120, slot := 3, constantValue := 0 }]
  methods := #[k28m0, k28m1, k28m2, k28m3]
  instanceTypes := #[]
  staticTypes := #[.int, .int, .int, .boolean]
  resolved := Array.replicate 635 none
  statics := none }

def pool29 : Array CpInfo := pool [(9, u "<init>"), (6, .class_ 18), (1, u "java/lang/Object"), (0, u "()V"), (1, .class_ 23), (1, u "jdk/internal/util/ArraysSupport"), (0, u "LOG2_ARRAY_LONG_INDEX_SCALE"), (0, u "I"), (2, u "U"), (0, u "Ljdk/internal/misc/Unsafe;"), (8, u "BIG_ENDIAN"), (0, u "Z"), (8, u "LOG2_BYTE_BIT_SIZE"), (4, u "LOG2_ARRAY_INT_INDEX_SCALE"), (6, .class_ 61), (0, u "[B"), (0, .methodref 21 63), (0, .nameAndType 64 65), (0, u "signedHashCode"), (0, u "(I[BII)I"), (42, u "JLA"), (0, u "Ljdk/internal/access/JavaLangAccess;"), (11, u "LOG2_ARRAY_BOOLEAN_INDEX_SCALE"), (9, u "LOG2_ARRAY_BYTE_INDEX_SCALE"), (5, u "LOG2_ARRAY_CHAR_INDEX_SCALE"), (5, u "LOG2_ARRAY_SHORT_INDEX_SCALE"), (18, u "LOG2_ARRAY_FLOAT_INDEX_SCALE"), (24, u "LOG2_ARRAY_DOUBLE_INDEX_SCALE"), (89, u "T_BOOLEAN"), (2, u "T_CHAR"), (1, u "T_FLOAT"), (1, u "T_DOUBLE"), (1, u "T_BYTE"), (1, u "T_SHORT"), (1, u "T_INT"), (1, u "T_LONG"), (1, u "SOFT_MAX_ARRAY_LENGTH"), (26, u "vectorizedHashCode"), (0, u "(Ljava/lang/Object;IIII)I")] 55

def k29m0 : Method := { name := "<init>", desc := "()V", sig := { parameters := [], returnType := none }, accessFlags := 2, code := none }
def k29c1 : Code := { maxStack := 4, maxLocals := 5, code := jdk_48_method_4_code, exceptionTable := #[], attributes := #[] }
def k29m1 : Method := { name := "vectorizedHashCode", desc := "(Ljava/lang/Object;IIII)I", sig := { parameters := [(.object "java/lang/Object"), .int, .int, .int, .int], returnType := some .int }, accessFlags := 9, code := some k29c1 }
def k29c2 : Code := { maxStack := 3, maxLocals := 6, code := jdk_48_method_5_code, exceptionTable := #[], attributes := #[] }
def k29m2 : Method := { name := "signedHashCode", desc := "(I[BII)I", sig := { parameters := [.int, (.array .byte), .int, .int], returnType := some .int }, accessFlags := 10, code := some k29c2 }
/-- jdk/internal/util/ArraysSupport -/
def k29 : Class := { plain "jdk/internal/util/ArraysSupport" (some 0) with
  accessFlags := 33
  interfaces := #[]
  cf := some (fileOf pool29 21 #[] #[{ accessFlags := 2, nameIndex := 9, descriptorIndex := 19, attributes := #[] }, { accessFlags := 9, nameIndex := 321, descriptorIndex := 322, attributes := #[] }, { accessFlags := 10, nameIndex := 64, descriptorIndex := 65, attributes := #[] }] 33 16 #[] #[{ accessFlags := 24, nameIndex := 28, descriptorIndex := 29, attributes := #[] }, { accessFlags := 26, nameIndex := 38, descriptorIndex := 39, attributes := #[] }, { accessFlags := 25, nameIndex := 121, descriptorIndex := 25, attributes := #[] }, { accessFlags := 25, nameIndex := 131, descriptorIndex := 25, attributes := #[] }, { accessFlags := 25, nameIndex := 137, descriptorIndex := 25, attributes := #[] }, { accessFlags := 25, nameIndex := 143, descriptorIndex := 25, attributes := #[] }, { accessFlags := 25, nameIndex := 53, descriptorIndex := 25, attributes := #[] }, { accessFlags := 25, nameIndex := 24, descriptorIndex := 25, attributes := #[] }, { accessFlags := 25, nameIndex := 162, descriptorIndex := 25, attributes := #[] }, { accessFlags := 25, nameIndex := 187, descriptorIndex := 25, attributes := #[] }, { accessFlags := 26, nameIndex := 48, descriptorIndex := 25, attributes := #[] }, { accessFlags := 25, nameIndex := 277, descriptorIndex := 25, attributes := #[] }, { accessFlags := 25, nameIndex := 280, descriptorIndex := 25, attributes := #[] }, { accessFlags := 25, nameIndex := 282, descriptorIndex := 25, attributes := #[] }, { accessFlags := 25, nameIndex := 284, descriptorIndex := 25, attributes := #[] }, { accessFlags := 25, nameIndex := 286, descriptorIndex := 25, attributes := #[] }, { accessFlags := 25, nameIndex := 288, descriptorIndex := 25, attributes := #[] }, { accessFlags := 25, nameIndex := 290, descriptorIndex := 25, attributes := #[] }, { accessFlags := 25, nameIndex := 292, descriptorIndex := 25, attributes := #[] }, { accessFlags := 26, nameIndex := 108, descriptorIndex := 109, attributes := #[] }, { accessFlags := 25, nameIndex := 294, descriptorIndex := 25, attributes := #[] }])
  fields := #[{ name := "U", type := (.object "jdk/internal/misc/Unsafe"), accessFlags := 24, slot := 0, constantValue := 0 }, { name := "BIG_ENDIAN", type := .boolean, accessFlags := 26, slot := 1, constantValue := 0 }, { name := "LOG2_ARRAY_BOOLEAN_INDEX_SCALE", type := .int, accessFlags := 25, slot := 2, constantValue := 0 }, { name := "LOG2_ARRAY_BYTE_INDEX_SCALE", type := .int, accessFlags := 25, slot := 3, constantValue := 0 }, { name := "LOG2_ARRAY_CHAR_INDEX_SCALE", type := .int, accessFlags := 25, slot := 4, constantValue := 0 }, { name := "LOG2_ARRAY_SHORT_INDEX_SCALE", type := .int, accessFlags := 25, slot := 5, constantValue := 0 }, { name := "LOG2_ARRAY_INT_INDEX_SCALE", type := .int, accessFlags := 25, slot := 6, constantValue := 0 }, { name := "LOG2_ARRAY_LONG_INDEX_SCALE", type := .int, accessFlags := 25, slot := 7, constantValue := 0 }, { name := "LOG2_ARRAY_FLOAT_INDEX_SCALE", type := .int, accessFlags := 25, slot := 8, constantValue := 0 }, { name := "LOG2_ARRAY_DOUBLE_INDEX_SCALE", type := .int, accessFlags := 25, slot := 9, constantValue := 0 }, { name := "LOG2_BYTE_BIT_SIZE", type := .int, accessFlags := 26, slot := 10, constantValue := 0 }, { name := "T_BOOLEAN", type := .int, accessFlags := 25, slot := 11, constantValue := 0 }, { name := "T_CHAR", type := .int, accessFlags := 25, slot := 12, constantValue := 0 }, { name := "T_FLOAT", type := .int, accessFlags := 25, slot := 13, constantValue := 0 }, { name := "T_DOUBLE", type := .int, accessFlags := 25, slot := 14, constantValue := 0 }, { name := "T_BYTE", type := .int, accessFlags := 25, slot := 15, constantValue := 0 }, { name := "T_SHORT", type := .int, accessFlags := 25, slot := 16, constantValue := 0 }, { name := "T_INT", type := .int, accessFlags := 25, slot := 17, constantValue := 0 }, { name := "T_LONG", type := .int, accessFlags := 25, slot := 18, constantValue := 0 }, { name := "JLA", type := (.object "jdk/internal/access/JavaLangAccess"), accessFlags := 26, slot := 19, constantValue := 0 }, { name := "SOFT_MAX_ARRAY_LENGTH", type := .int, accessFlags := 25, slot := 20, constantValue := 0 }]
  methods := #[k29m0, k29m1, k29m2]
  instanceTypes := #[]
  staticTypes := #[(.object "jdk/internal/misc/Unsafe"), .boolean, .int, .int, .int, .int, .int, .int, .int, .int, .int, .int, .int, .int, .int, .int, .int, .int, .int, (.object "jdk/internal/access/JavaLangAccess"), .int]
  resolved := Array.replicate 378 none
  statics := none }

def pool30 : Array CpInfo := pool [(16, .class_ 18), (1, u "java/util/Iterator"), (0, u "hasNext"), (0, u "()Z"), (2, u "next"), (0, u "()Ljava/lang/Object;"), (6, .class_ 32), (0, u "java/lang/Object")] 20

def k30m0 : Method := { name := "hasNext", desc := "()Z", sig := { parameters := [], returnType := some .boolean }, accessFlags := 1025, code := none }
def k30m1 : Method := { name := "next", desc := "()Ljava/lang/Object;", sig := { parameters := [], returnType := some (.object "java/lang/Object") }, accessFlags := 1025, code := none }
/-- java/util/Iterator -/
def k30 : Class := { plain "java/util/Iterator" (some 0) with
  accessFlags := 1537
  interfaces := #[]
  cf := some (fileOf pool30 16 #[] #[{ accessFlags := 1025, nameIndex := 19, descriptorIndex := 20, attributes := #[] }, { accessFlags := 1025, nameIndex := 23, descriptorIndex := 24, attributes := #[] }] 1537 31 #[] #[])
  fields := #[]
  methods := #[k30m0, k30m1]
  instanceTypes := #[]
  staticTypes := #[]
  resolved := Array.replicate 53 none
  statics := none }

def pool31 : Array CpInfo := pool [(1, .class_ 2), (0, u "java/util/ListIterator"), (0, .class_ 4), (0, u "java/lang/Object"), (0, .class_ 6), (0, u "java/util/Iterator")] 20

/-- java/util/ListIterator -/
def k31 : Class := { plain "java/util/ListIterator" (some 0) with
  accessFlags := 1537
  interfaces := #[30]
  cf := some (fileOf pool31 1 #[] #[] 1537 3 #[5] #[])
  fields := #[]
  methods := #[]
  instanceTypes := #[]
  staticTypes := #[]
  resolved := Array.replicate 27 none
  statics := none }

def pool32 : Array CpInfo := pool [(1, .methodref 2 3), (0, .class_ 4), (0, .nameAndType 5 6), (0, u "java/lang/Object"), (0, u "<init>"), (0, u "()V"), (0, .fieldref 8 9), (0, .class_ 10), (0, .nameAndType 11 12), (0, u "java/util/ImmutableCollections$ListItr"), (0, u "list"), (0, u "Ljava/util/List;"), (0, .fieldref 8 14), (0, .nameAndType 15 16), (0, u "size"), (0, u "I"), (0, .fieldref 8 18), (0, .nameAndType 19 16), (0, u "cursor"), (0, .fieldref 8 21), (0, .nameAndType 22 23), (0, u "isListIterator"), (0, u "Z"), (0, .interfaceMethodref 25 26), (0, .class_ 27), (0, .nameAndType 28 29), (0, u "java/util/List"), (0, u "get"), (0, u "(I)Ljava/lang/Object;"), (6, .class_ 38), (1, u "java/util/ImmutableCollections"), (2, .class_ 42), (0, u "java/util/ListIterator"), (4, u "(Ljava/util/List;I)V"), (11, u "hasNext"), (0, u "()Z"), (1, u "next"), (0, u "()Ljava/lang/Object;")] 22

def k32c0 : Code := { maxStack := 2, maxLocals := 3, code := jdk_53_method_1_code, exceptionTable := #[], attributes := #[] }
def k32m0 : Method := { name := "<init>", desc := "(Ljava/util/List;I)V", sig := { parameters := [(.object "java/util/List"), .int], returnType := none }, accessFlags := 0, code := some k32c0 }
def k32c1 : Code := { maxStack := 2, maxLocals := 1, code := jdk_53_method_3_code, exceptionTable := #[], attributes := #[] }
def k32m1 : Method := { name := "hasNext", desc := "()Z", sig := { parameters := [], returnType := some .boolean }, accessFlags := 1, code := some k32c1 }
def k32c2 : Code := { maxStack := 3, maxLocals := 3, code := jdk_53_method_4_code, exceptionTable := #[{ startPc := 0, endPc := 24, handlerPc := 25, catchType := 30 }], attributes := #[] }
def k32m2 : Method := { name := "next", desc := "()Ljava/lang/Object;", sig := { parameters := [], returnType := some (.object "java/lang/Object") }, accessFlags := 1, code := some k32c2 }
/-- java/util/ImmutableCollections$ListItr -/
def k32 : Class := { plain "java/util/ImmutableCollections$ListItr" (some 0) with
  accessFlags := 48
  interfaces := #[31]
  cf := some (fileOf pool32 8 #[.nestHost 36] #[{ accessFlags := 0, nameIndex := 5, descriptorIndex := 47, attributes := #[] }, { accessFlags := 1, nameIndex := 59, descriptorIndex := 60, attributes := #[] }, { accessFlags := 1, nameIndex := 62, descriptorIndex := 63, attributes := #[] }] 48 2 #[41] #[{ accessFlags := 18, nameIndex := 11, descriptorIndex := 12, attributes := #[] }, { accessFlags := 18, nameIndex := 15, descriptorIndex := 16, attributes := #[] }, { accessFlags := 18, nameIndex := 22, descriptorIndex := 23, attributes := #[] }, { accessFlags := 2, nameIndex := 19, descriptorIndex := 16, attributes := #[] }])
  fields := #[{ name := "list", type := (.object "java/util/List"), accessFlags := 18, slot := 0, constantValue := 0 }, { name := "size", type := .int, accessFlags := 18, slot := 1, constantValue := 0 }, { name := "isListIterator", type := .boolean, accessFlags := 18, slot := 2, constantValue := 0 }, { name := "cursor", type := .int, accessFlags := 2, slot := 3, constantValue := 0 }]
  methods := #[k32m0, k32m1, k32m2]
  instanceTypes := #[(.object "java/util/List"), .int, .boolean, .int]
  staticTypes := #[]
  resolved := Array.replicate 86 none
  statics := none }

def pool33 : Array CpInfo := pool [(2, .class_ 4), (1, u "java/lang/Object"), (0, u "<init>"), (0, u "()V"), (17, .class_ 26), (1, u "jdk/internal/util/Preconditions"), (28, .class_ 56), (0, u "jdk/internal/util/Preconditions$4"), (57, .class_ 115), (0, u "jdk/internal/util/Preconditions$1"), (7, u "SIOOBE_FORMATTER"), (0, u "Ljava/util/function/BiFunction;"), (0, .class_ 126), (0, u "jdk/internal/util/Preconditions$2"), (3, u "AIOOBE_FORMATTER"), (0, .class_ 132), (0, u "jdk/internal/util/Preconditions$3"), (3, u "IOOBE_FORMATTER")] 57

def k33m0 : Method := { name := "<init>", desc := "()V", sig := { parameters := [], returnType := none }, accessFlags := 1, code := none }
/-- jdk/internal/util/Preconditions -/
def k33 : Class := { plain "jdk/internal/util/Preconditions" (some 0) with
  accessFlags := 33
  interfaces := #[]
  cf := some (fileOf pool33 24 #[.nestMembers #[55, 131, 125, 114]] #[{ accessFlags := 1, nameIndex := 5, descriptorIndex := 6, attributes := #[] }] 33 2 #[] #[{ accessFlags := 25, nameIndex := 123, descriptorIndex := 124, attributes := #[] }, { accessFlags := 25, nameIndex := 130, descriptorIndex := 124, attributes := #[] }, { accessFlags := 25, nameIndex := 136, descriptorIndex := 124, attributes := #[] }])
  fields := #[{ name := "SIOOBE_FORMATTER", type := (.object "java/util/function/BiFunction"), accessFlags := 25, slot := 0, constantValue := 0 }, { name := "AIOOBE_FORMATTER", type := (.object "java/util/function/BiFunction"), accessFlags := 25, slot := 1, constantValue := 0 }, { name := "IOOBE_FORMATTER", type := (.object "java/util/function/BiFunction"), accessFlags := 25, slot := 2, constantValue := 0 }]
  methods := #[k33m0]
  instanceTypes := #[]
  staticTypes := #[(.object "java/util/function/BiFunction"), (.object "java/util/function/BiFunction"), (.object "java/util/function/BiFunction")]
  resolved := Array.replicate 194 none
  statics := some 3 }

def pool34 : Array CpInfo := pool [(1, u "java/lang/Class"), (0, .class_ 1), (0, u "java/lang/Object"), (0, .class_ 3)] 3

/-- java/lang/Class -/
def k34 : Class := { plain "java/lang/Class" (some 0) with
  accessFlags := 49
  interfaces := #[]
  cf := some (fileOf pool34 2 #[] #[] 49 4 #[] #[])
  fields := #[]
  methods := #[]
  instanceTypes := #[]
  staticTypes := #[]
  resolved := Array.replicate 8 none
  statics := none }

/-- the primitive byte -/
def k35 : Class := { plain "byte" none with kind := .primitive 'B', accessFlags := 0x411 }
/-- [B -/
def k36 : Class := { plain "[B" (some 0) with kind := .array 35 .byte, interfaces := #[16, 3], accessFlags := 1041 }

/-- the primitive char -/
def k37 : Class := { plain "char" none with kind := .primitive 'C', accessFlags := 0x411 }
/-- [C -/
def k38 : Class := { plain "[C" (some 0) with kind := .array 37 .char, interfaces := #[16, 3], accessFlags := 1041 }

/-- the primitive int -/
def k39 : Class := { plain "int" none with kind := .primitive 'I', accessFlags := 0x411 }
/-- [I -/
def k40 : Class := { plain "[I" (some 0) with kind := .array 39 .int, interfaces := #[16, 3], accessFlags := 1041 }

/-- [Ljava/lang/Object; -/
def k41 : Class := { plain "[Ljava/lang/Object;" (some 0) with mirror := some 4, kind := .array 0 (.object "java/lang/Object"), interfaces := #[16, 3], accessFlags := 1041 }

def heap : Heap := #[{ cls := 8, slots := #[.long 0, .int 1, .null, .int 0, .null, .int 0, .int 0], vm := .statics 8 },
  { cls := 17, slots := #[.long 0, .int 0, .ref 5, .ref 5], vm := .statics 17 },
  { cls := 18, slots := #[.long 0, .int 0, .null, .ref 7, .ref 6, .null, .null, .null, .int 0, .int 1], vm := .statics 18 },
  { cls := 33, slots := #[.null, .null, .null], vm := .statics 33 },
  { cls := 34, slots := #[], vm := .mirror 41 },
  { cls := 41, slots := #[], vm := .none },
  { cls := 22, slots := #[.ref 5, .int 0], vm := .none },
  { cls := 0, slots := #[], vm := .none }]
def classes : Array Class := #[k0, k1, k2, k3, k4, k5, k6, k7, k8, k9, k10, k11, k12, k13, k14, k15, k16, k17, k18, k19, k20, k21, k22, k23, k24, k25, k26, k27, k28, k29, k30, k31, k32, k33, k34, k35, k36, k37, k38, k39, k40, k41]
def interned : List (Array UInt16 × Addr) := []
def slotsUsed : Nat := 26
def theMethod : MethodId := ⟨1, 4⟩
def args0 : Array Value := #[.int 5, .int 1, .int 7, .int 8, .int 3]
def aboutOver (below : List Frame) : State where
  vm := { classes := classes, interned := interned.toArray }
  heap := heap
  slotsUsed := slotsUsed
  threads := #[{ frames := .invoking theMethod args0 :: below }]
def below0 : List Frame := [.native { method := ⟨0, 0⟩, args := #[] }]
def about1 : State := aboutOver below0
def p0 : Program := .bare "" "" ""
def e0 : Env := launch0.env 0 0 0
theorem w_frames : about1.frames = Frame.invoking theMethod args0 :: below0 := rfl
set_option maxRecDepth 65536 in
theorem w_args : argsFit about1.vm theMethod args0 = true := by decide +kernel
set_option maxRecDepth 65536 in
theorem w_heap : heapFits about1 = true := by decide +kernel
set_option maxRecDepth 65536 in
theorem w_runnable : about1.curStatus? = some .runnable := by decide +kernel
set_option maxRecDepth 65536 in
theorem w_alone : about1.alone = true := by decide +kernel
set_option maxRecDepth 65536 in
theorem w_named : about1.methodNamed? x = some theMethod := by decide +kernel
set_option maxRecDepth 65536 in
theorem w_hears : about1.hears theMethod below0 = true := by decide +kernel
set_option maxRecDepth 65536 in
theorem w_ripe : about1.ripe theMethod args0 below0 = true := by decide +kernel
theorem w_running : about1.status = .running := rfl
set_option maxRecDepth 65536 in
theorem w_room : about1.hasRoom e0.platform room_1 = true :=
  launch0.hasRoom_least _ room_1 (by decide +kernel) (by decide +kernel) (by decide +kernel) (by decide +kernel) (by decide +kernel) (by decide +kernel)
theorem allAtoms_all (ts : List Jvm.Cond) (a : Array Jvm.Value) (st : Jvm.State) : (allAtoms ts).before a st = ts.all (fun c => c.before a st) := by
  induction ts with
  | nil => rfl
  | cons c t ih =>
    show (Jvm.Cond.and c (allAtoms t)).before a st = _
    rw [Jvm.Cond.before_and, ih, List.all_cons]
def words1 : List Jvm.Cond := Jvm.Cond.code x code maxLocals ret :: tables_1
/-- a 'code' word, met by the world's own term for the bytes: nothing is compared byte by byte -/
theorem code_word {y : MethodName} {bytes : ByteArray} {mx : Nat} {rt : Option FieldType} {a : Array Value} {s : State} {m : MethodId} {meth : Method} {c : Code} (h1 : s.methodNamed? y = some m) (h2 : s.vm.method? m = some meth) (h3 : meth.code = some c) (h4 : c.code = bytes)
    (h5 : (c.maxLocals == mx && c.exceptionTable.isEmpty && decide (c.maxStack ≤ mostOperands) && decide (meth.sig.returnType = rt) && !meth.locks && decide (parseMethodDescriptor y.desc = some meth.sig)) = true) : (Jvm.Cond.code y bytes mx rt).before a s = true := by
  simp only [Bool.and_eq_true, beq_iff_eq, Bool.not_eq_true', decide_eq_true_eq] at h5
  obtain ⟨⟨⟨⟨⟨g1, g2⟩, g3⟩, g4⟩, g5⟩, g6⟩ := h5
  simp [Cond.before, Cond.holds, Cond.value, h1, h2, h3, h4, g1, g2, g3, g4, g5, g6]
def isCode : Jvm.Cond → Bool
  | .code _ _ _ _ => true
  | _ => false
theorem all_split {L : List Jvm.Cond} {P : Jvm.Cond → Bool} (h1 : L.all (fun c => isCode c || P c) = true) (h2 : ∀ c ∈ L.filter isCode, P c = true) : L.all P = true := by
  refine List.all_eq_true.mpr fun c hc => ?_
  have h := List.all_eq_true.mp h1 c hc
  rcases Bool.eq_false_or_eq_true (isCode c) with hi | hi
  · exact h2 c (List.mem_filter.mpr ⟨hc, hi⟩)
  · simpa [hi] using h
set_option maxRecDepth 65536 in
theorem w_c0 : (Jvm.Cond.code x code maxLocals ret).before args0 about1 = true := code_word (m := ⟨1, 4⟩) (meth := k1m4) (c := k1c4) (by decide +kernel) rfl rfl rfl (by decide +kernel)
set_option maxRecDepth 65536 in
theorem w_c1 : (Jvm.Cond.code ({ cls := "com/example/simple_rocchio/simplerocchio/TextHashCodePinLaw", name := "make", desc := "(II)Lcom/example/simple_rocchio/simplerocchio/CollectionDocument$Text;" } : Jvm.MethodName) method_4_code (2 : Nat) (Option.some (Jvm.ClassFile.FieldType.object "com/example/simple_rocchio/simplerocchio/CollectionDocument$Text"))).before args0 about1 = true := code_word (m := ⟨1, 3⟩) (meth := k1m3) (c := k1c3) (by decide +kernel) rfl rfl rfl (by decide +kernel)
set_option maxRecDepth 65536 in
theorem w_c2 : (Jvm.Cond.code ({ cls := "com/example/simple_rocchio/simplerocchio/TextHashCodePinLaw", name := "str", desc := "(II)Ljava/lang/String;" } : Jvm.MethodName) method_2_code (2 : Nat) (Option.some (Jvm.ClassFile.FieldType.object "java/lang/String"))).before args0 about1 = true := code_word (m := ⟨1, 1⟩) (meth := k1m1) (c := k1c1) (by decide +kernel) rfl rfl rfl (by decide +kernel)
set_option maxRecDepth 65536 in
theorem w_c3 : (Jvm.Cond.code ({ cls := "java/lang/String", name := "<init>", desc := "([C)V" } : Jvm.MethodName) jdk_42_method_3_code (2 : Nat) (Option.none : Option Jvm.ClassFile.FieldType)).before args0 about1 = true := code_word (m := ⟨8, 1⟩) (meth := k8m1) (c := k8c1) (by decide +kernel) rfl rfl rfl (by decide +kernel)
set_option maxRecDepth 65536 in
theorem w_c4 : (Jvm.Cond.code ({ cls := "java/lang/String", name := "<init>", desc := "([CIILjava/lang/Void;)V" } : Jvm.MethodName) jdk_42_method_149_code (6 : Nat) (Option.none : Option Jvm.ClassFile.FieldType)).before args0 about1 = true := code_word (m := ⟨8, 5⟩) (meth := k8m5) (c := k8c5) (by decide +kernel) rfl rfl rfl (by decide +kernel)
set_option maxRecDepth 65536 in
theorem w_c5 : (Jvm.Cond.code ({ cls := "java/lang/Object", name := "<init>", desc := "()V" } : Jvm.MethodName) object_method_1_code (1 : Nat) (Option.none : Option Jvm.ClassFile.FieldType)).before args0 about1 = true := code_word (m := ⟨0, 0⟩) (meth := k0m0) (c := k0c0) (by decide +kernel) rfl rfl rfl (by decide +kernel)
set_option maxRecDepth 65536 in
theorem w_c6 : (Jvm.Cond.code ({ cls := "com/example/simple_rocchio/simplerocchio/TextHashCodePinLaw", name := "fields", desc := "(I)Ljava/util/List;" } : Jvm.MethodName) method_3_code (3 : Nat) (Option.some (Jvm.ClassFile.FieldType.object "java/util/List"))).before args0 about1 = true := code_word (m := ⟨1, 2⟩) (meth := k1m2) (c := k1c2) (by decide +kernel) rfl rfl rfl (by decide +kernel)
set_option maxRecDepth 65536 in
theorem w_c7 : (Jvm.Cond.code ({ cls := "java/util/ArrayList", name := "<init>", desc := "()V" } : Jvm.MethodName) jdk_38_method_2_code (1 : Nat) (Option.none : Option Jvm.ClassFile.FieldType)).before args0 about1 = true := code_word (m := ⟨17, 0⟩) (meth := k17m0) (c := k17c0) (by decide +kernel) rfl rfl rfl (by decide +kernel)
set_option maxRecDepth 65536 in
theorem w_c8 : (Jvm.Cond.code ({ cls := "java/util/AbstractList", name := "<init>", desc := "()V" } : Jvm.MethodName) jdk_39_method_1_code (1 : Nat) (Option.none : Option Jvm.ClassFile.FieldType)).before args0 about1 = true := code_word (m := ⟨14, 0⟩) (meth := k14m0) (c := k14c0) (by decide +kernel) rfl rfl rfl (by decide +kernel)
set_option maxRecDepth 65536 in
theorem w_c9 : (Jvm.Cond.code ({ cls := "java/util/AbstractCollection", name := "<init>", desc := "()V" } : Jvm.MethodName) jdk_22_method_1_code (1 : Nat) (Option.none : Option Jvm.ClassFile.FieldType)).before args0 about1 = true := code_word (m := ⟨11, 0⟩) (meth := k11m0) (c := k11c0) (by decide +kernel) rfl rfl rfl (by decide +kernel)
set_option maxRecDepth 65536 in
theorem w_c10 : (Jvm.Cond.code ({ cls := "com/example/simple_rocchio/simplerocchio/CollectionDocument$Text", name := "<init>", desc := "(Ljava/lang/String;Ljava/util/List;)V" } : Jvm.MethodName) prog_3_method_1_code (3 : Nat) (Option.none : Option Jvm.ClassFile.FieldType)).before args0 about1 = true := code_word (m := ⟨2, 0⟩) (meth := k2m0) (c := k2c0) (by decide +kernel) rfl rfl rfl (by decide +kernel)
set_option maxRecDepth 65536 in
theorem w_c11 : (Jvm.Cond.code ({ cls := "java/util/List", name := "copyOf", desc := "(Ljava/util/Collection;)Ljava/util/List;" } : Jvm.MethodName) jdk_40_method_48_code (1 : Nat) (Option.some (Jvm.ClassFile.FieldType.object "java/util/List"))).before args0 about1 = true := code_word (m := ⟨13, 6⟩) (meth := k13m6) (c := k13c6) (by decide +kernel) rfl rfl rfl (by decide +kernel)
set_option maxRecDepth 65536 in
theorem w_c12 : (Jvm.Cond.code ({ cls := "java/util/ImmutableCollections", name := "listCopy", desc := "(Ljava/util/Collection;)Ljava/util/List;" } : Jvm.MethodName) jdk_56_method_3_code (2 : Nat) (Option.some (Jvm.ClassFile.FieldType.object "java/util/List"))).before args0 about1 = true := code_word (m := ⟨18, 1⟩) (meth := k18m1) (c := k18c1) (by decide +kernel) rfl rfl rfl (by decide +kernel)
set_option maxRecDepth 65536 in
theorem w_c13 : (Jvm.Cond.code ({ cls := "java/util/ArrayList", name := "isEmpty", desc := "()Z" } : Jvm.MethodName) jdk_38_method_9_code (1 : Nat) (Option.some Jvm.ClassFile.FieldType.boolean)).before args0 about1 = true := code_word (m := ⟨17, 3⟩) (meth := k17m3) (c := k17c3) (by decide +kernel) rfl rfl rfl (by decide +kernel)
set_option maxRecDepth 65536 in
theorem w_c14 : (Jvm.Cond.code ({ cls := "java/util/List", name := "of", desc := "()Ljava/util/List;" } : Jvm.MethodName) jdk_40_method_36_code (0 : Nat) (Option.some (Jvm.ClassFile.FieldType.object "java/util/List"))).before args0 about1 = true := code_word (m := ⟨13, 4⟩) (meth := k13m4) (c := k13c4) (by decide +kernel) rfl rfl rfl (by decide +kernel)
set_option maxRecDepth 65536 in
theorem w_c15 : (Jvm.Cond.code ({ cls := "com/example/simple_rocchio/simplerocchio/CollectionDocument$Text", name := "equals", desc := "(Ljava/lang/Object;)Z" } : Jvm.MethodName) prog_3_method_4_code (3 : Nat) (Option.some Jvm.ClassFile.FieldType.boolean)).before args0 about1 = true := code_word (m := ⟨2, 1⟩) (meth := k2m1) (c := k2c1) (by decide +kernel) rfl rfl rfl (by decide +kernel)
set_option maxRecDepth 65536 in
theorem w_c16 : (Jvm.Cond.code ({ cls := "java/lang/String", name := "equals", desc := "(Ljava/lang/Object;)Z" } : Jvm.MethodName) jdk_42_method_66_code (3 : Nat) (Option.some Jvm.ClassFile.FieldType.boolean)).before args0 about1 = true := code_word (m := ⟨8, 2⟩) (meth := k8m2) (c := k8c2) (by decide +kernel) rfl rfl rfl (by decide +kernel)
set_option maxRecDepth 65536 in
theorem w_c17 : (Jvm.Cond.code ({ cls := "java/lang/StringLatin1", name := "equals", desc := "([B[B)Z" } : Jvm.MethodName) jdk_43_method_13_code (3 : Nat) (Option.some Jvm.ClassFile.FieldType.boolean)).before args0 about1 = true := code_word (m := ⟨23, 2⟩) (meth := k23m2) (c := k23c2) (by decide +kernel) rfl rfl rfl (by decide +kernel)
set_option maxRecDepth 65536 in
theorem w_c18 : (Jvm.Cond.code ({ cls := "java/util/ImmutableCollections$AbstractImmutableList", name := "equals", desc := "(Ljava/lang/Object;)Z" } : Jvm.MethodName) jdk_46_method_13_code (5 : Nat) (Option.some Jvm.ClassFile.FieldType.boolean)).before args0 about1 = true := code_word (m := ⟨20, 2⟩) (meth := k20m2) (c := k20c2) (by decide +kernel) rfl rfl rfl (by decide +kernel)
set_option maxRecDepth 65536 in
theorem w_c19 : (Jvm.Cond.code ({ cls := "com/example/simple_rocchio/simplerocchio/CollectionDocument$Text", name := "hashCode", desc := "()I" } : Jvm.MethodName) prog_3_method_5_code (1 : Nat) (Option.some Jvm.ClassFile.FieldType.int)).before args0 about1 = true := code_word (m := ⟨2, 2⟩) (meth := k2m2) (c := k2c2) (by decide +kernel) rfl rfl rfl (by decide +kernel)
set_option maxRecDepth 65536 in
theorem w_c20 : (Jvm.Cond.code ({ cls := "java/util/Objects", name := "hash", desc := "([Ljava/lang/Object;)I" } : Jvm.MethodName) jdk_31_method_5_code (1 : Nat) (Option.some Jvm.ClassFile.FieldType.int)).before args0 about1 = true := code_word (m := ⟨24, 3⟩) (meth := k24m3) (c := k24c3) (by decide +kernel) rfl rfl rfl (by decide +kernel)
set_option maxRecDepth 65536 in
theorem w_c21 : (Jvm.Cond.code ({ cls := "java/util/Arrays", name := "hashCode", desc := "([Ljava/lang/Object;)I" } : Jvm.MethodName) jdk_65_method_157_code (6 : Nat) (Option.some Jvm.ClassFile.FieldType.int)).before args0 about1 = true := code_word (m := ⟨25, 3⟩) (meth := k25m3) (c := k25c3) (by decide +kernel) rfl rfl rfl (by decide +kernel)
set_option maxRecDepth 65536 in
theorem w_c22 : (Jvm.Cond.code ({ cls := "java/lang/String", name := "hashCode", desc := "()I" } : Jvm.MethodName) jdk_42_method_78_code (2 : Nat) (Option.some Jvm.ClassFile.FieldType.int)).before args0 about1 = true := code_word (m := ⟨8, 3⟩) (meth := k8m3) (c := k8c3) (by decide +kernel) rfl rfl rfl (by decide +kernel)
set_option maxRecDepth 65536 in
theorem w_c23 : (Jvm.Cond.code ({ cls := "java/lang/String", name := "isLatin1", desc := "()Z" } : Jvm.MethodName) jdk_42_method_154_code (1 : Nat) (Option.some Jvm.ClassFile.FieldType.boolean)).before args0 about1 = true := code_word (m := ⟨8, 7⟩) (meth := k8m7) (c := k8c7) (by decide +kernel) rfl rfl rfl (by decide +kernel)
set_option maxRecDepth 65536 in
theorem w_c24 : (Jvm.Cond.code ({ cls := "java/lang/StringLatin1", name := "hashCode", desc := "([B)I" } : Jvm.MethodName) jdk_43_method_21_code (1 : Nat) (Option.some Jvm.ClassFile.FieldType.int)).before args0 about1 = true := code_word (m := ⟨23, 3⟩) (meth := k23m3) (c := k23c3) (by decide +kernel) rfl rfl rfl (by decide +kernel)
set_option maxRecDepth 65536 in
theorem w_c25 : (Jvm.Cond.code ({ cls := "java/util/ImmutableCollections$AbstractImmutableList", name := "hashCode", desc := "()I" } : Jvm.MethodName) jdk_46_method_14_code (4 : Nat) (Option.some Jvm.ClassFile.FieldType.int)).before args0 about1 = true := code_word (m := ⟨20, 3⟩) (meth := k20m3) (c := k20c3) (by decide +kernel) rfl rfl rfl (by decide +kernel)
set_option maxRecDepth 65536 in
theorem w_c26 : (Jvm.Cond.code ({ cls := "java/util/ImmutableCollections$ListN", name := "size", desc := "()I" } : Jvm.MethodName) jdk_45_method_3_code (1 : Nat) (Option.some Jvm.ClassFile.FieldType.int)).before args0 about1 = true := code_word (m := ⟨22, 0⟩) (meth := k22m0) (c := k22c0) (by decide +kernel) rfl rfl rfl (by decide +kernel)
set_option maxRecDepth 65536 in
theorem w_c27 : (Jvm.Cond.code ({ cls := "java/lang/String", name := "valueOf", desc := "(C)Ljava/lang/String;" } : Jvm.MethodName) jdk_42_method_139_code (1 : Nat) (Option.some (Jvm.ClassFile.FieldType.object "java/lang/String"))).before args0 about1 = true := code_word (m := ⟨8, 4⟩) (meth := k8m4) (c := k8c4) (by decide +kernel) rfl rfl rfl (by decide +kernel)
set_option maxRecDepth 65536 in
theorem w_c28 : (Jvm.Cond.code ({ cls := "java/lang/StringLatin1", name := "canEncode", desc := "(C)Z" } : Jvm.MethodName) jdk_43_method_3_code (1 : Nat) (Option.some Jvm.ClassFile.FieldType.boolean)).before args0 about1 = true := code_word (m := ⟨23, 1⟩) (meth := k23m1) (c := k23c1) (by decide +kernel) rfl rfl rfl (by decide +kernel)
set_option maxRecDepth 65536 in
theorem w_c29 : (Jvm.Cond.code ({ cls := "java/lang/StringLatin1", name := "toBytes", desc := "(C)[B" } : Jvm.MethodName) jdk_43_method_46_code (1 : Nat) (Option.some (Jvm.ClassFile.FieldType.array Jvm.ClassFile.FieldType.byte))).before args0 about1 = true := code_word (m := ⟨23, 4⟩) (meth := k23m4) (c := k23c4) (by decide +kernel) rfl rfl rfl (by decide +kernel)
set_option maxRecDepth 65536 in
theorem w_c30 : (Jvm.Cond.code ({ cls := "java/lang/String", name := "<init>", desc := "([BB)V" } : Jvm.MethodName) jdk_42_method_151_code (3 : Nat) (Option.none : Option Jvm.ClassFile.FieldType)).before args0 about1 = true := code_word (m := ⟨8, 6⟩) (meth := k8m6) (c := k8c6) (by decide +kernel) rfl rfl rfl (by decide +kernel)
set_option maxRecDepth 65536 in
theorem w_c31 : (Jvm.Cond.code ({ cls := "java/util/ArrayList", name := "add", desc := "(Ljava/lang/Object;)Z" } : Jvm.MethodName) jdk_38_method_25_code (2 : Nat) (Option.some Jvm.ClassFile.FieldType.boolean)).before args0 about1 = true := code_word (m := ⟨17, 6⟩) (meth := k17m6) (c := k17c6) (by decide +kernel) rfl rfl rfl (by decide +kernel)
set_option maxRecDepth 65536 in
theorem w_c32 : (Jvm.Cond.code ({ cls := "java/util/ArrayList", name := "add", desc := "(Ljava/lang/Object;[Ljava/lang/Object;I)V" } : Jvm.MethodName) jdk_38_method_24_code (4 : Nat) (Option.none : Option Jvm.ClassFile.FieldType)).before args0 about1 = true := code_word (m := ⟨17, 5⟩) (meth := k17m5) (c := k17c5) (by decide +kernel) rfl rfl rfl (by decide +kernel)
set_option maxRecDepth 65536 in
theorem w_c33 : (Jvm.Cond.code ({ cls := "java/util/ArrayList", name := "grow", desc := "()[Ljava/lang/Object;" } : Jvm.MethodName) jdk_38_method_7_code (1 : Nat) (Option.some (Jvm.ClassFile.FieldType.array (Jvm.ClassFile.FieldType.object "java/lang/Object")))).before args0 about1 = true := code_word (m := ⟨17, 2⟩) (meth := k17m2) (c := k17c2) (by decide +kernel) rfl rfl rfl (by decide +kernel)
set_option maxRecDepth 65536 in
theorem w_c34 : (Jvm.Cond.code ({ cls := "java/util/ArrayList", name := "grow", desc := "(I)[Ljava/lang/Object;" } : Jvm.MethodName) jdk_38_method_6_code (4 : Nat) (Option.some (Jvm.ClassFile.FieldType.array (Jvm.ClassFile.FieldType.object "java/lang/Object")))).before args0 about1 = true := code_word (m := ⟨17, 1⟩) (meth := k17m1) (c := k17c1) (by decide +kernel) rfl rfl rfl (by decide +kernel)
set_option maxRecDepth 65536 in
theorem w_c35 : (Jvm.Cond.code ({ cls := "java/lang/Math", name := "max", desc := "(II)I" } : Jvm.MethodName) jdk_29_method_65_code (2 : Nat) (Option.some Jvm.ClassFile.FieldType.int)).before args0 about1 = true := code_word (m := ⟨26, 1⟩) (meth := k26m1) (c := k26c1) (by decide +kernel) rfl rfl rfl (by decide +kernel)
set_option maxRecDepth 65536 in
theorem w_c36 : (Jvm.Cond.code ({ cls := "java/util/ArrayList", name := "toArray", desc := "()[Ljava/lang/Object;" } : Jvm.MethodName) jdk_38_method_16_code (1 : Nat) (Option.some (Jvm.ClassFile.FieldType.array (Jvm.ClassFile.FieldType.object "java/lang/Object")))).before args0 about1 = true := code_word (m := ⟨17, 4⟩) (meth := k17m4) (c := k17c4) (by decide +kernel) rfl rfl rfl (by decide +kernel)
set_option maxRecDepth 65536 in
theorem w_c37 : (Jvm.Cond.code ({ cls := "java/util/Arrays", name := "copyOf", desc := "([Ljava/lang/Object;I)[Ljava/lang/Object;" } : Jvm.MethodName) jdk_65_method_119_code (2 : Nat) (Option.some (Jvm.ClassFile.FieldType.array (Jvm.ClassFile.FieldType.object "java/lang/Object")))).before args0 about1 = true := code_word (m := ⟨25, 1⟩) (meth := k25m1) (c := k25c1) (by decide +kernel) rfl rfl rfl (by decide +kernel)
set_option maxRecDepth 65536 in
theorem w_c38 : (Jvm.Cond.code ({ cls := "java/util/Arrays", name := "copyOf", desc := "([Ljava/lang/Object;ILjava/lang/Class;)[Ljava/lang/Object;" } : Jvm.MethodName) jdk_65_method_120_code (4 : Nat) (Option.some (Jvm.ClassFile.FieldType.array (Jvm.ClassFile.FieldType.object "java/lang/Object")))).before args0 about1 = true := code_word (m := ⟨25, 2⟩) (meth := k25m2) (c := k25c2) (by decide +kernel) rfl rfl rfl (by decide +kernel)
set_option maxRecDepth 65536 in
theorem w_c39 : (Jvm.Cond.code ({ cls := "java/lang/Math", name := "min", desc := "(II)I" } : Jvm.MethodName) jdk_29_method_69_code (2 : Nat) (Option.some Jvm.ClassFile.FieldType.int)).before args0 about1 = true := code_word (m := ⟨26, 2⟩) (meth := k26m2) (c := k26c2) (by decide +kernel) rfl rfl rfl (by decide +kernel)
set_option maxRecDepth 65536 in
theorem w_c40 : (Jvm.Cond.code ({ cls := "java/util/List", name := "of", desc := "([Ljava/lang/Object;)Ljava/util/List;" } : Jvm.MethodName) jdk_40_method_47_code (2 : Nat) (Option.some (Jvm.ClassFile.FieldType.object "java/util/List"))).before args0 about1 = true := code_word (m := ⟨13, 5⟩) (meth := k13m5) (c := k13c5) (by decide +kernel) rfl rfl rfl (by decide +kernel)
set_option maxRecDepth 65536 in
theorem w_c41 : (Jvm.Cond.code ({ cls := "java/util/ImmutableCollections$List12", name := "<init>", desc := "(Ljava/lang/Object;Ljava/lang/Object;)V" } : Jvm.MethodName) jdk_44_method_2_code (3 : Nat) (Option.none : Option Jvm.ClassFile.FieldType)).before args0 about1 = true := code_word (m := ⟨21, 1⟩) (meth := k21m1) (c := k21c1) (by decide +kernel) rfl rfl rfl (by decide +kernel)
set_option maxRecDepth 65536 in
theorem w_c42 : (Jvm.Cond.code ({ cls := "java/util/ImmutableCollections$AbstractImmutableList", name := "<init>", desc := "()V" } : Jvm.MethodName) jdk_46_method_1_code (1 : Nat) (Option.none : Option Jvm.ClassFile.FieldType)).before args0 about1 = true := code_word (m := ⟨20, 0⟩) (meth := k20m0) (c := k20c0) (by decide +kernel) rfl rfl rfl (by decide +kernel)
set_option maxRecDepth 65536 in
theorem w_c43 : (Jvm.Cond.code ({ cls := "java/util/ImmutableCollections$AbstractImmutableCollection", name := "<init>", desc := "()V" } : Jvm.MethodName) jdk_47_method_1_code (1 : Nat) (Option.none : Option Jvm.ClassFile.FieldType)).before args0 about1 = true := code_word (m := ⟨19, 0⟩) (meth := k19m0) (c := k19c0) (by decide +kernel) rfl rfl rfl (by decide +kernel)
set_option maxRecDepth 65536 in
theorem w_c44 : (Jvm.Cond.code ({ cls := "java/util/Objects", name := "requireNonNull", desc := "(Ljava/lang/Object;)Ljava/lang/Object;" } : Jvm.MethodName) jdk_31_method_10_code (1 : Nat) (Option.some (Jvm.ClassFile.FieldType.object "java/lang/Object"))).before args0 about1 = true := code_word (m := ⟨24, 4⟩) (meth := k24m4) (c := k24c4) (by decide +kernel) rfl rfl rfl (by decide +kernel)
set_option maxRecDepth 65536 in
theorem w_c45 : (Jvm.Cond.code ({ cls := "java/lang/StringUTF16", name := "compress", desc := "([CII)[B" } : Jvm.MethodName) jdk_52_method_16_code (6 : Nat) (Option.some (Jvm.ClassFile.FieldType.array Jvm.ClassFile.FieldType.byte))).before args0 about1 = true := code_word (m := ⟨28, 2⟩) (meth := k28m2) (c := k28c2) (by decide +kernel) rfl rfl rfl (by decide +kernel)
set_option maxRecDepth 65536 in
theorem w_c46 : (Jvm.Cond.code ({ cls := "java/lang/StringUTF16", name := "compress", desc := "([CI[BII)I" } : Jvm.MethodName) jdk_52_method_21_code (7 : Nat) (Option.some Jvm.ClassFile.FieldType.int)).before args0 about1 = true := code_word (m := ⟨28, 3⟩) (meth := k28m3) (c := k28c3) (by decide +kernel) rfl rfl rfl (by decide +kernel)
set_option maxRecDepth 65536 in
theorem w_c47 : (Jvm.Cond.code ({ cls := "java/lang/StringUTF16", name := "coderFromArrayLen", desc := "([BI)B" } : Jvm.MethodName) jdk_52_method_15_code (2 : Nat) (Option.some Jvm.ClassFile.FieldType.byte)).before args0 about1 = true := code_word (m := ⟨28, 1⟩) (meth := k28m1) (c := k28c1) (by decide +kernel) rfl rfl rfl (by decide +kernel)
set_option maxRecDepth 65536 in
theorem w_c48 : (Jvm.Cond.code ({ cls := "java/util/ImmutableCollections$List12", name := "size", desc := "()I" } : Jvm.MethodName) jdk_44_method_3_code (1 : Nat) (Option.some Jvm.ClassFile.FieldType.int)).before args0 about1 = true := code_word (m := ⟨21, 2⟩) (meth := k21m2) (c := k21c2) (by decide +kernel) rfl rfl rfl (by decide +kernel)
set_option maxRecDepth 65536 in
theorem w_c49 : (Jvm.Cond.code ({ cls := "java/util/ImmutableCollections$List12", name := "get", desc := "(I)Ljava/lang/Object;" } : Jvm.MethodName) jdk_44_method_5_code (2 : Nat) (Option.some (Jvm.ClassFile.FieldType.object "java/lang/Object"))).before args0 about1 = true := code_word (m := ⟨21, 3⟩) (meth := k21m3) (c := k21c3) (by decide +kernel) rfl rfl rfl (by decide +kernel)
set_option maxRecDepth 65536 in
theorem w_c50 : (Jvm.Cond.code ({ cls := "java/util/Objects", name := "hashCode", desc := "(Ljava/lang/Object;)I" } : Jvm.MethodName) jdk_31_method_4_code (1 : Nat) (Option.some Jvm.ClassFile.FieldType.int)).before args0 about1 = true := code_word (m := ⟨24, 2⟩) (meth := k24m2) (c := k24c2) (by decide +kernel) rfl rfl rfl (by decide +kernel)
set_option maxRecDepth 65536 in
theorem w_c51 : (Jvm.Cond.code ({ cls := "jdk/internal/util/ArraysSupport", name := "vectorizedHashCode", desc := "(Ljava/lang/Object;IIII)I" } : Jvm.MethodName) jdk_48_method_4_code (5 : Nat) (Option.some Jvm.ClassFile.FieldType.int)).before args0 about1 = true := code_word (m := ⟨29, 1⟩) (meth := k29m1) (c := k29c1) (by decide +kernel) rfl rfl rfl (by decide +kernel)
set_option maxRecDepth 65536 in
theorem w_c52 : (Jvm.Cond.code ({ cls := "jdk/internal/util/ArraysSupport", name := "signedHashCode", desc := "(I[BII)I" } : Jvm.MethodName) jdk_48_method_5_code (6 : Nat) (Option.some Jvm.ClassFile.FieldType.int)).before args0 about1 = true := code_word (m := ⟨29, 2⟩) (meth := k29m2) (c := k29c2) (by decide +kernel) rfl rfl rfl (by decide +kernel)
set_option maxRecDepth 65536 in
theorem w_c53 : (Jvm.Cond.code ({ cls := "java/util/ImmutableCollections$AbstractImmutableList", name := "iterator", desc := "()Ljava/util/Iterator;" } : Jvm.MethodName) jdk_46_method_10_code (1 : Nat) (Option.some (Jvm.ClassFile.FieldType.object "java/util/Iterator"))).before args0 about1 = true := code_word (m := ⟨20, 1⟩) (meth := k20m1) (c := k20c1) (by decide +kernel) rfl rfl rfl (by decide +kernel)
set_option maxRecDepth 65536 in
theorem w_c54 : (Jvm.Cond.code ({ cls := "java/util/ImmutableCollections$ListItr", name := "<init>", desc := "(Ljava/util/List;I)V" } : Jvm.MethodName) jdk_53_method_1_code (3 : Nat) (Option.none : Option Jvm.ClassFile.FieldType)).before args0 about1 = true := code_word (m := ⟨32, 0⟩) (meth := k32m0) (c := k32c0) (by decide +kernel) rfl rfl rfl (by decide +kernel)
set_option maxRecDepth 65536 in
theorem w_c55 : (Jvm.Cond.code ({ cls := "java/util/ImmutableCollections$ListItr", name := "hasNext", desc := "()Z" } : Jvm.MethodName) jdk_53_method_3_code (1 : Nat) (Option.some Jvm.ClassFile.FieldType.boolean)).before args0 about1 = true := code_word (m := ⟨32, 1⟩) (meth := k32m1) (c := k32c1) (by decide +kernel) rfl rfl rfl (by decide +kernel)
set_option maxRecDepth 65536 in
theorem w_c56 : (Jvm.Cond.code ({ cls := "java/util/ImmutableCollections$List12", name := "<init>", desc := "(Ljava/lang/Object;)V" } : Jvm.MethodName) jdk_44_method_1_code (2 : Nat) (Option.none : Option Jvm.ClassFile.FieldType)).before args0 about1 = true := code_word (m := ⟨21, 0⟩) (meth := k21m0) (c := k21c0) (by decide +kernel) rfl rfl rfl (by decide +kernel)
set_option maxRecDepth 65536 in
theorem w_c57 : (Jvm.Cond.code ({ cls := "java/util/Objects", name := "equals", desc := "(Ljava/lang/Object;Ljava/lang/Object;)Z" } : Jvm.MethodName) jdk_31_method_2_code (2 : Nat) (Option.some Jvm.ClassFile.FieldType.boolean)).before args0 about1 = true := code_word (m := ⟨24, 1⟩) (meth := k24m1) (c := k24c1) (by decide +kernel) rfl rfl rfl (by decide +kernel)
def codes1 : List Jvm.Cond := [Jvm.Cond.code x code maxLocals ret, Jvm.Cond.code ({ cls := "com/example/simple_rocchio/simplerocchio/TextHashCodePinLaw", name := "make", desc := "(II)Lcom/example/simple_rocchio/simplerocchio/CollectionDocument$Text;" } : Jvm.MethodName) method_4_code (2 : Nat) (Option.some (Jvm.ClassFile.FieldType.object "com/example/simple_rocchio/simplerocchio/CollectionDocument$Text")), Jvm.Cond.code ({ cls := "com/example/simple_rocchio/simplerocchio/TextHashCodePinLaw", name := "str", desc := "(II)Ljava/lang/String;" } : Jvm.MethodName) method_2_code (2 : Nat) (Option.some (Jvm.ClassFile.FieldType.object "java/lang/String")), Jvm.Cond.code ({ cls := "java/lang/String", name := "<init>", desc := "([C)V" } : Jvm.MethodName) jdk_42_method_3_code (2 : Nat) (Option.none : Option Jvm.ClassFile.FieldType), Jvm.Cond.code ({ cls := "java/lang/String", name := "<init>", desc := "([CIILjava/lang/Void;)V" } : Jvm.MethodName) jdk_42_method_149_code (6 : Nat) (Option.none : Option Jvm.ClassFile.FieldType), Jvm.Cond.code ({ cls := "java/lang/Object", name := "<init>", desc := "()V" } : Jvm.MethodName) object_method_1_code (1 : Nat) (Option.none : Option Jvm.ClassFile.FieldType), Jvm.Cond.code ({ cls := "com/example/simple_rocchio/simplerocchio/TextHashCodePinLaw", name := "fields", desc := "(I)Ljava/util/List;" } : Jvm.MethodName) method_3_code (3 : Nat) (Option.some (Jvm.ClassFile.FieldType.object "java/util/List")), Jvm.Cond.code ({ cls := "java/util/ArrayList", name := "<init>", desc := "()V" } : Jvm.MethodName) jdk_38_method_2_code (1 : Nat) (Option.none : Option Jvm.ClassFile.FieldType), Jvm.Cond.code ({ cls := "java/util/AbstractList", name := "<init>", desc := "()V" } : Jvm.MethodName) jdk_39_method_1_code (1 : Nat) (Option.none : Option Jvm.ClassFile.FieldType), Jvm.Cond.code ({ cls := "java/util/AbstractCollection", name := "<init>", desc := "()V" } : Jvm.MethodName) jdk_22_method_1_code (1 : Nat) (Option.none : Option Jvm.ClassFile.FieldType), Jvm.Cond.code ({ cls := "com/example/simple_rocchio/simplerocchio/CollectionDocument$Text", name := "<init>", desc := "(Ljava/lang/String;Ljava/util/List;)V" } : Jvm.MethodName) prog_3_method_1_code (3 : Nat) (Option.none : Option Jvm.ClassFile.FieldType), Jvm.Cond.code ({ cls := "java/util/List", name := "copyOf", desc := "(Ljava/util/Collection;)Ljava/util/List;" } : Jvm.MethodName) jdk_40_method_48_code (1 : Nat) (Option.some (Jvm.ClassFile.FieldType.object "java/util/List")), Jvm.Cond.code ({ cls := "java/util/ImmutableCollections", name := "listCopy", desc := "(Ljava/util/Collection;)Ljava/util/List;" } : Jvm.MethodName) jdk_56_method_3_code (2 : Nat) (Option.some (Jvm.ClassFile.FieldType.object "java/util/List")), Jvm.Cond.code ({ cls := "java/util/ArrayList", name := "isEmpty", desc := "()Z" } : Jvm.MethodName) jdk_38_method_9_code (1 : Nat) (Option.some Jvm.ClassFile.FieldType.boolean), Jvm.Cond.code ({ cls := "java/util/List", name := "of", desc := "()Ljava/util/List;" } : Jvm.MethodName) jdk_40_method_36_code (0 : Nat) (Option.some (Jvm.ClassFile.FieldType.object "java/util/List")), Jvm.Cond.code ({ cls := "com/example/simple_rocchio/simplerocchio/CollectionDocument$Text", name := "equals", desc := "(Ljava/lang/Object;)Z" } : Jvm.MethodName) prog_3_method_4_code (3 : Nat) (Option.some Jvm.ClassFile.FieldType.boolean), Jvm.Cond.code ({ cls := "java/lang/String", name := "equals", desc := "(Ljava/lang/Object;)Z" } : Jvm.MethodName) jdk_42_method_66_code (3 : Nat) (Option.some Jvm.ClassFile.FieldType.boolean), Jvm.Cond.code ({ cls := "java/lang/StringLatin1", name := "equals", desc := "([B[B)Z" } : Jvm.MethodName) jdk_43_method_13_code (3 : Nat) (Option.some Jvm.ClassFile.FieldType.boolean), Jvm.Cond.code ({ cls := "java/util/ImmutableCollections$AbstractImmutableList", name := "equals", desc := "(Ljava/lang/Object;)Z" } : Jvm.MethodName) jdk_46_method_13_code (5 : Nat) (Option.some Jvm.ClassFile.FieldType.boolean), Jvm.Cond.code ({ cls := "com/example/simple_rocchio/simplerocchio/CollectionDocument$Text", name := "hashCode", desc := "()I" } : Jvm.MethodName) prog_3_method_5_code (1 : Nat) (Option.some Jvm.ClassFile.FieldType.int), Jvm.Cond.code ({ cls := "java/util/Objects", name := "hash", desc := "([Ljava/lang/Object;)I" } : Jvm.MethodName) jdk_31_method_5_code (1 : Nat) (Option.some Jvm.ClassFile.FieldType.int), Jvm.Cond.code ({ cls := "java/util/Arrays", name := "hashCode", desc := "([Ljava/lang/Object;)I" } : Jvm.MethodName) jdk_65_method_157_code (6 : Nat) (Option.some Jvm.ClassFile.FieldType.int), Jvm.Cond.code ({ cls := "java/lang/String", name := "hashCode", desc := "()I" } : Jvm.MethodName) jdk_42_method_78_code (2 : Nat) (Option.some Jvm.ClassFile.FieldType.int), Jvm.Cond.code ({ cls := "java/lang/String", name := "isLatin1", desc := "()Z" } : Jvm.MethodName) jdk_42_method_154_code (1 : Nat) (Option.some Jvm.ClassFile.FieldType.boolean), Jvm.Cond.code ({ cls := "java/lang/StringLatin1", name := "hashCode", desc := "([B)I" } : Jvm.MethodName) jdk_43_method_21_code (1 : Nat) (Option.some Jvm.ClassFile.FieldType.int), Jvm.Cond.code ({ cls := "java/util/ImmutableCollections$AbstractImmutableList", name := "hashCode", desc := "()I" } : Jvm.MethodName) jdk_46_method_14_code (4 : Nat) (Option.some Jvm.ClassFile.FieldType.int), Jvm.Cond.code ({ cls := "java/util/ImmutableCollections$ListN", name := "size", desc := "()I" } : Jvm.MethodName) jdk_45_method_3_code (1 : Nat) (Option.some Jvm.ClassFile.FieldType.int), Jvm.Cond.code ({ cls := "java/lang/String", name := "valueOf", desc := "(C)Ljava/lang/String;" } : Jvm.MethodName) jdk_42_method_139_code (1 : Nat) (Option.some (Jvm.ClassFile.FieldType.object "java/lang/String")), Jvm.Cond.code ({ cls := "java/lang/StringLatin1", name := "canEncode", desc := "(C)Z" } : Jvm.MethodName) jdk_43_method_3_code (1 : Nat) (Option.some Jvm.ClassFile.FieldType.boolean), Jvm.Cond.code ({ cls := "java/lang/StringLatin1", name := "toBytes", desc := "(C)[B" } : Jvm.MethodName) jdk_43_method_46_code (1 : Nat) (Option.some (Jvm.ClassFile.FieldType.array Jvm.ClassFile.FieldType.byte)), Jvm.Cond.code ({ cls := "java/lang/String", name := "<init>", desc := "([BB)V" } : Jvm.MethodName) jdk_42_method_151_code (3 : Nat) (Option.none : Option Jvm.ClassFile.FieldType), Jvm.Cond.code ({ cls := "java/util/ArrayList", name := "add", desc := "(Ljava/lang/Object;)Z" } : Jvm.MethodName) jdk_38_method_25_code (2 : Nat) (Option.some Jvm.ClassFile.FieldType.boolean), Jvm.Cond.code ({ cls := "java/util/ArrayList", name := "add", desc := "(Ljava/lang/Object;[Ljava/lang/Object;I)V" } : Jvm.MethodName) jdk_38_method_24_code (4 : Nat) (Option.none : Option Jvm.ClassFile.FieldType), Jvm.Cond.code ({ cls := "java/util/ArrayList", name := "grow", desc := "()[Ljava/lang/Object;" } : Jvm.MethodName) jdk_38_method_7_code (1 : Nat) (Option.some (Jvm.ClassFile.FieldType.array (Jvm.ClassFile.FieldType.object "java/lang/Object"))), Jvm.Cond.code ({ cls := "java/util/ArrayList", name := "grow", desc := "(I)[Ljava/lang/Object;" } : Jvm.MethodName) jdk_38_method_6_code (4 : Nat) (Option.some (Jvm.ClassFile.FieldType.array (Jvm.ClassFile.FieldType.object "java/lang/Object"))), Jvm.Cond.code ({ cls := "java/lang/Math", name := "max", desc := "(II)I" } : Jvm.MethodName) jdk_29_method_65_code (2 : Nat) (Option.some Jvm.ClassFile.FieldType.int), Jvm.Cond.code ({ cls := "java/util/ArrayList", name := "toArray", desc := "()[Ljava/lang/Object;" } : Jvm.MethodName) jdk_38_method_16_code (1 : Nat) (Option.some (Jvm.ClassFile.FieldType.array (Jvm.ClassFile.FieldType.object "java/lang/Object"))), Jvm.Cond.code ({ cls := "java/util/Arrays", name := "copyOf", desc := "([Ljava/lang/Object;I)[Ljava/lang/Object;" } : Jvm.MethodName) jdk_65_method_119_code (2 : Nat) (Option.some (Jvm.ClassFile.FieldType.array (Jvm.ClassFile.FieldType.object "java/lang/Object"))), Jvm.Cond.code ({ cls := "java/util/Arrays", name := "copyOf", desc := "([Ljava/lang/Object;ILjava/lang/Class;)[Ljava/lang/Object;" } : Jvm.MethodName) jdk_65_method_120_code (4 : Nat) (Option.some (Jvm.ClassFile.FieldType.array (Jvm.ClassFile.FieldType.object "java/lang/Object"))), Jvm.Cond.code ({ cls := "java/lang/Math", name := "min", desc := "(II)I" } : Jvm.MethodName) jdk_29_method_69_code (2 : Nat) (Option.some Jvm.ClassFile.FieldType.int), Jvm.Cond.code ({ cls := "java/util/List", name := "of", desc := "([Ljava/lang/Object;)Ljava/util/List;" } : Jvm.MethodName) jdk_40_method_47_code (2 : Nat) (Option.some (Jvm.ClassFile.FieldType.object "java/util/List")), Jvm.Cond.code ({ cls := "java/util/ImmutableCollections$List12", name := "<init>", desc := "(Ljava/lang/Object;Ljava/lang/Object;)V" } : Jvm.MethodName) jdk_44_method_2_code (3 : Nat) (Option.none : Option Jvm.ClassFile.FieldType), Jvm.Cond.code ({ cls := "java/util/ImmutableCollections$AbstractImmutableList", name := "<init>", desc := "()V" } : Jvm.MethodName) jdk_46_method_1_code (1 : Nat) (Option.none : Option Jvm.ClassFile.FieldType), Jvm.Cond.code ({ cls := "java/util/ImmutableCollections$AbstractImmutableCollection", name := "<init>", desc := "()V" } : Jvm.MethodName) jdk_47_method_1_code (1 : Nat) (Option.none : Option Jvm.ClassFile.FieldType), Jvm.Cond.code ({ cls := "java/util/Objects", name := "requireNonNull", desc := "(Ljava/lang/Object;)Ljava/lang/Object;" } : Jvm.MethodName) jdk_31_method_10_code (1 : Nat) (Option.some (Jvm.ClassFile.FieldType.object "java/lang/Object")), Jvm.Cond.code ({ cls := "java/lang/StringUTF16", name := "compress", desc := "([CII)[B" } : Jvm.MethodName) jdk_52_method_16_code (6 : Nat) (Option.some (Jvm.ClassFile.FieldType.array Jvm.ClassFile.FieldType.byte)), Jvm.Cond.code ({ cls := "java/lang/StringUTF16", name := "compress", desc := "([CI[BII)I" } : Jvm.MethodName) jdk_52_method_21_code (7 : Nat) (Option.some Jvm.ClassFile.FieldType.int), Jvm.Cond.code ({ cls := "java/lang/StringUTF16", name := "coderFromArrayLen", desc := "([BI)B" } : Jvm.MethodName) jdk_52_method_15_code (2 : Nat) (Option.some Jvm.ClassFile.FieldType.byte), Jvm.Cond.code ({ cls := "java/util/ImmutableCollections$List12", name := "size", desc := "()I" } : Jvm.MethodName) jdk_44_method_3_code (1 : Nat) (Option.some Jvm.ClassFile.FieldType.int), Jvm.Cond.code ({ cls := "java/util/ImmutableCollections$List12", name := "get", desc := "(I)Ljava/lang/Object;" } : Jvm.MethodName) jdk_44_method_5_code (2 : Nat) (Option.some (Jvm.ClassFile.FieldType.object "java/lang/Object")), Jvm.Cond.code ({ cls := "java/util/Objects", name := "hashCode", desc := "(Ljava/lang/Object;)I" } : Jvm.MethodName) jdk_31_method_4_code (1 : Nat) (Option.some Jvm.ClassFile.FieldType.int), Jvm.Cond.code ({ cls := "jdk/internal/util/ArraysSupport", name := "vectorizedHashCode", desc := "(Ljava/lang/Object;IIII)I" } : Jvm.MethodName) jdk_48_method_4_code (5 : Nat) (Option.some Jvm.ClassFile.FieldType.int), Jvm.Cond.code ({ cls := "jdk/internal/util/ArraysSupport", name := "signedHashCode", desc := "(I[BII)I" } : Jvm.MethodName) jdk_48_method_5_code (6 : Nat) (Option.some Jvm.ClassFile.FieldType.int), Jvm.Cond.code ({ cls := "java/util/ImmutableCollections$AbstractImmutableList", name := "iterator", desc := "()Ljava/util/Iterator;" } : Jvm.MethodName) jdk_46_method_10_code (1 : Nat) (Option.some (Jvm.ClassFile.FieldType.object "java/util/Iterator")), Jvm.Cond.code ({ cls := "java/util/ImmutableCollections$ListItr", name := "<init>", desc := "(Ljava/util/List;I)V" } : Jvm.MethodName) jdk_53_method_1_code (3 : Nat) (Option.none : Option Jvm.ClassFile.FieldType), Jvm.Cond.code ({ cls := "java/util/ImmutableCollections$ListItr", name := "hasNext", desc := "()Z" } : Jvm.MethodName) jdk_53_method_3_code (1 : Nat) (Option.some Jvm.ClassFile.FieldType.boolean), Jvm.Cond.code ({ cls := "java/util/ImmutableCollections$List12", name := "<init>", desc := "(Ljava/lang/Object;)V" } : Jvm.MethodName) jdk_44_method_1_code (2 : Nat) (Option.none : Option Jvm.ClassFile.FieldType), Jvm.Cond.code ({ cls := "java/util/Objects", name := "equals", desc := "(Ljava/lang/Object;Ljava/lang/Object;)Z" } : Jvm.MethodName) jdk_31_method_2_code (2 : Nat) (Option.some Jvm.ClassFile.FieldType.boolean)]
set_option maxRecDepth 65536 in
theorem codes_eq : words1.filter isCode = codes1 := rfl
theorem w_codes : ∀ c ∈ words1.filter isCode, c.before args0 about1 = true := by
  rw [codes_eq]
  intro c hc
  simp only [codes1, List.mem_cons, List.not_mem_nil, or_false] at hc
  rcases hc with rfl | rfl | rfl | rfl | rfl | rfl | rfl | rfl | rfl | rfl | rfl | rfl | rfl | rfl | rfl | rfl | rfl | rfl | rfl | rfl | rfl | rfl | rfl | rfl | rfl | rfl | rfl | rfl | rfl | rfl | rfl | rfl | rfl | rfl | rfl | rfl | rfl | rfl | rfl | rfl | rfl | rfl | rfl | rfl | rfl | rfl | rfl | rfl | rfl | rfl | rfl | rfl | rfl | rfl | rfl | rfl | rfl | rfl
  · exact w_c0
  · exact w_c1
  · exact w_c2
  · exact w_c3
  · exact w_c4
  · exact w_c5
  · exact w_c6
  · exact w_c7
  · exact w_c8
  · exact w_c9
  · exact w_c10
  · exact w_c11
  · exact w_c12
  · exact w_c13
  · exact w_c14
  · exact w_c15
  · exact w_c16
  · exact w_c17
  · exact w_c18
  · exact w_c19
  · exact w_c20
  · exact w_c21
  · exact w_c22
  · exact w_c23
  · exact w_c24
  · exact w_c25
  · exact w_c26
  · exact w_c27
  · exact w_c28
  · exact w_c29
  · exact w_c30
  · exact w_c31
  · exact w_c32
  · exact w_c33
  · exact w_c34
  · exact w_c35
  · exact w_c36
  · exact w_c37
  · exact w_c38
  · exact w_c39
  · exact w_c40
  · exact w_c41
  · exact w_c42
  · exact w_c43
  · exact w_c44
  · exact w_c45
  · exact w_c46
  · exact w_c47
  · exact w_c48
  · exact w_c49
  · exact w_c50
  · exact w_c51
  · exact w_c52
  · exact w_c53
  · exact w_c54
  · exact w_c55
  · exact w_c56
  · exact w_c57
set_option maxRecDepth 65536 in
theorem w_t1 : (words1.take 24).all (fun c => isCode c || c.before args0 about1) = true := by decide +kernel
set_option maxRecDepth 65536 in
theorem w_t2 : ((words1.drop 24).take 24).all (fun c => isCode c || c.before args0 about1) = true := by decide +kernel
set_option maxRecDepth 65536 in
theorem w_t3 : (((words1.drop 24).drop 24).take 24).all (fun c => isCode c || c.before args0 about1) = true := by decide +kernel
set_option maxRecDepth 65536 in
theorem w_t4 : ((((words1.drop 24).drop 24).drop 24).take 24).all (fun c => isCode c || c.before args0 about1) = true := by decide +kernel
set_option maxRecDepth 65536 in
theorem w_t5 : (((((words1.drop 24).drop 24).drop 24).drop 24).take 24).all (fun c => isCode c || c.before args0 about1) = true := by decide +kernel
set_option maxRecDepth 65536 in
theorem w_t6 : ((((((words1.drop 24).drop 24).drop 24).drop 24).drop 24).take 24).all (fun c => isCode c || c.before args0 about1) = true := by decide +kernel
set_option maxRecDepth 65536 in
theorem w_t7 : (((((((words1.drop 24).drop 24).drop 24).drop 24).drop 24).drop 24).take 24).all (fun c => isCode c || c.before args0 about1) = true := by decide +kernel
set_option maxRecDepth 65536 in
theorem w_t8 : ((((((((words1.drop 24).drop 24).drop 24).drop 24).drop 24).drop 24).drop 24).take 24).all (fun c => isCode c || c.before args0 about1) = true := by decide +kernel
set_option maxRecDepth 65536 in
theorem w_t9 : (((((((((words1.drop 24).drop 24).drop 24).drop 24).drop 24).drop 24).drop 24).drop 24).take 24).all (fun c => isCode c || c.before args0 about1) = true := by decide +kernel
set_option maxRecDepth 65536 in
theorem w_t10 : ((((((((((words1.drop 24).drop 24).drop 24).drop 24).drop 24).drop 24).drop 24).drop 24).drop 24).take 24).all (fun c => isCode c || c.before args0 about1) = true := by decide +kernel
set_option maxRecDepth 65536 in
theorem w_t11 : (((((((((((words1.drop 24).drop 24).drop 24).drop 24).drop 24).drop 24).drop 24).drop 24).drop 24).drop 24).take 24).all (fun c => isCode c || c.before args0 about1) = true := by decide +kernel
set_option maxRecDepth 65536 in
theorem w_t12 : ((((((((((((words1.drop 24).drop 24).drop 24).drop 24).drop 24).drop 24).drop 24).drop 24).drop 24).drop 24).drop 24).take 24).all (fun c => isCode c || c.before args0 about1) = true := by decide +kernel
set_option maxRecDepth 65536 in
theorem w_t13 : (((((((((((((words1.drop 24).drop 24).drop 24).drop 24).drop 24).drop 24).drop 24).drop 24).drop 24).drop 24).drop 24).drop 24).take 24).all (fun c => isCode c || c.before args0 about1) = true := by decide +kernel
set_option maxRecDepth 65536 in
theorem w_t14 : ((((((((((((((words1.drop 24).drop 24).drop 24).drop 24).drop 24).drop 24).drop 24).drop 24).drop 24).drop 24).drop 24).drop 24).drop 24).take 24).all (fun c => isCode c || c.before args0 about1) = true := by decide +kernel
set_option maxRecDepth 65536 in
theorem w_t15 : (((((((((((((((words1.drop 24).drop 24).drop 24).drop 24).drop 24).drop 24).drop 24).drop 24).drop 24).drop 24).drop 24).drop 24).drop 24).drop 24).take 24).all (fun c => isCode c || c.before args0 about1) = true := by decide +kernel
set_option maxRecDepth 65536 in
theorem w_t16 : (((((((((((((((words1.drop 24).drop 24).drop 24).drop 24).drop 24).drop 24).drop 24).drop 24).drop 24).drop 24).drop 24).drop 24).drop 24).drop 24).drop 24).all (fun c => isCode c || c.before args0 about1) = true := by decide +kernel
theorem w_tables : (allAtoms (Jvm.Cond.code x code maxLocals ret :: tables_1)).before args0 about1 = true := by
  rw [allAtoms_all]
  show words1.all (fun c => c.before args0 about1) = true
  refine all_split ?_ w_codes
  rw [← List.take_append_drop 24 words1, List.all_append, w_t1, ← List.take_append_drop 24 (words1.drop 24), List.all_append, w_t2, ← List.take_append_drop 24 ((words1.drop 24).drop 24), List.all_append, w_t3, ← List.take_append_drop 24 (((words1.drop 24).drop 24).drop 24), List.all_append, w_t4, ← List.take_append_drop 24 ((((words1.drop 24).drop 24).drop 24).drop 24), List.all_append, w_t5, ← List.take_append_drop 24 (((((words1.drop 24).drop 24).drop 24).drop 24).drop 24), List.all_append, w_t6, ← List.take_append_drop 24 ((((((words1.drop 24).drop 24).drop 24).drop 24).drop 24).drop 24), List.all_append, w_t7, ← List.take_append_drop 24 (((((((words1.drop 24).drop 24).drop 24).drop 24).drop 24).drop 24).drop 24), List.all_append, w_t8, ← List.take_append_drop 24 ((((((((words1.drop 24).drop 24).drop 24).drop 24).drop 24).drop 24).drop 24).drop 24), List.all_append, w_t9, ← List.take_append_drop 24 (((((((((words1.drop 24).drop 24).drop 24).drop 24).drop 24).drop 24).drop 24).drop 24).drop 24), List.all_append, w_t10, ← List.take_append_drop 24 ((((((((((words1.drop 24).drop 24).drop 24).drop 24).drop 24).drop 24).drop 24).drop 24).drop 24).drop 24), List.all_append, w_t11, ← List.take_append_drop 24 (((((((((((words1.drop 24).drop 24).drop 24).drop 24).drop 24).drop 24).drop 24).drop 24).drop 24).drop 24).drop 24), List.all_append, w_t12, ← List.take_append_drop 24 ((((((((((((words1.drop 24).drop 24).drop 24).drop 24).drop 24).drop 24).drop 24).drop 24).drop 24).drop 24).drop 24).drop 24), List.all_append, w_t13, ← List.take_append_drop 24 (((((((((((((words1.drop 24).drop 24).drop 24).drop 24).drop 24).drop 24).drop 24).drop 24).drop 24).drop 24).drop 24).drop 24).drop 24), List.all_append, w_t14, ← List.take_append_drop 24 ((((((((((((((words1.drop 24).drop 24).drop 24).drop 24).drop 24).drop 24).drop 24).drop 24).drop 24).drop 24).drop 24).drop 24).drop 24).drop 24), List.all_append, w_t15, w_t16]
  rfl
set_option maxRecDepth 65536 in
theorem w_rest : rest_1_c.before args0 about1 = true := by decide +kernel
set_option maxRecDepth 65536 in
theorem w_case : (Jvm.Cond.and given_1 narrow_1).before args0 about1 = true := by decide +kernel
set_option maxRecDepth 65536 in
theorem w_consts : constsHeld consts_1 about1 := Jvm.Lit.constsHeldB_iff.mp (by decide +kernel)
theorem w_applies : (headSpec (Jvm.Cond.code x code maxLocals ret :: tables_1) room_1).applies x e0.platform about1 = true :=
  (Spec.applies_iff w_frames).mpr ⟨w_running, w_runnable, w_alone, w_named, w_hears, w_ripe, w_room, w_tables⟩
theorem atStart : AtStart classFile x code maxLocals ret World_1 tables_1 room_1 Calls_1 rest_1 Pre_1 launch0 p0 e0 about1 theMethod args0 below0 :=
  ⟨lists_1, trivial, launch0.admits_env _ _ _, launch0.least_env, fairChoices_fair.cas, fairChoices_fair.clock, w_frames, w_args, w_heap, w_applies, ⟨⟨41, k41, 4, by decide +kernel, rfl, rfl, _, rfl, rfl⟩, ⟨w_consts, trivial⟩⟩, w_rest, w_case⟩
end start1
theorem witness_1 : WitnessClaimed_1 := ⟨start1.p0, start1.e0, start1.about1, start1.theMethod, start1.args0, start1.below0, start1.atStart⟩
end Jvm.Pilot.@@N@@
