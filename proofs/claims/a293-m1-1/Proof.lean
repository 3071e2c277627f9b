import JvmDerived
import JvmDerived.Pilot.@@N@@Statement
import JvmDerived.Pilot.@@N@@Code
set_option linter.unusedVariables false
set_option linter.unusedSimpArgs false
/- laws to paste: Road.backV, Road.eqW, Road.codOf (cut by pick.py; bodies as the Statement names them) -/
namespace Jvm.Pilot.@@N@@
namespace StrChars
open Jvm Sem ClassFile Op Lib Jvm.Stand Jvm.Free.XT Jvm.Free.ALB Jvm.Free.JM Jvm.Free
open Jvm.Lib.Cold (StaticIs)
/-- a char array whose places are chars -/
def Ch (a : Addr) (A : Cell) (U : State) : Prop := Arr .char a A U ∧ Typed .char A
theorem Ch.mv {a : Addr} {A : Cell} {U U' : State} (h : Ch a A U) (hal : U.vm.Alike U'.vm) (hh : U'.heap = U.heap) : Ch a A U' := ⟨h.1.mv hal hh, h.2⟩
theorem Ch.keep {a : Addr} {A : Cell} {U U' : State} (h : Ch a A U) (hal : U.vm.Alike U'.vm) (hk : U'.heap[a]? = some A) : Ch a A U' := ⟨h.1.keep hal hk, h.2⟩
/-- what place i of a char[]'s cell holds -/
def cv (A : Cell) (i : Nat) : Int32 := match A.slots[i]? with | some (.int x) => x | _ => 0
theorem Ch.get {a : Addr} {A : Cell} {U : State} (h : Ch a A U) {i : Nat} (hi : i < A.slots.size) : A.slots[i]? = some (.int (cv A i)) := by
  have e := Array.getElem?_eq_getElem hi
  have f := h.2 i _ e
  unfold cv; rw [e]
  generalize A.slots[i] = v at f
  cases v <;> simp [fits] at f ⊢
/-- the byte that i2b leaves of a char -/
def lo8 (x : Int32) : Int32 := x.toInt8.toInt32
theorem fits_lo8 (y : Int32) : fits .byte (.int (lo8 y)) = true := by
  have h1 := y.toInt8.le_toInt
  have h2 := y.toInt8.toInt_lt
  simp only [lo8, fits, Bool.and_eq_true, decide_eq_true_eq, Int32.le_iff_toInt_le, Int8.toInt_toInt32, show (-128 : Int32).toInt = -128 from by decide, show (127 : Int32).toInt = 127 from by decide]
  omega
/-- A' is A but that each place j of lo .. hi - 1 holds f j -/
def Laid (A A' : Cell) (lo hi : Nat) (f : Nat → Value) : Prop := A'.cls = A.cls ∧ A'.vm = A.vm ∧ A'.slots.size = A.slots.size ∧ ∀ i, A'.slots[i]? = if lo ≤ i ∧ i < hi then some (f i) else A.slots[i]?
theorem Laid.zero (A : Cell) (lo : Nat) (f : Nat → Value) : Laid A A lo (lo + 0) f := ⟨rfl, rfl, rfl, fun i => by rw [if_neg (by omega)]⟩
theorem Laid.step {A Ak : Cell} {lo k : Nat} {f : Nat → Value} {v : Value} (h : Laid A Ak lo k f) (hlo : lo ≤ k) (hk : k < Ak.slots.size) (hv : v = f k) : Laid A (Ak.setSlot k v) lo (k + 1) f := by
  refine ⟨h.1, h.2.1, by simpa [Cell.setSlot] using h.2.2.1, fun i => ?_⟩
  by_cases e : k = i
  · subst e; rw [Cell.slots_setSlot_self v hk, if_pos (by omega), hv]
  · rw [Cell.slots_setSlot_ne v e, h.2.2.2 i]
    by_cases q : lo ≤ i ∧ i < k
    · rw [if_pos q, if_pos (by omega)]
    · rw [if_neg q, if_neg (by omega)]
def U16 : String := "java/lang/StringUTF16"
namespace Cmp5
def yN : MethodName := ⟨"java/lang/StringUTF16", "compress", "([CI[BII)I"⟩
abbrev yB : ByteArray := jdk_52_method_21_code
theorem d0 : decode yB 0 = .ok (.iconst 0, 1) := by decide +kernel
theorem d1 : decode yB 1 = .ok (.istore 5, 2) := by decide +kernel
theorem d3 : decode yB 3 = .ok (.iload 5, 2) := by decide +kernel
theorem d5 : decode yB 5 = .ok (.iload 4, 2) := by decide +kernel
theorem d7 : decode yB 7 = .ok (.if_icmp (.ge) 37, 3) := by decide +kernel
theorem d10 : decode yB 10 = .ok (.aload_n 0, 1) := by decide +kernel
theorem d11 : decode yB 11 = .ok (.iload_n 1, 1) := by decide +kernel
theorem d12 : decode yB 12 = .ok (.caload, 1) := by decide +kernel
theorem d13 : decode yB 13 = .ok (.istore 6, 2) := by decide +kernel
theorem d15 : decode yB 15 = .ok (.iload 6, 2) := by decide +kernel
theorem d17 : decode yB 17 = .ok (.sipush 255, 3) := by decide +kernel
theorem d20 : decode yB 20 = .ok (.if_icmp (.le) 6, 3) := by decide +kernel
theorem d26 : decode yB 26 = .ok (.aload_n 2, 1) := by decide +kernel
theorem d27 : decode yB 27 = .ok (.iload_n 3, 1) := by decide +kernel
theorem d28 : decode yB 28 = .ok (.iload 6, 2) := by decide +kernel
theorem d30 : decode yB 30 = .ok (.i2b, 1) := by decide +kernel
theorem d31 : decode yB 31 = .ok (.bastore, 1) := by decide +kernel
theorem d32 : decode yB 32 = .ok (.iinc 1 1, 3) := by decide +kernel
theorem d35 : decode yB 35 = .ok (.iinc 3 1, 3) := by decide +kernel
theorem d38 : decode yB 38 = .ok (.iinc 5 1, 3) := by decide +kernel
theorem d41 : decode yB 41 = .ok (.goto (-38), 3) := by decide +kernel
theorem d44 : decode yB 44 = .ok (.iload 4, 2) := by decide +kernel
theorem d46 : decode yB 46 = .ok (.ireturn, 1) := by decide +kernel
def site : List Cond := []
def tab : Cond := tabOf yN yB 7 (some .int) site
def P (b : Addr) (A : Cell) (d : Addr) (B : Cell) (o q len : Nat) (args : Array Value) (s : State) : Prop := args = #[.ref b, .int (Int32.ofNat o), .ref d, .int (Int32.ofNat q), .int (Int32.ofNat len)] ∧ Ch b A s ∧ Arr .byte d B s ∧ b ≠ d ∧ o + len ≤ A.slots.size ∧ q + len ≤ B.slots.size ∧ ∀ i, i < len → ¬ 255 < cv A (o + i)
def E (b : Addr) (A : Cell) (d : Addr) (B : Cell) (o q len : Nat) (r : Option Value) (s u : State) : Prop := r = some (.int (Int32.ofNat len)) ∧ ∃ B', Put d B' s u ∧ Laid B B' q (q + len) (fun j => Value.int (lo8 (cv A (o + (j - q)))))
/-- no char of the range above 255: len; the places written hold each char's low byte -/
theorem law (l : Launch) (b : Addr) (A : Cell) (d : Addr) (B : Cell) (o q len : Nat) : Law l yN 5 5 0 0 yB 7 (some .int) site (P b A d B o q len) (E b A d B o q len) (copyLocs d q len) 0 0 := by
  refine Law.of_walk (plainFor_of_name (by decide +kernel)) (by decide +kernel) (by decide +kernel) (by decide) (fun _ _ h => by rw [h.1]; rfl) (fun _ U U' hal hh h => ⟨h.1, h.2.1.mv hal hh, h.2.2.1.mv hal hh, h.2.2.2⟩) (fun r U U' V V' h1 hal h2 h => ⟨h.1, h.2.elim fun B' q => ⟨B', q.1.mv h1 h2, q.2⟩⟩) ?_
  intro p e s m args below meth c s₁ X0 hexec hbytes hml hret hlk hnm hown hh0 W hP
  obtain ⟨rfl, hA, hB, hne, l1, l2, hp⟩ := hP
  have c1 : Steps p.tables e below (s₁.setTop (entryFrame m #[.ref b, .int (Int32.ofNat o), .ref d, .int (Int32.ofNat q), .int (Int32.ofNat len)] 7)) (s₁.setTop (mkF m 0 #[.val (.ref b), .val (.int (Int32.ofNat o)), .val (.ref d), .val (.int (Int32.ofNat q)), .val (.int (Int32.ofNat len)), .unset, .unset] [])) := entry rfl
  have hA0 := hA.1.mv X0.warmed.alike hh0
  have hB0 := hB.mv X0.warmed.alike hh0
  have a31 := hA.1.2.2.2
  have c2 : Steps p.tables e below (s₁.setTop (entryFrame m #[.ref b, .int (Int32.ofNat o), .ref d, .int (Int32.ofNat q), .int (Int32.ofNat len)] 7)) (s₁.setTop (mkF m 3 #[.val (.ref b), .val (.int (Int32.ofNat o)), .val (.ref d), .val (.int (Int32.ofNat q)), .val (.int (Int32.ofNat len)), .val (.int 0), .unset] [])) := c1.trans (by
    refine iconstV X0.here hexec rfl 0 (hb hbytes d0) (by decide) ?_
    refine XS.istore X0.here hexec rfl (hb hbytes d1) rfl rfl ?_
    exact Steps.refl _)
  have loop : ∀ (r i : Nat), i + r = len → ∀ (z : Slot), (z = .unset ∨ ∃ w, z = .val w ∧ w.category = 1) → ∀ (Tl : State) (Bk : Cell), Stand p l e { frames := 0, locals := 0, cells := 0, slots := 0 } s m #[.ref b, .int (Int32.ofNat o), .ref d, .int (Int32.ofNat q), .int (Int32.ofNat len)] below meth c Tl ([] ++ copyLocs d q i) 0 0 → Put d Bk s₁ Tl → Laid B Bk q (q + i) (fun j => Value.int (lo8 (cv A (o + (j - q))))) →
      Steps p.tables e below (s₁.setTop (entryFrame m #[.ref b, .int (Int32.ofNat o), .ref d, .int (Int32.ofNat q), .int (Int32.ofNat len)] 7)) (Tl.setTop (mkF m 3 #[.val (.ref b), .val (.int (Int32.ofNat (o + i))), .val (.ref d), .val (.int (Int32.ofNat (q + i))), .val (.int (Int32.ofNat len)), .val (.int (Int32.ofNat i)), z] [])) → ∃ (T' : State) (B' : Cell) (z' : Slot), Stand p l e { frames := 0, locals := 0, cells := 0, slots := 0 } s m #[.ref b, .int (Int32.ofNat o), .ref d, .int (Int32.ofNat q), .int (Int32.ofNat len)] below meth c T' ([] ++ copyLocs d q len) 0 0 ∧ Put d B' s₁ T' ∧ Laid B B' q (q + len) (fun j => Value.int (lo8 (cv A (o + (j - q))))) ∧
      Steps p.tables e below (s₁.setTop (entryFrame m #[.ref b, .int (Int32.ofNat o), .ref d, .int (Int32.ofNat q), .int (Int32.ofNat len)] 7)) (T'.setTop (mkF m 3 #[.val (.ref b), .val (.int (Int32.ofNat (o + len))), .val (.ref d), .val (.int (Int32.ofNat (q + len))), .val (.int (Int32.ofNat len)), .val (.int (Int32.ofNat len)), z'] [])) := by
    intro r
    induction r with
    | zero =>
      intro i hi z hz Tl Bk Xl pl fl cl
      have hil : i = len := by omega
      rw [hil] at Xl fl cl
      exact ⟨Tl, Bk, z, Xl, pl, fl, cl⟩
    | succ r ih =>
      intro i hi z hz Tl Bk Xl pl fl cl
      have all := X0.warmed.alike.symm.trans Xl.warmed.alike
      have hAl := hA0.keep all (pl.other hne hA0.1)
      have hBk := hB0.like all pl.1 fl.1 fl.2.1 fl.2.2.1
      have hlt : q + i < Bk.slots.size := by rw [fl.2.2.1]; omega
      have c3 : Steps p.tables e below (s₁.setTop (entryFrame m #[.ref b, .int (Int32.ofNat o), .ref d, .int (Int32.ofNat q), .int (Int32.ofNat len)] 7)) (Tl.setTop (mkF m 12 #[.val (.ref b), .val (.int (Int32.ofNat (o + i))), .val (.ref d), .val (.int (Int32.ofNat (q + i))), .val (.int (Int32.ofNat len)), .val (.int (Int32.ofNat i)), z] [.int (Int32.ofNat (o + i)), .ref b])) := cl.trans (by
        refine XS.iload Xl.here hexec rfl (hb hbytes d3) rfl ?_
        refine XS.iload Xl.here hexec rfl (hb hbytes d5) rfl ?_
        refine XS.icmpNo Xl.here hexec rfl (hb hbytes d7) rfl (ii_ge_f (lt32 (by omega) (by omega))) ?_
        refine XS.aloadN Xl.here hexec rfl (hb hbytes d10) rfl rfl ?_
        refine XS.iloadN Xl.here hexec rfl (hb hbytes d11) rfl ?_
        exact Steps.refl _)
      have c4 : Steps p.tables e below (s₁.setTop (entryFrame m #[.ref b, .int (Int32.ofNat o), .ref d, .int (Int32.ofNat q), .int (Int32.ofNat len)] 7)) (Tl.setTop (mkF m 13 #[.val (.ref b), .val (.int (Int32.ofNat (o + i))), .val (.ref d), .val (.int (Int32.ofNat (q + i))), .val (.int (Int32.ofNat len)), .val (.int (Int32.ofNat i)), z] [.int (cv A (o + i))])) := c3.trans (by
        refine Xl.aget hexec hAl rfl (hA.get (i := o + i) (by omega)) rfl rfl (hb hbytes d12) ?_
        exact Steps.refl _)
      have c5 : Steps p.tables e below (s₁.setTop (entryFrame m #[.ref b, .int (Int32.ofNat o), .ref d, .int (Int32.ofNat q), .int (Int32.ofNat len)] 7)) (Tl.setTop (mkF m 15 #[.val (.ref b), .val (.int (Int32.ofNat (o + i))), .val (.ref d), .val (.int (Int32.ofNat (q + i))), .val (.int (Int32.ofNat len)), .val (.int (Int32.ofNat i)), .val (.int (cv A (o + i)))] [])) := c4.trans (by
        refine XS.istoreS Xl.here hexec rfl (hb hbytes d13) rfl rfl hz ?_
        exact Steps.refl _)
      have c6 : Steps p.tables e below (s₁.setTop (entryFrame m #[.ref b, .int (Int32.ofNat o), .ref d, .int (Int32.ofNat q), .int (Int32.ofNat len)] 7)) (Tl.setTop (mkF m 31 #[.val (.ref b), .val (.int (Int32.ofNat (o + i))), .val (.ref d), .val (.int (Int32.ofNat (q + i))), .val (.int (Int32.ofNat len)), .val (.int (Int32.ofNat i)), .val (.int (cv A (o + i)))] [.int (lo8 (cv A (o + i))), .int (Int32.ofNat (q + i)), .ref d])) := c5.trans (by
        refine XS.iload Xl.here hexec rfl (hb hbytes d15) rfl ?_
        refine sipushV Xl.here hexec rfl 255 (hb hbytes d17) (by decide) ?_
        refine XS.icmpYes Xl.here hexec rfl (pc0 := 20) rfl (hb hbytes d20) rfl (ii_le_t (hp i (by omega))) (by decide) rfl ?_
        refine XS.aloadN Xl.here hexec rfl (hb hbytes d26) rfl rfl ?_
        refine XS.iloadN Xl.here hexec rfl (hb hbytes d27) rfl ?_
        refine XS.iload Xl.here hexec rfl (hb hbytes d28) rfl ?_
        refine i2b Xl.here hexec rfl (hb hbytes d30) rfl ?_
        exact Steps.refl _)
      obtain ⟨T7, X7, p7, st7⟩ := Xl.aput hexec hBk rfl hlt rfl (fits_lo8 (cv A (o + i))) (g := (mkF m 31 #[.val (.ref b), .val (.int (Int32.ofNat (o + i))), .val (.ref d), .val (.int (Int32.ofNat (q + i))), .val (.int (Int32.ofNat len)), .val (.int (Int32.ofNat i)), .val (.int (cv A (o + i)))] [.int (lo8 (cv A (o + i))), .int (Int32.ofNat (q + i)), .ref d])) rfl (rest := []) rfl (hb hbytes d31)
      have c8 : Steps p.tables e below (s₁.setTop (entryFrame m #[.ref b, .int (Int32.ofNat o), .ref d, .int (Int32.ofNat q), .int (Int32.ofNat len)] 7)) (T7.setTop (mkF m 32 #[.val (.ref b), .val (.int (Int32.ofNat (o + i))), .val (.ref d), .val (.int (Int32.ofNat (q + i))), .val (.int (Int32.ofNat len)), .val (.int (Int32.ofNat i)), .val (.int (cv A (o + i)))] [])) := c6.trans (st7 _ (Steps.refl _))
      have c9 : Steps p.tables e below (s₁.setTop (entryFrame m #[.ref b, .int (Int32.ofNat o), .ref d, .int (Int32.ofNat q), .int (Int32.ofNat len)] 7)) (T7.setTop (mkF m 3 #[.val (.ref b), .val (.int (Int32.ofNat (o + i) + 1)), .val (.ref d), .val (.int (Int32.ofNat (q + i) + 1)), .val (.int (Int32.ofNat len)), .val (.int (Int32.ofNat i + 1)), .val (.int (cv A (o + i)))] [])) := c8.trans (by
        refine iincV X7.here hexec rfl 1 (hb hbytes d32) (by decide) rfl rfl ?_
        refine iincV X7.here hexec rfl 1 (hb hbytes d35) (by decide) rfl rfl ?_
        refine iincV X7.here hexec rfl 1 (hb hbytes d38) (by decide) rfl rfl ?_
        refine XS.goto X7.here hexec rfl (pc0 := 41) rfl (hb hbytes d41) (by decide) rfl ?_
        exact Steps.refl _)
      have c10 : Steps p.tables e below (s₁.setTop (entryFrame m #[.ref b, .int (Int32.ofNat o), .ref d, .int (Int32.ofNat q), .int (Int32.ofNat len)] 7)) (T7.setTop (mkF m 3 #[.val (.ref b), .val (.int (Int32.ofNat (o + (i + 1)))), .val (.ref d), .val (.int (Int32.ofNat (q + (i + 1)))), .val (.int (Int32.ofNat len)), .val (.int (Int32.ofNat (i + 1))), .val (.int (cv A (o + i)))] [])) := by
        have := c9
        rw [succ32, succ32, succ32] at this
        exact this
      exact ih (i + 1) (by omega) _ (Or.inr ⟨_, rfl, rfl⟩) T7 _ (by rw [copyLocs_step, ← List.append_assoc]; exact X7) (pl.trans p7) (fl.step (by omega) hlt (by simp)) c10
  obtain ⟨T9, B9, z9, X9, p9, f9, g9⟩ := loop len 0 (by omega) .unset (Or.inl rfl) s₁ B (by simpa [copyLocs] using X0) ⟨hB0.1, fun _ _ => rfl, rfl⟩ (Laid.zero _ _ _) c2
  have c11 : Steps p.tables e below (s₁.setTop (entryFrame m #[.ref b, .int (Int32.ofNat o), .ref d, .int (Int32.ofNat q), .int (Int32.ofNat len)] 7)) (T9.setTop (mkF m 46 #[.val (.ref b), .val (.int (Int32.ofNat (o + len))), .val (.ref d), .val (.int (Int32.ofNat (q + len))), .val (.int (Int32.ofNat len)), .val (.int (Int32.ofNat len)), z9] [.int (Int32.ofNat len)])) := g9.trans (by
    refine XS.iload X9.here hexec rfl (hb hbytes d3) rfl ?_
    refine XS.iload X9.here hexec rfl (hb hbytes d5) rfl ?_
    refine XS.icmpYes X9.here hexec rfl (pc0 := 7) rfl (hb hbytes d7) rfl (ii_ge_t (nlt32 (by omega) (Nat.le_refl _))) (by decide) rfl ?_
    refine XS.iload X9.here hexec rfl (hb hbytes d44) rfl ?_
    exact Steps.refl _)
  exact ⟨T9, some (.int (Int32.ofNat len)), _, _, _, X9, by simp, rfl, rfl, (fun h => by cases h), ⟨rfl, B9, p9.from hh0, f9⟩, fun fs hl => c11.trans (X9.ireturnOut hexec hret rfl (Or.inl rfl) (hb hbytes d46) hl)⟩
end Cmp5
namespace Cmp3
def yN : MethodName := ⟨"java/lang/StringUTF16", "compress", "([CII)[B"⟩
abbrev yB : ByteArray := jdk_52_method_16_code
theorem d0 : decode yB 0 = .ok (.iload_n 2, 1) := by decide +kernel
theorem d1 : decode yB 1 = .ok (.newarray .byte, 2) := by decide +kernel
theorem d3 : decode yB 3 = .ok (.astore_n 3, 1) := by decide +kernel
theorem d4 : decode yB 4 = .ok (.aload_n 0, 1) := by decide +kernel
theorem d5 : decode yB 5 = .ok (.iload_n 1, 1) := by decide +kernel
theorem d6 : decode yB 6 = .ok (.aload_n 3, 1) := by decide +kernel
theorem d7 : decode yB 7 = .ok (.iconst 0, 1) := by decide +kernel
theorem d8 : decode yB 8 = .ok (.iload_n 2, 1) := by decide +kernel
theorem d9 : decode yB 9 = .ok (.invokestatic 115, 3) := by decide +kernel
theorem d12 : decode yB 12 = .ok (.istore 4, 2) := by decide +kernel
theorem d14 : decode yB 14 = .ok (.iload 4, 2) := by decide +kernel
theorem d16 : decode yB 16 = .ok (.iload_n 2, 1) := by decide +kernel
theorem d17 : decode yB 17 = .ok (.if_icmp (.eq) 40, 3) := by decide +kernel
theorem d57 : decode yB 57 = .ok (.aload_n 3, 1) := by decide +kernel
theorem d58 : decode yB 58 = .ok (.areturn, 1) := by decide +kernel
def site : List Cond := [.arrayClass .byte, Cmp5.tab] ++ staticW U16 115 Cmp5.yN
def tab : Cond := tabOf yN yB 6 (some (.array .byte)) site
def P (b : Addr) (A : Cell) (o len : Nat) (args : Array Value) (s : State) : Prop := args = #[.ref b, .int (Int32.ofNat o), .int (Int32.ofNat len)] ∧ Ch b A s ∧ o + len ≤ A.slots.size ∧ len ≤ 536870912 ∧ ∀ i, i < len → ¬ 255 < cv A (o + i)
def E (b : Addr) (A : Cell) (o len : Nat) (r : Option Value) (s u : State) : Prop := NewArr .byte "[B" len (fun j => .int (lo8 (cv A (o + j)))) r s u ∧ u.heap.size = s.heap.size + 1
/-- no char of the range above 255: a new byte[] of their low bytes -/
theorem law (l : Launch) (b : Addr) (A : Cell) (o len : Nat) : Law l yN 3 3 1 18 yB 6 (some (.array .byte)) site (P b A o len) (E b A o len) [] 1 len := by
  refine Law.of_walk (plainFor_of_name (by decide +kernel)) (by decide +kernel) (by decide +kernel) (by decide) (fun _ _ h => by rw [h.1]; rfl) (fun _ U U' hal hh h => ⟨h.1, h.2.1.mv hal hh, h.2.2⟩) (fun r U U' V V' h1 hal h2 h => ⟨NewArr.mv r U U' V V' h1 hal h2 h.1, by rw [h1, h2]; exact h.2⟩) ?_
  intro p e s m args below meth c s₁ X0 hexec hbytes hml hret hlk hnm hown hh0 W hP
  obtain ⟨rfl, hA, l1, l2, hp⟩ := hP
  have a31 := hA.1.2.2.2
  have c1 : Steps p.tables e below (s₁.setTop (entryFrame m #[.ref b, .int (Int32.ofNat o), .int (Int32.ofNat len)] 6)) (s₁.setTop (mkF m 0 #[.val (.ref b), .val (.int (Int32.ofNat o)), .val (.int (Int32.ofNat len)), .unset, .unset, .unset] [])) := entry rfl
  have c2 : Steps p.tables e below (s₁.setTop (entryFrame m #[.ref b, .int (Int32.ofNat o), .int (Int32.ofNat len)] 6)) (s₁.setTop (mkF m 1 #[.val (.ref b), .val (.int (Int32.ofNat o)), .val (.int (Int32.ofNat len)), .unset, .unset, .unset] [.int (Int32.ofNat len)])) := c1.trans (by
    refine XS.iloadN X0.here hexec rfl (hb hbytes d0) rfl ?_
    exact Steps.refl _)
  obtain ⟨T3, B3, X3, ba3, bs3, bv3, bh3, bf3, st3⟩ := X0.anew hexec (atype := .byte) (wk W (.arrayClass .byte)) rfl (by show len * 1 ≤ _; omega) (by omega) (g := (mkF m 1 #[.val (.ref b), .val (.int (Int32.ofNat o)), .val (.int (Int32.ofNat len)), .unset, .unset, .unset] [.int (Int32.ofNat len)])) rfl (hb hbytes d1) (rest := []) rfl (Nat.le_refl _) (by show 0 + len ≤ len; omega)
  rw [hh0] at ba3 st3
  have kp3 : XT.Kept s T3 := (XT.Kept.of_eq hh0).push bh3
  have hA3 := hA.keep X3.warmed.alike (kp3 _ _ hA.1.1)
  have hne : b ≠ s.heap.size := hA.1.ne
  have c4 : Steps p.tables e below (s₁.setTop (entryFrame m #[.ref b, .int (Int32.ofNat o), .int (Int32.ofNat len)] 6)) (T3.setTop (mkF m 3 #[.val (.ref b), .val (.int (Int32.ofNat o)), .val (.int (Int32.ofNat len)), .unset, .unset, .unset] [.ref s.heap.size])) := c2.trans (st3 _ (Steps.refl _))
  have c5 : Steps p.tables e below (s₁.setTop (entryFrame m #[.ref b, .int (Int32.ofNat o), .int (Int32.ofNat len)] 6)) (T3.setTop (mkF m 9 #[.val (.ref b), .val (.int (Int32.ofNat o)), .val (.int (Int32.ofNat len)), .val (.ref s.heap.size), .unset, .unset] [.int (Int32.ofNat len), .int 0, .ref s.heap.size, .int (Int32.ofNat o), .ref b])) := c4.trans (by
    refine XS.astoreN X3.here hexec rfl (hb hbytes d3) rfl rfl rfl ?_
    refine XS.aloadN X3.here hexec rfl (hb hbytes d4) rfl rfl ?_
    refine XS.iloadN X3.here hexec rfl (hb hbytes d5) rfl ?_
    refine XS.aloadN X3.here hexec rfl (hb hbytes d6) rfl rfl ?_
    refine iconstV X3.here hexec rfl 0 (hb hbytes d7) (by decide) ?_
    refine XS.iloadN X3.here hexec rfl (hb hbytes d8) rfl ?_
    exact Steps.refl _)
  obtain ⟨v6, T6, X6, E6, g6⟩ := X3.callS hexec (Cmp5.law l b A s.heap.size B3 o 0 len) hown (wks W (staticW U16 115 Cmp5.yN)) (wk W Cmp5.tab) (W := 0) (Nat.le_of_ble_eq_true rfl) (Nat.le_of_ble_eq_true rfl) (Nat.le_refl _) (by show 0 + len + 0 ≤ len; omega) (g := (mkF m 9 #[.val (.ref b), .val (.int (Int32.ofNat o)), .val (.int (Int32.ofNat len)), .val (.ref s.heap.size), .unset, .unset] [.int (Int32.ofNat len), .int (Int32.ofNat 0), .ref s.heap.size, .int (Int32.ofNat o), .ref b])) rfl (by rw [hml]; rfl) c5 (argsL := [.ref b, .int (Int32.ofNat o), .ref s.heap.size, .int (Int32.ofNat 0), .int (Int32.ofNat len)]) (rest := []) rfl rfl (by show 2 * 0 + 0 ≤ _; decide) (hb hbytes d9) (⟨rfl, hA3, ba3, hne, l1, by rw [bs3]; simp, hp⟩)
  obtain ⟨rfl, B6, p6, f6⟩ := E6
  have c7 : Steps p.tables e below (s₁.setTop (entryFrame m #[.ref b, .int (Int32.ofNat o), .int (Int32.ofNat len)] 6)) (T6.setTop (mkF m 12 #[.val (.ref b), .val (.int (Int32.ofNat o)), .val (.int (Int32.ofNat len)), .val (.ref s.heap.size), .unset, .unset] [.int (Int32.ofNat len)])) := g6
  have c8 : Steps p.tables e below (s₁.setTop (entryFrame m #[.ref b, .int (Int32.ofNat o), .int (Int32.ofNat len)] 6)) (T6.setTop (mkF m 58 #[.val (.ref b), .val (.int (Int32.ofNat o)), .val (.int (Int32.ofNat len)), .val (.ref s.heap.size), .val (.int (Int32.ofNat len)), .unset] [.ref s.heap.size])) := c7.trans (by
    refine XS.istore X6.here hexec rfl (hb hbytes d12) rfl rfl ?_
    refine XS.iload X6.here hexec rfl (hb hbytes d14) rfl ?_
    refine XS.iloadN X6.here hexec rfl (hb hbytes d16) rfl ?_
    refine XS.icmpYes X6.here hexec rfl (pc0 := 17) rfl (hb hbytes d17) rfl (ii_eq_t rfl) (by decide) rfl ?_
    refine XS.aloadN X6.here hexec rfl (hb hbytes d57) rfl rfl ?_
    exact Steps.refl _)
  have X8 := X6.wide (L' := []) (cells' := 1) (slots' := len) (fun x hx hlt => by
    simp only [List.nil_append, copyLocs, List.mem_map, List.mem_range] at hx
    obtain ⟨i, -, rfl⟩ := hx
    exact absurd hlt (Nat.lt_irrefl _)) (Nat.le_refl _) (by omega)
  exact ⟨T6, some (.ref s.heap.size), _, _, _, X8, rfl, rfl, rfl, (fun h => by cases h), ⟨⟨rfl, B6, ba3.like (X3.warmed.alike.symm.trans X6.warmed.alike) p6.1 f6.1 f6.2.1 f6.2.2.1, f6.2.1.trans bv3, by rw [X6.warmed.alike.findClass, f6.1]; exact bf3, by rw [f6.2.2.1, bs3]; simp, fun j hj => by rw [f6.2.2.2 j, if_pos (by omega)]; rfl, kp3.put p6 (Nat.le_refl _)⟩, by rw [p6.2.2, bh3, hh0]; simp⟩, fun fs hl => c8.trans (X8.areturnOut hexec rfl hret rfl (hb hbytes d58) hl)⟩
end Cmp3
namespace CodL
def yN : MethodName := ⟨"java/lang/StringUTF16", "coderFromArrayLen", "([BI)B"⟩
abbrev yB : ByteArray := jdk_52_method_15_code
theorem d0 : decode yB 0 = .ok (.iload_n 1, 1) := by decide +kernel
theorem d1 : decode yB 1 = .ok (.aload_n 0, 1) := by decide +kernel
theorem d2 : decode yB 2 = .ok (.arraylength, 1) := by decide +kernel
theorem d3 : decode yB 3 = .ok (.isub, 1) := by decide +kernel
theorem d4 : decode yB 4 = .ok (.bipush 31, 2) := by decide +kernel
theorem d6 : decode yB 6 = .ok (.iushr, 1) := by decide +kernel
theorem d7 : decode yB 7 = .ok (.i2b, 1) := by decide +kernel
theorem d8 : decode yB 8 = .ok (.ireturn, 1) := by decide +kernel
def site : List Cond := []
def tab : Cond := tabOf yN yB 2 (some .byte) site
def P (d : Addr) (B : Cell) (args : Array Value) (s : State) : Prop := args = #[.ref d, .int (Int32.ofNat B.slots.size)] ∧ Arr .byte d B s
def E (r : Option Value) (s u : State) : Prop := XT.PureE (some (.int 0)) r s u
/-- an array as long as the number of chars: LATIN1 -/
theorem law (l : Launch) (d : Addr) (B : Cell) : Law l yN 2 2 0 0 yB 2 (some .byte) site (P d B) E [] 0 0 := by
  refine Law.of_walk (plainFor_of_name (by decide +kernel)) (by decide +kernel) (by decide +kernel) (by decide) (fun _ _ h => by rw [h.1]; rfl) (fun _ U U' hal hh h => ⟨h.1, h.2.mv hal hh⟩) (fun r U U' V V' h1 hal h2 h => XT.PureE.mv r U U' V V' h1 hal h2 h) ?_
  intro p e s m args below meth c s₁ X0 hexec hbytes hml hret hlk hnm hown hh0 W hP
  obtain ⟨rfl, hB⟩ := hP
  have hB0 := hB.mv X0.warmed.alike hh0
  have c1 : Steps p.tables e below (s₁.setTop (entryFrame m #[.ref d, .int (Int32.ofNat B.slots.size)] 2)) (s₁.setTop (mkF m 0 #[.val (.ref d), .val (.int (Int32.ofNat B.slots.size))] [])) := entry rfl
  have c2 : Steps p.tables e below (s₁.setTop (entryFrame m #[.ref d, .int (Int32.ofNat B.slots.size)] 2)) (s₁.setTop (mkF m 2 #[.val (.ref d), .val (.int (Int32.ofNat B.slots.size))] [.ref d, .int (Int32.ofNat B.slots.size)])) := c1.trans (by
    refine XS.iloadN X0.here hexec rfl (hb hbytes d0) rfl ?_
    refine XS.aloadN X0.here hexec rfl (hb hbytes d1) rfl rfl ?_
    exact Steps.refl _)
  have c3 : Steps p.tables e below (s₁.setTop (entryFrame m #[.ref d, .int (Int32.ofNat B.slots.size)] 2)) (s₁.setTop (mkF m 8 #[.val (.ref d), .val (.int (Int32.ofNat B.slots.size))] [.int (lo8 (ushr (Int32.ofNat B.slots.size - Int32.ofNat B.slots.size) 31))])) := c2.trans (by
    refine X0.alen hexec hB0 rfl rfl (hb hbytes d2) ?_
    refine XS.isub X0.here hexec rfl (hb hbytes d3) rfl ?_
    refine bipushV X0.here hexec rfl 31 (hb hbytes d4) (by decide) ?_
    refine iushr X0.here hexec rfl (hb hbytes d6) rfl ?_
    refine i2b X0.here hexec rfl (hb hbytes d7) rfl ?_
    exact Steps.refl _)
  have e0 : lo8 (ushr (Int32.ofNat B.slots.size - Int32.ofNat B.slots.size) 31) = 0 := by rw [Int32.sub_self]; decide
  rw [e0] at c3
  exact ⟨s₁, some (.int 0), _, _, _, X0, rfl, rfl, rfl, (fun h => by cases h), ⟨rfl, hh0⟩, fun fs hl => c3.trans (X0.ireturnOut hexec hret rfl (Or.inr (Or.inr (Or.inl rfl))) (hb hbytes d8) hl)⟩
end CodL
/-- the String at a is Latin-1 over a new byte[] (the heap's one new cell): the low bytes of the len chars of A from o on; every cell but a is kept -/
def Got (a : Addr) (D : Cell) (fV fC : Field) (A : Cell) (o len : Nat) (r : Option Value) (s u : State) : Prop := r = none ∧ ∃ D' V : Cell, Blank "java/lang/String" a D' u ∧ Same D D' [fV.slot, fC.slot] ∧ D'.slots[fV.slot]? = some (.ref s.heap.size) ∧ D'.slots[fC.slot]? = some (.int 0) ∧ Arr .byte s.heap.size V u ∧ V.vm = .none ∧ u.vm.findClass "[B" = some V.cls ∧ V.slots.size = len ∧ (∀ j, j < len → V.slots[j]? = some (.int (lo8 (cv A (o + j))))) ∧ (∀ (y : Addr) (c : Cell), y ≠ a → s.heap[y]? = some c → u.heap[y]? = some c) ∧ u.heap.size = s.heap.size + 1
theorem Got.mv {a : Addr} {D A : Cell} {fV fC : Field} {o len : Nat} : ∀ r (U U' V V' : State), U'.heap = U.heap → V.vm.Alike V'.vm → V'.heap = V.heap → Got a D fV fC A o len r U V → Got a D fV fC A o len r U' V' :=
  fun r U U' V V' h1 hal h2 ⟨e0, D', X, a1, a2, a3, a4, a5, a6, a7, a8, a9, a10, a11⟩ => ⟨e0, D', X, a1.mv hal h2, a2, by rw [h1]; exact a3, a4, by rw [h1]; exact a5.mv hal h2, a6, by rw [hal.findClass]; exact a7, a8, a9, by rw [h1, h2]; exact a10, by rw [h1, h2]; exact a11⟩
namespace New4
def yN : MethodName := ⟨"java/lang/String", "<init>", "([CIILjava/lang/Void;)V"⟩
abbrev yB : ByteArray := jdk_42_method_149_code
theorem d0 : decode yB 0 = .ok (.aload_n 0, 1) := by decide +kernel
theorem d1 : decode yB 1 = .ok (.invokespecial 1, 3) := by decide +kernel
theorem d4 : decode yB 4 = .ok (.iload_n 3, 1) := by decide +kernel
theorem d5 : decode yB 5 = .ok (.ifCond (.ne) 22, 3) := by decide +kernel
theorem d27 : decode yB 27 = .ok (.getstatic 38, 3) := by decide +kernel
theorem d30 : decode yB 30 = .ok (.ifCond (.eq) 28, 3) := by decide +kernel
theorem d33 : decode yB 33 = .ok (.aload_n 1, 1) := by decide +kernel
theorem d34 : decode yB 34 = .ok (.iload_n 2, 1) := by decide +kernel
theorem d35 : decode yB 35 = .ok (.iload_n 3, 1) := by decide +kernel
theorem d36 : decode yB 36 = .ok (.invokestatic 177, 3) := by decide +kernel
theorem d39 : decode yB 39 = .ok (.astore 5, 2) := by decide +kernel
theorem d41 : decode yB 41 = .ok (.aload_n 0, 1) := by decide +kernel
theorem d42 : decode yB 42 = .ok (.aload 5, 2) := by decide +kernel
theorem d44 : decode yB 44 = .ok (.iload_n 3, 1) := by decide +kernel
theorem d45 : decode yB 45 = .ok (.invokestatic 47, 3) := by decide +kernel
theorem d48 : decode yB 48 = .ok (.putfield 15, 3) := by decide +kernel
theorem d51 : decode yB 51 = .ok (.aload_n 0, 1) := by decide +kernel
theorem d52 : decode yB 52 = .ok (.aload 5, 2) := by decide +kernel
theorem d54 : decode yB 54 = .ok (.putfield 9, 3) := by decide +kernel
theorem d57 : decode yB 57 = .ok (.return_, 1) := by decide +kernel
def site : List Cond := [.fieldLink "java/lang/String" 38 "java/lang/String" "COMPACT_STRINGS" "Z", Cmp3.tab, CodL.tab, .laysFinal "java/lang/String" "java/lang/String" "value" "[B", .fieldLink "java/lang/String" 9 "java/lang/String" "value" "[B", .laysFinal "java/lang/String" "java/lang/String" "coder" "B", .fieldLink "java/lang/String" 15 "java/lang/String" "coder" "B"] ++ objW "java/lang/String" 1 ++ staticW "java/lang/String" 177 Cmp3.yN ++ staticW "java/lang/String" 47 CodL.yN
def tab : Cond := tabOf yN yB 6 none site
def P (a : Addr) (D : Cell) (fV fC : Field) (b : Addr) (A : Cell) (z : Int32) (o len : Nat) (args : Array Value) (s : State) : Prop := args = #[.ref a, .ref b, .int (Int32.ofNat o), .int (Int32.ofNat len), .null] ∧ Blank "java/lang/String" a D s ∧ Found "java/lang/String" "value" "[B" fV s ∧ Found "java/lang/String" "coder" "B" fC s ∧ Ch b A s ∧ StaticIs s "java/lang/String" "COMPACT_STRINGS" "Z" (.int z) ∧ ¬ z = 0 ∧ 0 < len ∧ o + len ≤ A.slots.size ∧ len ≤ 536870912 ∧ ∀ i, i < len → ¬ 255 < cv A (o + i)
def E (a : Addr) (D : Cell) (fV fC : Field) (A : Cell) (o len : Nat) (r : Option Value) (s u : State) : Prop := Got a D fV fC A o len r s u
/-- len > 0, no char of the range above 255: a Latin-1 String of their low bytes -/
theorem law (l : Launch) (a : Addr) (D : Cell) (fV fC : Field) (b : Addr) (A : Cell) (z : Int32) (o len : Nat) : Law l yN 5 4 2 35 yB 6 none site (P a D fV fC b A z o len) (E a D fV fC A o len) [⟨a, fC.slot⟩, ⟨a, fV.slot⟩] 1 len := by
  refine Law.of_walk (plainFor_of_name (by decide +kernel)) (by decide +kernel) (by decide +kernel) (by decide) (fun _ _ h => by rw [h.1]; rfl) (fun _ U U' hal hh h => ⟨h.1, h.2.1.mv hal hh, h.2.2.1.al hal, h.2.2.2.1.al hal, h.2.2.2.2.1.mv hal hh, h.2.2.2.2.2.1.there hal hh, h.2.2.2.2.2.2⟩) (fun r U U' V V' h1 hal h2 h => Got.mv r U U' V V' h1 hal h2 h) ?_
  intro p e s m args below meth c s₁ X0 hexec hbytes hml hret hlk hnm hown hh0 W hP
  obtain ⟨rfl, hB, f1, f2, hA, s1, hz, l0, l1, l2, hp⟩ := hP
  have a31 := hA.1.2.2.2
  have c1 : Steps p.tables e below (s₁.setTop (entryFrame m #[.ref a, .ref b, .int (Int32.ofNat o), .int (Int32.ofNat len), .null] 6)) (s₁.setTop (mkF m 0 #[.val (.ref a), .val (.ref b), .val (.int (Int32.ofNat o)), .val (.int (Int32.ofNat len)), .val .null, .unset] [])) := entry rfl
  have c2 : Steps p.tables e below (s₁.setTop (entryFrame m #[.ref a, .ref b, .int (Int32.ofNat o), .int (Int32.ofNat len), .null] 6)) (s₁.setTop (mkF m 1 #[.val (.ref a), .val (.ref b), .val (.int (Int32.ofNat o)), .val (.int (Int32.ofNat len)), .val .null, .unset] [.ref a])) := c1.trans (by
    refine XS.aloadN X0.here hexec rfl (hb hbytes d0) rfl rfl ?_
    exact Steps.refl _)
  obtain ⟨T3, X3, q3, st3⟩ := X0.oinit hexec hown (wks W (objW "java/lang/String" 1)) (g := (mkF m 1 #[.val (.ref a), .val (.ref b), .val (.int (Int32.ofNat o)), .val (.int (Int32.ofNat len)), .val .null, .unset] [.ref a])) rfl (by rw [hml]; rfl) (rest := []) rfl (hb hbytes d1) (W := 0) (by show 2 * 0 + 0 ≤ _; decide) (Nat.le_of_ble_eq_true rfl) (Nat.le_of_ble_eq_true rfl)
  have hh3 := q3.trans hh0
  have c4 : Steps p.tables e below (s₁.setTop (entryFrame m #[.ref a, .ref b, .int (Int32.ofNat o), .int (Int32.ofNat len), .null] 6)) (T3.setTop (mkF m 27 #[.val (.ref a), .val (.ref b), .val (.int (Int32.ofNat o)), .val (.int (Int32.ofNat len)), .val .null, .unset] [])) := (c2.trans (st3 _ (Steps.refl _))).trans (by
    refine XS.iloadN X3.here hexec rfl (hb hbytes d4) rfl ?_
    refine XS.ifYes X3.here hexec rfl (pc0 := 5) rfl (hb hbytes d5) rfl (i0_ne_t (nz32 (by omega) l0)) (by decide) rfl ?_
    exact Steps.refl _)
  obtain ⟨T5, X5, q5, st5⟩ := X3.sget hexec hown (wk W (.fieldLink "java/lang/String" 38 "java/lang/String" "COMPACT_STRINGS" "Z")) s1 (fun _ _ h => by rw [hh3]; exact h) (g := (mkF m 27 #[.val (.ref a), .val (.ref b), .val (.int (Int32.ofNat o)), .val (.int (Int32.ofNat len)), .val .null, .unset] [])) rfl (hb hbytes d27)
  have hh5 := q5.trans hh3
  have c6 : Steps p.tables e below (s₁.setTop (entryFrame m #[.ref a, .ref b, .int (Int32.ofNat o), .int (Int32.ofNat len), .null] 6)) (T5.setTop (mkF m 30 #[.val (.ref a), .val (.ref b), .val (.int (Int32.ofNat o)), .val (.int (Int32.ofNat len)), .val .null, .unset] [.int z])) := c4.trans (st5 _ (Steps.refl _))
  have c7 : Steps p.tables e below (s₁.setTop (entryFrame m #[.ref a, .ref b, .int (Int32.ofNat o), .int (Int32.ofNat len), .null] 6)) (T5.setTop (mkF m 36 #[.val (.ref a), .val (.ref b), .val (.int (Int32.ofNat o)), .val (.int (Int32.ofNat len)), .val .null, .unset] [.int (Int32.ofNat len), .int (Int32.ofNat o), .ref b])) := c6.trans (by
    refine XS.ifNo X5.here hexec rfl (hb hbytes d30) rfl (i0_eq_f hz) ?_
    refine XS.aloadN X5.here hexec rfl (hb hbytes d33) rfl rfl ?_
    refine XS.iloadN X5.here hexec rfl (hb hbytes d34) rfl ?_
    refine XS.iloadN X5.here hexec rfl (hb hbytes d35) rfl ?_
    exact Steps.refl _)
  obtain ⟨v8, T8, X8, E8, g8⟩ := X5.callS hexec (Cmp3.law l b A o len) hown (wks W (staticW "java/lang/String" 177 Cmp3.yN)) (wk W Cmp3.tab) (W := 0) (Nat.le_of_ble_eq_true rfl) (Nat.le_of_ble_eq_true rfl) (Nat.le_refl _) (by show 0 + len ≤ len; omega) (g := (mkF m 36 #[.val (.ref a), .val (.ref b), .val (.int (Int32.ofNat o)), .val (.int (Int32.ofNat len)), .val .null, .unset] [.int (Int32.ofNat len), .int (Int32.ofNat o), .ref b])) rfl (by rw [hml]; rfl) c7 (argsL := [.ref b, .int (Int32.ofNat o), .int (Int32.ofNat len)]) (rest := []) rfl rfl (by show 2 * 0 + 0 ≤ _; decide) (hb hbytes d36) (⟨rfl, hA.mv X5.warmed.alike hh5, l1, l2, hp⟩)
  obtain ⟨e8, z8⟩ := E8
  obtain ⟨rfl, N, n1, n2, n3, n4, n5, n6⟩ := NewArr.mv _ T5 s _ _ hh5.symm (Vm.Alike.refl _) rfl e8
  rw [hh5] at z8
  have hB1 := hB.keep X8.warmed.alike (n6 _ _ hB.1)
  have hne : s.heap.size ≠ a := (Nat.ne_of_lt (Array.getElem?_eq_some_iff.mp hB.1).1).symm
  have c9 : Steps p.tables e below (s₁.setTop (entryFrame m #[.ref a, .ref b, .int (Int32.ofNat o), .int (Int32.ofNat len), .null] 6)) (T8.setTop (mkF m 39 #[.val (.ref a), .val (.ref b), .val (.int (Int32.ofNat o)), .val (.int (Int32.ofNat len)), .val .null, .unset] [.ref s.heap.size])) := g8
  have c10 : Steps p.tables e below (s₁.setTop (entryFrame m #[.ref a, .ref b, .int (Int32.ofNat o), .int (Int32.ofNat len), .null] 6)) (T8.setTop (mkF m 45 #[.val (.ref a), .val (.ref b), .val (.int (Int32.ofNat o)), .val (.int (Int32.ofNat len)), .val .null, .val (.ref s.heap.size)] [.int (Int32.ofNat N.slots.size), .ref s.heap.size, .ref a])) := by
    have hc : Steps p.tables e below (s₁.setTop (entryFrame m #[.ref a, .ref b, .int (Int32.ofNat o), .int (Int32.ofNat len), .null] 6)) (T8.setTop (mkF m 45 #[.val (.ref a), .val (.ref b), .val (.int (Int32.ofNat o)), .val (.int (Int32.ofNat len)), .val .null, .val (.ref s.heap.size)] [.int (Int32.ofNat len), .ref s.heap.size, .ref a])) := c9.trans (by
      refine XS.astore X8.here hexec rfl (hb hbytes d39) rfl rfl rfl ?_
      refine XS.aloadN X8.here hexec rfl (hb hbytes d41) rfl rfl ?_
      refine XS.aload X8.here hexec rfl (hb hbytes d42) rfl rfl ?_
      refine XS.iloadN X8.here hexec rfl (hb hbytes d44) rfl ?_
      exact Steps.refl _)
    rw [n4]; exact hc
  obtain ⟨v11, T11, X11, E11, g11⟩ := X8.callS hexec (CodL.law l s.heap.size N) hown (wks W (staticW "java/lang/String" 47 CodL.yN)) (wk W CodL.tab) (W := 1) (Nat.le_of_ble_eq_true rfl) (Nat.le_of_ble_eq_true rfl) (Nat.le_refl _) (by show 0 + len + 0 ≤ len; omega) (g := (mkF m 45 #[.val (.ref a), .val (.ref b), .val (.int (Int32.ofNat o)), .val (.int (Int32.ofNat len)), .val .null, .val (.ref s.heap.size)] [.int (Int32.ofNat N.slots.size), .ref s.heap.size, .ref a])) rfl (by rw [hml]; rfl) c10 (argsL := [.ref s.heap.size, .int (Int32.ofNat N.slots.size)]) (rest := [.ref a]) rfl rfl (by show 2 * 0 + (1 + 0) ≤ _; decide) (hb hbytes d45) (⟨rfl, n1⟩)
  obtain ⟨rfl, q11⟩ := E11
  have hB11 := hB1.mv (X8.warmed.alike.symm.trans X11.warmed.alike) q11
  have c12 : Steps p.tables e below (s₁.setTop (entryFrame m #[.ref a, .ref b, .int (Int32.ofNat o), .int (Int32.ofNat len), .null] 6)) (T11.setTop (mkF m 48 #[.val (.ref a), .val (.ref b), .val (.int (Int32.ofNat o)), .val (.int (Int32.ofNat len)), .val .null, .val (.ref s.heap.size)] [.int 0, .ref a])) := g11
  obtain ⟨T13, X13, p13, bl13, sl13, st13⟩ := X11.finit hexec hown (wk W (.fieldLink "java/lang/String" 15 "java/lang/String" "coder" "B")) (Or.inr ⟨_, (wk W (.laysFinal "java/lang/String" "java/lang/String" "coder" "B"))⟩) (Or.inl ⟨rfl, hnm⟩) f2 (Or.inl rfl) hB11 (t := .byte) (by decide +kernel) rfl (g := (mkF m 48 #[.val (.ref a), .val (.ref b), .val (.int (Int32.ofNat o)), .val (.int (Int32.ofNat len)), .val .null, .val (.ref s.heap.size)] [.int 0, .ref a])) rfl (rest := []) rfl (hb hbytes d48)
  have c14 : Steps p.tables e below (s₁.setTop (entryFrame m #[.ref a, .ref b, .int (Int32.ofNat o), .int (Int32.ofNat len), .null] 6)) (T13.setTop (mkF m 54 #[.val (.ref a), .val (.ref b), .val (.int (Int32.ofNat o)), .val (.int (Int32.ofNat len)), .val .null, .val (.ref s.heap.size)] [.ref s.heap.size, .ref a])) := (c12.trans (st13 _ (Steps.refl _))).trans (by
    refine XS.aloadN X13.here hexec rfl (hb hbytes d51) rfl rfl ?_
    refine XS.aload X13.here hexec rfl (hb hbytes d52) rfl rfl ?_
    exact Steps.refl _)
  obtain ⟨T15, X15, p15, bl15, sl15, st15⟩ := X13.finit hexec hown (wk W (.fieldLink "java/lang/String" 9 "java/lang/String" "value" "[B")) (Or.inr ⟨_, (wk W (.laysFinal "java/lang/String" "java/lang/String" "value" "[B"))⟩) (Or.inl ⟨rfl, hnm⟩) f1 (Or.inl rfl) bl13 (t := (.array .byte)) (by decide +kernel) rfl (g := (mkF m 54 #[.val (.ref a), .val (.ref b), .val (.int (Int32.ofNat o)), .val (.int (Int32.ofNat len)), .val .null, .val (.ref s.heap.size)] [.ref s.heap.size, .ref a])) rfl (rest := []) rfl (hb hbytes d54)
  have c16 : Steps p.tables e below (s₁.setTop (entryFrame m #[.ref a, .ref b, .int (Int32.ofNat o), .int (Int32.ofNat len), .null] 6)) (T15.setTop (mkF m 57 #[.val (.ref a), .val (.ref b), .val (.int (Int32.ofNat o)), .val (.int (Int32.ofNat len)), .val .null, .val (.ref s.heap.size)] [])) := c14.trans (st15 _ (Steps.refl _))
  have ap := apart (Or.inr ⟨_, (wk W (.laysFinal "java/lang/String" "java/lang/String" "value" "[B"))⟩) (Or.inr ⟨_, (wk W (.laysFinal "java/lang/String" "java/lang/String" "coder" "B"))⟩) f1 f2 (t₁ := .array .byte) (t₂ := .byte) (by decide +kernel) (by decide +kernel) (by decide)
  have al := X8.warmed.alike.symm.trans X15.warmed.alike
  have n7 : T11.heap[s.heap.size]? = some N := by rw [q11]; exact n1.1
  exact ⟨T15, none, _, _, _, X15, by simp, rfl, by omega, (fun _ => rfl), ⟨rfl, _, N, bl15, ((Same.refl D _).set _ (by simp)).set _ (by simp), sl15, (Cell.slots_setSlot_ne _ ap).trans sl13, n1.keep al (p15.other hne (p13.other hne n7)), n2, by rw [al.findClass]; exact n3, n4, n5, fun y c h1 h2 => p15.other h1 (p13.other h1 (by rw [q11]; exact n6 y c h2)), by rw [p15.2.2, p13.2.2, q11]; exact z8⟩, fun fs hl => c16.trans (X15.returnOut hexec hret (hb hbytes d57) hl)⟩
end New4
namespace New1
def yN : MethodName := ⟨"java/lang/String", "<init>", "([C)V"⟩
abbrev yB : ByteArray := jdk_42_method_3_code
theorem d0 : decode yB 0 = .ok (.aload_n 0, 1) := by decide +kernel
theorem d1 : decode yB 1 = .ok (.aload_n 1, 1) := by decide +kernel
theorem d2 : decode yB 2 = .ok (.iconst 0, 1) := by decide +kernel
theorem d3 : decode yB 3 = .ok (.aload_n 1, 1) := by decide +kernel
theorem d4 : decode yB 4 = .ok (.arraylength, 1) := by decide +kernel
theorem d5 : decode yB 5 = .ok (.aconst_null, 1) := by decide +kernel
theorem d6 : decode yB 6 = .ok (.invokespecial 27, 3) := by decide +kernel
theorem d9 : decode yB 9 = .ok (.return_, 1) := by decide +kernel
def site : List Cond := [New4.tab] ++ initW "java/lang/String" 27 New4.yN
def tab : Cond := tabOf yN yB 2 none site
def P (a : Addr) (D : Cell) (fV fC : Field) (b : Addr) (A : Cell) (z : Int32) (args : Array Value) (s : State) : Prop := args = #[.ref a, .ref b] ∧ Blank "java/lang/String" a D s ∧ Found "java/lang/String" "value" "[B" fV s ∧ Found "java/lang/String" "coder" "B" fC s ∧ Ch b A s ∧ StaticIs s "java/lang/String" "COMPACT_STRINGS" "Z" (.int z) ∧ ¬ z = 0 ∧ 0 < A.slots.size ∧ A.slots.size ≤ 536870912 ∧ ∀ i, i < A.slots.size → ¬ 255 < cv A i
def E (a : Addr) (D : Cell) (fV fC : Field) (A : Cell) (r : Option Value) (s u : State) : Prop := Got a D fV fC A 0 A.slots.size r s u
/-- new String(chars), not empty, no char above 255: a Latin-1 String of their low bytes -/
theorem law (l : Launch) (a : Addr) (D : Cell) (fV fC : Field) (b : Addr) (A : Cell) (z : Int32) : Law l yN 2 1 3 52 yB 2 none site (P a D fV fC b A z) (E a D fV fC A) [⟨a, fC.slot⟩, ⟨a, fV.slot⟩] 1 A.slots.size := by
  refine Law.of_walk (plainFor_of_name (by decide +kernel)) (by decide +kernel) (by decide +kernel) (by decide) (fun _ _ h => by rw [h.1]; rfl) (fun _ U U' hal hh h => ⟨h.1, h.2.1.mv hal hh, h.2.2.1.al hal, h.2.2.2.1.al hal, h.2.2.2.2.1.mv hal hh, h.2.2.2.2.2.1.there hal hh, h.2.2.2.2.2.2⟩) (fun r U U' V V' h1 hal h2 h => Got.mv r U U' V V' h1 hal h2 h) ?_
  intro p e s m args below meth c s₁ X0 hexec hbytes hml hret hlk hnm hown hh0 W hP
  obtain ⟨rfl, hB, f1, f2, hA, s1, hz, l0, l2, hp⟩ := hP
  have c1 : Steps p.tables e below (s₁.setTop (entryFrame m #[.ref a, .ref b] 2)) (s₁.setTop (mkF m 0 #[.val (.ref a), .val (.ref b)] [])) := entry rfl
  have c2 : Steps p.tables e below (s₁.setTop (entryFrame m #[.ref a, .ref b] 2)) (s₁.setTop (mkF m 6 #[.val (.ref a), .val (.ref b)] [.null, .int (Int32.ofNat A.slots.size), .int 0, .ref b, .ref a])) := c1.trans (by
    refine XS.aloadN X0.here hexec rfl (hb hbytes d0) rfl rfl ?_
    refine XS.aloadN X0.here hexec rfl (hb hbytes d1) rfl rfl ?_
    refine iconstV X0.here hexec rfl 0 (hb hbytes d2) (by decide) ?_
    refine XS.aloadN X0.here hexec rfl (hb hbytes d3) rfl rfl ?_
    refine X0.alen hexec (hA.1.mv X0.warmed.alike hh0) rfl rfl (hb hbytes d4) ?_
    refine XS.aconstNull X0.here hexec rfl (hb hbytes d5) ?_
    exact Steps.refl _)
  obtain ⟨v3, T3, X3, E3, g3⟩ := X0.callN hexec (New4.law l a D fV fC b A z 0 A.slots.size) rfl hown (wks W (initW "java/lang/String" 27 New4.yN)) (W New4.tab (by simp only [site, List.mem_cons, List.mem_append, true_or, or_true])) (W := 0) (Nat.le_of_ble_eq_true rfl) (Nat.le_of_ble_eq_true rfl) (Nat.le_refl _) (by show 0 + A.slots.size ≤ A.slots.size; omega) (g := (mkF m 6 #[.val (.ref a), .val (.ref b)] [.null, .int (Int32.ofNat A.slots.size), .int (Int32.ofNat 0), .ref b, .ref a])) rfl (by rw [hml]; rfl) c2 (argsL := [.ref b, .int (Int32.ofNat 0), .int (Int32.ofNat A.slots.size), .null]) (rest := []) rfl rfl (by show 2 * 0 + 0 ≤ _; decide) (hb hbytes d6) (⟨rfl, hB.mv X0.warmed.alike hh0, f1.al X0.warmed.alike, f2.al X0.warmed.alike, hA.mv X0.warmed.alike hh0, s1.there X0.warmed.alike hh0, hz, l0, by omega, l2, fun i hi => by rw [Nat.zero_add]; exact hp i hi⟩)
  have e0 := Got.mv _ s₁ s _ _ hh0.symm (Vm.Alike.refl _) rfl E3
  obtain rfl := e0.1
  have c4 : Steps p.tables e below (s₁.setTop (entryFrame m #[.ref a, .ref b] 2)) (T3.setTop (mkF m 9 #[.val (.ref a), .val (.ref b)] [])) := g3
  exact ⟨T3, none, _, _, _, X3, by simp, rfl, by omega, (fun _ => rfl), e0, fun fs hl => c4.trans (X3.returnOut hexec hret (hb hbytes d9) hl)⟩
theorem pays {l : Launch} {R : Room} {p : Program} {e : Env} {below : List Frame} {s : State} {sargs : Array Value} {len W : Nat} (a : Addr) (D : Cell) (fV fC : Field) (b : Addr) (A : Cell) (z : Int32) (htab : tab.before sargs s = true) (hfr : 4 ≤ R.frames) (hlo : W + 65 ≤ R.locals) :
    Back l R p e below s sargs yN len W (fun A₁ a₁ => A₁.cells + 1 ≤ R.cells ∧ A₁.slots + A.slots.size ≤ R.slots ∧ P a D fV fC b A z a₁ A₁.U) (fun A₁ _ v₁ B₁ => E a D fV fC A v₁ A₁.U B₁.U ∧ B₁.locs = A₁.locs ++ [⟨a, fC.slot⟩, ⟨a, fV.slot⟩] ∧ B₁.cells = A₁.cells + 1 ∧ B₁.slots = A₁.slots + A.slots.size) :=
  (law l a D fV fC b A z).pays htab hfr (by omega)
end New1
/-- the byte, read back as charAt reads it, is the char -/
theorem lo8_mask {x : Int32} (h0 : ¬ x < 0) (h1 : ¬ 255 < x) : lo8 x &&& 255 = x := by
  have t : ∀ k : Fin 256, lo8 (Int32.ofNat k.val) &&& 255 = Int32.ofNat k.val := by decide +kernel
  rw [Int32.lt_iff_toInt_lt] at h0 h1
  have e0 : (0 : Int32).toInt = 0 := rfl
  have e1 : (255 : Int32).toInt = 255 := rfl
  obtain ⟨k, hk⟩ : ∃ k : Nat, x.toInt = k := ⟨x.toInt.toNat, by omega⟩
  have hx : x = Int32.ofNat k := Int32.toInt_inj.mp (by rw [hk, Int32.toInt_ofNat_small (by omega)])
  rw [hx]
  exact t ⟨k, by omega⟩
end StrChars
namespace StrChars.Road
open Jvm Sem ClassFile Op Lib Jvm.Stand Jvm.Free Jvm.Free.XT
open Jvm.Lib.Cold (StaticIs)
abbrev ST : String := "java/lang/String"
/-- every table word that New1's law asks, flat -/
abbrev words : List Jvm.Cond := [.code New1.yN New1.yB 2 none, .initialized ST, .methodLink ST 27 New4.yN, .instanceMethod New4.yN,
  .code New4.yN New4.yB 6 none, .fieldLink ST 38 ST "COMPACT_STRINGS" "Z", .laysFinal ST ST "value" "[B", .fieldLink ST 9 ST "value" "[B", .laysFinal ST ST "coder" "B", .fieldLink ST 15 ST "coder" "B",
  .methodLink ST 1 Lib.objectInit, .instanceMethod Lib.objectInit, .code Lib.objectInit ⟨#[0xb1]⟩ 1 none, .methodLink ST 177 Cmp3.yN, .static Cmp3.yN, .methodLink ST 47 CodL.yN, .static CodL.yN,
  .code Cmp3.yN Cmp3.yB 6 (some (.array .byte)), .initialized U16, .arrayClass .byte, .methodLink U16 115 Cmp5.yN, .static Cmp5.yN, .code Cmp5.yN Cmp5.yB 7 (some .int), .code CodL.yN CodL.yB 2 (some .byte)]
theorem tab_of {a : Array Value} {s : State} (h : ∀ w ∈ words, w.before a s = true) : New1.tab.before a s = true := by
  have h5 : Cmp5.tab.before a s = true := unparts (wk h (.code Cmp5.yN Cmp5.yB 7 (some .int))) (wks h (.initialized Cmp5.yN.cls :: Cmp5.site))
  have hc : CodL.tab.before a s = true := unparts (wk h (.code CodL.yN CodL.yB 2 (some .byte))) (wks h (.initialized CodL.yN.cls :: CodL.site))
  have q5 : ∀ w ∈ Cmp5.tab :: words, w.before a s = true := fun w hw => (List.mem_cons.mp hw).elim (fun e => e ▸ h5) (h w)
  have h3 : Cmp3.tab.before a s = true := unparts (wk q5 (.code Cmp3.yN Cmp3.yB 6 (some (.array .byte)))) (wks q5 (.initialized Cmp3.yN.cls :: Cmp3.site))
  have q3 : ∀ w ∈ Cmp3.tab :: CodL.tab :: words, w.before a s = true := fun w hw => (List.mem_cons.mp hw).elim (fun e => e ▸ h3) fun hw => (List.mem_cons.mp hw).elim (fun e => e ▸ hc) (h w)
  have h4 : New4.tab.before a s = true := unparts (wk q3 (.code New4.yN New4.yB 6 none)) (wks q3 (.initialized New4.yN.cls :: New4.site))
  have q4 : ∀ w ∈ New4.tab :: words, w.before a s = true := fun w hw => (List.mem_cons.mp hw).elim (fun e => e ▸ h4) (h w)
  exact unparts (wk q4 (.code New1.yN New1.yB 2 none)) (wks q4 (.initialized New1.yN.cls :: New1.site))
/-- the words ride from the start Z to the walk's own state -/
theorem moved {Z s : State} {a0 args : Array Value} (hZ : Z.Warmed39 s.vm) (hw : ∀ d ∈ words, d.before a0 Z = true) : ∀ d ∈ words, d.before args s = true := fun d hd => by
  have q := hw d hd
  have t : ∀ d ∈ words, d = .arrayClass .byte ∨ (d.onTables && d.keepsFace) = true := by decide +kernel
  rcases t d hd with rfl | t
  · exact RoadKit.mvA hZ q
  · exact RoadKit.mv hZ q t
/-- WHAT COMES BACK, over the tables of the start Z: h the heap at the call, h' behind it -/
def Q (Z : State) (x : Addr) (A : Cell) (h : Heap) (v : Option Value) (h' : Heap) (L : List Loc) : Prop := v = none ∧ (∀ y ∈ L, y.base = x) ∧ RoadKit.Keep h h' [x] ∧ h'.size = h.size + 1 ∧ RoadKit.Exa Z h' x ST ∧ RoadKit.Fld Z h' x ST "value" "[B" (.ref h.size) ∧ RoadKit.Fld Z h' x ST "coder" "B" (.int 0) ∧
  (∃ V : Cell, RoadKit.Arr Z h' h.size V .byte ∧ V.vm = .none ∧ Z.vm.findClass "[B" = some V.cls ∧ V.slots.size = A.slots.size ∧ ∀ j, j < A.slots.size → V.slots[j]? = some (.int (lo8 (cv A j)))) ∧
  ∀ (O n d : String) (w : Value), RoadKit.Fld Z h x O n d w → RoadKit.slotOf Z O n d ≠ RoadKit.slotOf Z ST "value" "[B" → RoadKit.slotOf Z O n d ≠ RoadKit.slotOf Z ST "coder" "B" → RoadKit.Fld Z h' x O n d w
/-- **new String(chars) AT A CALL, IN THE ROAD'S FORM**: for specialBack behind newO: x the fresh String, b the char[] with the cell A -/
theorem back {p : Program} {l : Launch} {e : Env} {R : Room} {s : State} {args : Array Value} {below : List Frame} {len W : Nat} {Z : State} {a0 : Array Value} {h : Heap} (hZ : Z.Warmed39 s.vm) (hw : ∀ d ∈ words, d.before a0 Z = true) {kI : Nat} (wi : (Jvm.Cond.instantiable ST kI).before a0 Z = true)
    {x b : Addr} {A : Cell} {z : Int32} {v0 c0 : Value} (E : RoadKit.Exa Z h x ST) (V : RoadKit.Fld Z h x ST "value" "[B" v0) (C : RoadKit.Fld Z h x ST "coder" "B" c0) (K : RoadKit.Arr Z h b A .char) (hty : Typed .char A) (S : RoadKit.Sta Z h ST "COMPACT_STRINGS" "Z" (.int z)) (hz : ¬ z = 0)
    (l0 : 0 < A.slots.size) (l2 : A.slots.size ≤ 536870912) (hp : ∀ i, i < A.slots.size → ¬ 255 < cv A i) (hfr : 4 ≤ R.frames) (hlo : W + 65 ≤ R.locals) :
    Back l R p e below s args New1.yN len W (fun P a => a = #[.ref x, .ref b] ∧ P.U.heap = h ∧ P.cells + 1 ≤ R.cells ∧ P.slots + A.slots.size ≤ R.slots)
      (fun P _ v B => ∃ L, Q Z x A h v B.U.heap L ∧ B.locs = P.locs ++ L ∧ B.cells = P.cells + 1 ∧ B.slots = P.slots + A.slots.size) := by
  intro m meth c P g ig mk a X hg hsize hdg hW hn hp'
  obtain ⟨rfl, rfl, r1, r2⟩ := hp'
  have al : Z.vm.Alike P.U.vm := hZ.alike.trans X.warmed.alike
  obtain ⟨D, cfV, kV, iV, fV, hD, gV, stV, knV, obV, asV, slV⟩ := id V
  obtain ⟨D', cfC, kC, iC, fC, hD', gC, stC, -, -, asC, slC⟩ := id C
  cases hD.symm.trans hD'
  obtain ⟨D2, kD, e1, e2, e3, e4, e5⟩ := id E
  cases hD.symm.trans e1
  obtain ⟨c2, k2, i1, i2, i3, -⟩ := Cond.instantiable_spec wi
  cases e2.symm.trans i1
  cases e3.symm.trans i2
  obtain ⟨kU, u1, u2⟩ := al.2.2 _ _ e3
  have hB : Blank ST x D P.U := ⟨hD, ⟨knV, fun q hq => by rw [hq] at obV; cases obV⟩, by rw [al.findClass]; exact e2, kU, u1, by rw [u2]; exact i3, by rw [u2]; exact e5 i3⟩
  have F1 : Found ST "value" "[B" fV P.U := ⟨SBG.found_only al ⟨cfV, kV, iV, gV⟩, stV⟩
  have F2 : Found ST "coder" "B" fC P.U := ⟨SBG.found_only al ⟨cfC, kC, iC, gC⟩, stC⟩
  have hA : Ch b A P.U := ⟨⟨K.1, State.isArrayOf_alike al K.2.1, K.2.2, by omega⟩, hty⟩
  have hS : StaticIs P.U ST "COMPACT_STRINGS" "Z" (.int z) := by
    obtain ⟨cfS, iS, kS, fS, st, cS, t1, t2, t3, t4, t5, t6, t7⟩ := S
    exact StaticIs.there (s := { Z with heap := P.U.heap }) ⟨cfS, iS, kS, fS, st, cS, t1, t2, t3, t4, t5, (fun q => by rw [q] at t6; cases t6), t7⟩ al rfl
  obtain ⟨v, B, X', ⟨⟨hv, E', V', q1, q2, q3, q4, q5, q6, q7, q8, q9, q10, q11⟩, hl, hc, hs⟩, st⟩ := New1.pays x D fV fC b A z (tab_of (moved hZ hw)) hfr hlo m meth c P g ig mk _ X hg hsize hdg hW hn ⟨r1, r2, rfl, hB, F1, F2, hA, hS, hz, l0, l2, hp⟩
  have al' : Z.vm.Alike B.U.vm := hZ.alike.trans X'.warmed.alike
  have hsz : E'.slots.size = D.slots.size := by
    obtain ⟨-, -, -, kB, w1, w2, w3⟩ := q1
    obtain ⟨kB', y1, y2⟩ := al'.2.2 _ _ e3
    rw [q2.2.1] at w1
    cases w1.symm.trans y1
    rw [w3, e5 i3, y2]
  refine ⟨v, B, X', ⟨_, ⟨hv, ?_, ⟨by omega, fun y cy hy hn' => q10 y cy (by simpa using hn') hy, fun y cy hy => ?_⟩, q11, ⟨E', _, q1.1, by rw [q2.2.1]; exact e2, by rw [q2.2.1]; exact e3, by rw [q2.1]; exact obV, fun _ => by rw [hsz]; exact e5 i3⟩,
    ⟨E', cfV, kV, iV, fV, q1.1, gV, stV, by rw [q2.1]; exact knV, by rw [q2.1]; exact obV, by rw [q2.2.1]; exact asV, q3⟩, ⟨E', cfC, kC, iC, fC, q1.1, gC, stC, by rw [q2.1]; exact knV, by rw [q2.1]; exact obV, by rw [q2.2.1]; exact asC, q4⟩,
    ⟨V', ⟨q5.1, State.isArrayOf_alike al'.symm q5.2.1, q5.2.2.1⟩, q6, by rw [← al'.findClass]; exact q7, q8, fun j hj => by have := q9 j hj; rwa [Nat.zero_add] at this⟩, fun O n d w F n1 n2 => ?_⟩, hl, hc, hs⟩, st⟩
  · intro y hy
    simp only [List.mem_cons, List.not_mem_nil, or_false] at hy
    rcases hy with rfl | rfl <;> rfl
  · by_cases q : y = x
    · subst q
      cases hD.symm.trans hy
      exact ⟨E', q1.1, q2.2.1, q2.1, hsz⟩
    · exact ⟨cy, q10 y cy q hy, rfl, rfl, rfl⟩
  · obtain ⟨D3, cf, k, i, f, g1, g2, g3, g4, g5, g6, g7⟩ := F
    cases hD.symm.trans g1
    simp only [RoadKit.slotOf, g2, gV, gC, Option.map_some, Option.getD_some] at n1 n2
    exact ⟨E', cf, k, i, f, q1.1, g2, g3, by rw [q2.1]; exact g4, by rw [q2.1]; exact g5, by rw [q2.2.1]; exact g6, by rw [q2.2.2 f.slot (by simp [n1, n2])]; exact g7⟩
end StrChars.Road
namespace StrChars.Road
open Jvm Sem ClassFile Op Lib Jvm.Stand Jvm.Free Jvm.Free.XT
/-- WHAT COMES BACK, the byte[] as a list of values -/
def QA (Z : State) (x : Addr) (zn : Int32) (cs : List Int32) (h : Heap) (v : Option Value) (h' : Heap) (L : List Loc) : Prop := v = none ∧ (∀ y ∈ L, y.base = x) ∧ RoadKit.Keep h h' [x] ∧ h'.size = h.size + 1 ∧ RoadKit.Exa Z h' x ST ∧ RoadKit.Fld Z h' x ST "value" "[B" (.ref h.size) ∧ RoadKit.Fld Z h' x ST "coder" "B" (.int 0) ∧
  (∃ kb, Z.vm.findClass "[B" = some kb ∧ RoadKit.Arv Z h' h.size kb .byte zn (cs.map fun c => .int (lo8 c)) (.int 0)) ∧
  ∀ (O n d : String) (w : Value), RoadKit.Fld Z h x O n d w → RoadKit.slotOf Z O n d ≠ RoadKit.slotOf Z ST "value" "[B" → RoadKit.slotOf Z O n d ≠ RoadKit.slotOf Z ST "coder" "B" → RoadKit.Fld Z h' x O n d w
/-- **new String(chars) AT A CALL, THE ARRAYS AS LISTS**: the char[] at b holds cs, not empty, no char above 255 -/
theorem backArv {p : Program} {l : Launch} {e : Env} {R : Room} {s : State} {args : Array Value} {below : List Frame} {len W : Nat} {Z : State} {a0 : Array Value} {h : Heap} (hZ : Z.Warmed39 s.vm) (hw : ∀ d ∈ words, d.before a0 Z = true) {kI : Nat} (wi : (Jvm.Cond.instantiable ST kI).before a0 Z = true)
    {x b : Addr} {k : ClassId} {zn z : Int32} {cs : List Int32} {dv v0 c0 : Value} (E : RoadKit.Exa Z h x ST) (V : RoadKit.Fld Z h x ST "value" "[B" v0) (C : RoadKit.Fld Z h x ST "coder" "B" c0) (K : RoadKit.Arv Z h b k .char zn (cs.map Value.int) dv) (S : RoadKit.Sta Z h ST "COMPACT_STRINGS" "Z" (.int z)) (hz : ¬ z = 0)
    (hlen : zn.toNatClampNeg = cs.length) (h0 : 0 < cs.length) (hbig : cs.length ≤ 536870912) (hall : ∀ c ∈ cs, ¬ 255 < c) (hfr : 4 ≤ R.frames) (hlo : W + 65 ≤ R.locals) :
    Back l R p e below s args New1.yN len W (fun P a => a = #[.ref x, .ref b] ∧ P.U.heap = h ∧ P.cells + 1 ≤ R.cells ∧ P.slots + cs.length ≤ R.slots)
      (fun P _ v B => ∃ L, QA Z x zn cs h v B.U.heap L ∧ B.locs = P.locs ++ L ∧ B.cells = P.cells + 1 ∧ B.slots = P.slots + cs.length) := by
  obtain ⟨A, K1, K2, K3, K4, K5, K6⟩ := K
  have e : A.slots.size = cs.length := K3.trans hlen
  have hat : ∀ (i : Nat) (hi : i < cs.length), A.slots[i]? = some (.int cs[i]) := fun i hi => by rw [K5 i (by omega)]; simp [List.getD_eq_getElem?_getD, hi]
  have hcv : ∀ (i : Nat) (hi : i < cs.length), cv A i = cs[i] := fun i hi => by unfold cv; rw [hat i hi]
  have hty : Typed .char A := fun i v hv => by
    have hi : i < A.slots.size := (Array.getElem?_eq_some_iff.mp hv).1
    have q := K5 i hi
    rw [hv] at q
    rw [Option.some.inj q]
    exact K6 i hi
  refine Back.mono (back hZ hw wi E V C K1 hty S hz (by omega) (by omega) (fun i hi => by rw [hcv i (by omega)]; exact hall _ (List.getElem_mem _)) hfr hlo) (fun P a hp => ⟨hp.1, hp.2.1, hp.2.2.1, by rw [e]; exact hp.2.2.2⟩) (fun P a v B hp hq => ?_)
  obtain ⟨L, ⟨q1, q2, q3, q4, q5, q6, q7, ⟨V', v1, v2, v3, v4, v5⟩, q9⟩, hl, hc, hs⟩ := hq
  refine ⟨L, ⟨q1, q2, q3, q4, q5, q6, q7, ⟨V'.cls, v3, V', v1, rfl, by rw [v4, e, hlen], K4, fun i hi => ?_, fun i hi => ?_⟩, q9⟩, hl, hc, by rw [hs, e]⟩
  · have hi' : i < cs.length := by omega
    rw [v5 i (by omega), hcv i hi']; simp [List.getD_eq_getElem?_getD, hi']
  · have hi' : i < cs.length := by omega
    simp only [List.getD_eq_getElem?_getD, List.getElem?_map, List.getElem?_eq_getElem hi', Option.map_some, Option.getD_some]
    exact fits_lo8 _
end StrChars.Road
namespace StrChars.Road
open Jvm Sem ClassFile Op Lib Jvm.Stand Jvm.Free Jvm.Free.XT
/-- WHAT COMES BACK, in the writer's own shape -/
def QV (Z : State) (x : Addr) (N : Int32) (bs : List Int32) (h : Heap) (n0 : Nat) (v : Option Value) (h' : Heap) (L : List Loc) : Prop := v = none ∧ RoadKit.Fr n0 L ∧ RoadKit.Keep h h' [x] ∧ RoadKit.Exa Z h' x ST ∧ RoadKit.Fld Z h' x ST "coder" "B" (.int 0) ∧
  ∃ (t : Addr) (kb : ClassId), n0 ≤ t ∧ h.size ≤ t ∧ ¬ t = x ∧ RoadKit.Fld Z h' x ST "value" "[B" (.ref t) ∧ RoadKit.Arv Z h' t kb .byte N (bs.map Value.int) (.int 0)
/-- **new String(chars) AT A CALL, FOR THE WRITER**: a char[] of n known ints, each 0 to 255 -/
theorem backV {p : Program} {l : Launch} {e : Env} {R : Room} {s : State} {args : Array Value} {below : List Frame} {len W : Nat} {Z : State} {a0 : Array Value} {h : Heap} (hZ : Z.Warmed39 s.vm) (hw : ∀ d ∈ words, d.before a0 Z = true) {kI : Nat} (wi : (Jvm.Cond.instantiable ST kI).before a0 Z = true)
    {x b : Addr} {kC : ClassId} {cs bs : List Int32} {d v0 c0 : Value} {z N : Int32} {n n0 : Nat} (hx0 : n0 ≤ x) (hh0 : n0 ≤ h.size) (E : RoadKit.Exa Z h x ST) (V : RoadKit.Fld Z h x ST "value" "[B" v0) (C : RoadKit.Fld Z h x ST "coder" "B" c0) (K : RoadKit.Arv Z h b kC .char N (cs.map Value.int) d) (S : RoadKit.Sta Z h ST "COMPACT_STRINGS" "Z" (.int z)) (hz : ¬ z = 0)
    (hn : cs.length = n) (hN : N = Int32.ofNat n) (l0 : 0 < n) (l2 : n ≤ 4000) (hp : ∀ c ∈ cs, ¬ c < 0 ∧ ¬ (255 : Int32) < c) (hb : bs = cs.map (fun c => c.toInt8.toInt32)) (hfr : 4 ≤ R.frames) (hlo : W + 65 ≤ R.locals) :
    Back l R p e below s args (⟨"java/lang/String", "<init>", "([C)V"⟩ : MethodName) len W (fun P a => a = #[.ref x, .ref b] ∧ P.U.heap = h ∧ P.cells + 1 ≤ R.cells ∧ P.slots + n ≤ R.slots)
      (fun P _ v B => ∃ L, QV Z x N bs h n0 v B.U.heap L ∧ B.locs = P.locs ++ L ∧ B.cells = P.cells + 1 ∧ B.slots = P.slots + n) := by
  subst hn hN hb
  refine Back.mono (backArv hZ hw wi E V C K S hz (n32 (by omega)) l0 (by omega) (fun c hc => (hp c hc).2) hfr hlo) (fun P a hp => hp) (fun P a v B hp hq => ?_)
  obtain ⟨L, ⟨q1, q2, q3, q4, q5, q6, q7, ⟨kb, v1, v2⟩, q9⟩, hl, hc, hs⟩ := hq
  exact ⟨L, ⟨q1, fun y hy => by rw [q2 y hy]; exact hx0, q3, q5, q7, h.size, kb, hh0, Nat.le_refl _, Nat.ne_of_gt E.lt, q6, by rw [List.map_map]; exact v2⟩, hl, hc, hs⟩
end StrChars.Road
namespace StrChars
open Jvm Sem ClassFile Op Lib Jvm.Stand Jvm.Free.XT Jvm.Free.ALB Jvm.Free.JM Jvm.Free
open Jvm.Lib.Cold (StaticIs)
def hi8 (x : Int32) : Int32 := lo8 (x >>> ((8 : Int32) &&& 31))
/-- what StringUTF16.getChar makes of two bytes -/
def pairCh (u v : Int32) : Int32 := (((u &&& 255) <<< ((0 : Int32) &&& 31)) ||| ((v &&& 255) <<< ((8 : Int32) &&& 31))).toUInt32.toUInt16.toUInt32.toInt32
theorem lo8_and (x : Int32) : (lo8 x &&& 255).toBitVec.toNat = x.toBitVec.toNat % 256 := by
  have h : (lo8 x).toBitVec = (x.toBitVec.signExtend 8).signExtend 32 := by rw [lo8, Int8.toBitVec_toInt32, Int32.toBitVec_toInt8]
  rw [Int32.toBitVec_and, BitVec.toNat_and, h]
  have e : ((x.toBitVec.signExtend 8).signExtend 32).toNat % 256 = x.toBitVec.toNat % 256 := by
    rw [BitVec.toNat_signExtend]
    have hlt := x.toBitVec.isLt
    simp only [BitVec.toNat_setWidth, BitVec.toNat_signExtend]
    split <;> split <;> omega
  rw [← e]
  exact Nat.and_two_pow_sub_one_eq_mod _ 8
theorem pair_says {c : Int32} (h0 : ¬ c < 0) (h1 : ¬ 65535 < c) : pairCh (lo8 c) (hi8 c) = c := by
  rw [Int32.lt_iff_toInt_lt] at h0 h1
  have e0 : (0 : Int32).toInt = 0 := rfl
  have e1 : (65535 : Int32).toInt = 65535 := rfl
  have hc : c.toInt = c.toBitVec.toNat := by
    have := c.toBitVec.isLt
    have e : c.toInt = c.toBitVec.toInt := rfl
    rw [e] at h0 h1
    rw [e]
    rw [BitVec.toInt_eq_toNat_cond] at h0 h1 ⊢
    split at h0 <;> split <;> omega
  have hn : c.toBitVec.toNat < 65536 := by omega
  have a1 := lo8_and c
  have a2 : (hi8 c &&& 255).toBitVec.toNat = c.toBitVec.toNat / 256 := by
    rw [hi8, lo8_and]
    have e : ((8 : Int32) &&& 31) = 8 := by decide
    rw [e, Int32.toBitVec_shiftRight]
    have e2 : ((8 : Int32).toBitVec.smod 32) = 8#32 := by decide
    rw [e2, BitVec.sshiftRight_eq', BitVec.toNat_sshiftRight_of_msb_false (by rw [BitVec.msb_eq_false_iff_two_mul_lt]; omega)]
    show c.toBitVec.toNat >>> 8 % 256 = _
    rw [Nat.shiftRight_eq_div_pow]
    omega
  unfold pairCh
  apply Int32.toBitVec_inj.mp
  apply BitVec.eq_of_toNat_eq
  have f0 : ((0 : Int32) &&& 31) = 0 := by decide
  have f8 : ((8 : Int32) &&& 31) = 8 := by decide
  rw [f0, f8]
  have g : (((lo8 c &&& 255) <<< (0 : Int32)) ||| ((hi8 c &&& 255) <<< (8 : Int32))).toBitVec.toNat = c.toBitVec.toNat := by
    rw [Int32.toBitVec_or, Int32.toBitVec_shiftLeft, Int32.toBitVec_shiftLeft]
    have s0 : ((0 : Int32).toBitVec.smod 32) = 0#32 := by decide
    have s8 : ((8 : Int32).toBitVec.smod 32) = 8#32 := by decide
    rw [s0, s8, BitVec.toNat_or]
    simp only [BitVec.shiftLeft_eq', BitVec.toNat_shiftLeft, a1, a2]
    show (c.toBitVec.toNat % 256) <<< 0 % 2 ^ 32 ||| (c.toBitVec.toNat / 256) <<< 8 % 2 ^ 32 = _
    rw [Nat.shiftLeft_zero, Nat.mod_eq_of_lt (show c.toBitVec.toNat % 256 < 2 ^ 32 by omega), Nat.mod_eq_of_lt (show (c.toBitVec.toNat / 256) <<< 8 < 2 ^ 32 by rw [Nat.shiftLeft_eq]; omega), Nat.or_comm, ← Nat.shiftLeft_add_eq_or_of_lt (by omega), Nat.shiftLeft_eq]
    omega
  show BitVec.toNat (((((lo8 c &&& 255) <<< (0 : Int32)) ||| ((hi8 c &&& 255) <<< (8 : Int32))).toBitVec.setWidth 16).setWidth 32) = _
  rw [BitVec.toNat_setWidth, BitVec.toNat_setWidth, g]
  omega
end StrChars
namespace StrChars
open Jvm Sem ClassFile Op Lib Jvm.Stand Jvm.Free.XT Jvm.Free.ALB Jvm.Free.JM Jvm.Free
open Jvm.Lib.Cold (StaticIs)
/-- the array's cell V codes the n chars f 0 .. f (n - 1) by the coder cd, as the JDK does: coder 1 just where some char is above 255 -/
def Cod (cd : Int32) (n : Nat) (f : Nat → Int32) (V : Cell) : Prop := (cd = 0 ∧ V.slots.size = n ∧ ∀ j, j < n → V.slots[j]? = some (.int (lo8 (f j))) ∧ ¬ 255 < f j) ∨ (cd = 1 ∧ V.slots.size = 2 * n ∧ (∀ j, j < n → V.slots[2 * j]? = some (.int (lo8 (f j))) ∧ V.slots[2 * j + 1]? = some (.int (hi8 (f j)))) ∧ ∃ j, j < n ∧ 255 < f j)
/-- **x is a String of the n chars f 0 .. f (n - 1)**, Latin-1 or UTF-16; its array at t has the cell V -/
def Txt (x t : Addr) (V : Cell) (cd : Int32) (n : Nat) (f : Nat → Int32) (U : State) : Prop := Exact "java/lang/String" x U ∧ Has x "java/lang/String" "value" "[B" (.ref t) U ∧ Has x "java/lang/String" "coder" "B" (.int cd) U ∧ XT.Arr .byte t V U ∧ Cod cd n f V ∧ ∀ j, j < n → ¬ f j < 0 ∧ ¬ 65535 < f j
theorem Txt.mv {x t : Addr} {V : Cell} {cd : Int32} {n : Nat} {f : Nat → Int32} {U U' : State} (h : Txt x t V cd n f U) (hal : U.vm.Alike U'.vm) (hh : U'.heap = U.heap) : Txt x t V cd n f U' := ⟨h.1.mv hal hh, h.2.1.mv hal hh, h.2.2.1.mv hal hh, h.2.2.2.1.mv hal hh, h.2.2.2.2⟩
end StrChars
namespace StrChars.Road
open Jvm Sem ClassFile Op Lib Jvm.Stand Jvm.Free Jvm.Free.XT
open Jvm.Lib.Cold (StaticIs)
theorem consq {a : Array Value} {s : State} {c : Jvm.Cond} {L : List Jvm.Cond} (h0 : c.before a s = true) (h : ∀ w ∈ L, w.before a s = true) : ∀ w ∈ c :: L, w.before a s = true := fun w hw => (List.mem_cons.mp hw).elim (fun e => e ▸ h0) (h w)
/-- the bytes of the chars cs, low before high -/
def wideBytes : List Int32 → List Value
  | [] => []
  | c :: cs => .int (lo8 c) :: .int (hi8 c) :: wideBytes cs
theorem wide_lo (d : Value) : ∀ (cs : List Int32) (j : Nat), j < cs.length → (wideBytes cs).getD (2 * j) d = .int (lo8 (cs.getD j 0))
  | [], j, h => absurd h (Nat.not_lt_zero j)
  | c :: cs, 0, _ => rfl
  | c :: cs, j + 1, h => by
    have q := wide_lo d cs j (by simpa using h)
    rw [show 2 * (j + 1) = 2 * j + 1 + 1 from by omega]
    simpa [wideBytes] using q
theorem wide_hi (d : Value) : ∀ (cs : List Int32) (j : Nat), j < cs.length → (wideBytes cs).getD (2 * j + 1) d = .int (hi8 (cs.getD j 0))
  | [], j, h => absurd h (Nat.not_lt_zero j)
  | c :: cs, 0, _ => rfl
  | c :: cs, j + 1, h => by
    have q := wide_hi d cs j (by simpa using h)
    rw [show 2 * (j + 1) + 1 = 2 * j + 1 + 1 + 1 from by omega]
    simpa [wideBytes] using q
theorem low_at (d : Value) (cs : List Int32) (j : Nat) (h : j < cs.length) : (cs.map fun c => Value.int (lo8 c)).getD j d = .int (lo8 (cs.getD j 0)) := by
  simp [List.getD_eq_getElem?_getD, h]
/-- an array of N2 bytes vs codes the chars cs by the coder cd -/
def CodA (cs : List Int32) (cd N2 : Int32) (vs : List Value) : Prop := (cd = 0 ∧ N2 = Int32.ofNat cs.length ∧ vs = (cs.map fun c => Value.int (lo8 c)) ∧ ∀ c ∈ cs, ¬ 255 < c) ∨ (cd = 1 ∧ N2 = Int32.ofNat (2 * cs.length) ∧ vs = wideBytes cs ∧ ∃ c ∈ cs, 255 < c)
theorem CodA.cod {cs : List Int32} {cd N2 : Int32} {vs : List Value} {V : Cell} (h : CodA cs cd N2 vs) (hn : 2 * cs.length < 2 ^ 31) (hs : V.slots.size = N2.toNatClampNeg) (hv : RoadKit.Has V vs (.int 0)) : Cod cd cs.length (fun j => cs.getD j 0) V := by
  rcases h with ⟨rfl, rfl, rfl, h⟩ | ⟨rfl, rfl, rfl, c, hc, hw⟩
  · rw [n32 (by omega)] at hs
    exact Or.inl ⟨rfl, hs, fun j hj => ⟨by rw [hv j (by omega), low_at _ _ _ hj], by
      have e : cs.getD j 0 = cs[j] := by simp [List.getD_eq_getElem?_getD, hj]
      show ¬ 255 < cs.getD j 0
      rw [e]; exact h _ (List.getElem_mem _)⟩⟩
  · rw [n32 (by omega)] at hs
    obtain ⟨j, hj, rfl⟩ := List.getElem_of_mem hc
    exact Or.inr ⟨rfl, hs, fun j hj => ⟨by rw [hv _ (by omega), wide_lo _ _ _ hj], by rw [hv _ (by omega), wide_hi _ _ _ hj]⟩, j, hj, by
      have e : cs.getD j 0 = cs[j] := by simp [List.getD_eq_getElem?_getD, hj]
      show 255 < cs.getD j 0
      rw [e]; exact hw⟩
/-- an object of exactly java/lang/String, its two fields found: as the laws ask it -/
theorem strObj {Z U : State} {a0 : Array Value} {kI : Nat} (wi : (Jvm.Cond.instantiable ST kI).before a0 Z = true) (al : Z.vm.Alike U.vm) {x : Addr} {v0 c0 : Value} (E : RoadKit.Exa Z U.heap x ST) (V : RoadKit.Fld Z U.heap x ST "value" "[B" v0) (C : RoadKit.Fld Z U.heap x ST "coder" "B" c0) :
    ∃ (D : Cell) (fV fC : Field), Blank ST x D U ∧ Found ST "value" "[B" fV U ∧ Found ST "coder" "B" fC U ∧ D.slots[fV.slot]? = some v0 ∧ D.slots[fC.slot]? = some c0 ∧ RoadKit.slotOf Z ST "value" "[B" = fV.slot ∧ RoadKit.slotOf Z ST "coder" "B" = fC.slot := by
  obtain ⟨D, cfV, kV, iV, fV, hD, gV, stV, knV, obV, asV, slV⟩ := V
  obtain ⟨D', cfC, kC, iC, fC, hD', gC, stC, -, -, asC, slC⟩ := C
  cases hD.symm.trans hD'
  obtain ⟨D2, kD, e1, e2, e3, e4, e5⟩ := E
  cases hD.symm.trans e1
  obtain ⟨c2, k2, i1, i2, i3, -⟩ := Cond.instantiable_spec wi
  cases e2.symm.trans i1
  cases e3.symm.trans i2
  obtain ⟨kU, u1, u2⟩ := al.2.2 _ _ e3
  exact ⟨D, fV, fC, ⟨hD, ⟨knV, fun q hq => by rw [hq] at obV; cases obV⟩, by rw [al.findClass]; exact e2, kU, u1, by rw [u2]; exact i3, by rw [u2]; exact e5 i3⟩, ⟨SBG.found_only al ⟨cfV, kV, iV, gV⟩, stV⟩, ⟨SBG.found_only al ⟨cfC, kC, iC, gC⟩, stC⟩, slV, slC, by simp [RoadKit.slotOf, gV], by simp [RoadKit.slotOf, gC]⟩
theorem sta_is {Z U : State} (al : Z.vm.Alike U.vm) {C n d : String} {v : Value} (S : RoadKit.Sta Z U.heap C n d v) : StaticIs U C n d v := by
  obtain ⟨cfS, iS, kS, fS, st, cS, t1, t2, t3, t4, t5, t6, t7⟩ := S
  exact StaticIs.there (s := { Z with heap := U.heap }) ⟨cfS, iS, kS, fS, st, cS, t1, t2, t3, t4, t5, (fun q => by rw [q] at t6; cases t6), t7⟩ al rfl
end StrChars.Road
namespace StrChars
open Jvm Sem ClassFile Op Lib Jvm.Stand Jvm.Free.XT Jvm.Free.ALB Jvm.Free.JM Jvm.Free
open Jvm.Lib.Cold (StaticIs)
/-- what place i of a byte[]'s cell holds -/
def yv (A : Cell) (i : Nat) : Int32 := match A.slots[i]? with | some (.int x) => x | _ => 0
theorem yv_get {a : Addr} {A : Cell} {U : State} (h : XT.Arr .byte a A U) (ht : Typed .byte A) {i : Nat} (hi : i < A.slots.size) : A.slots[i]? = some (.int (yv A i)) := by
  have e := Array.getElem?_eq_getElem hi
  have f := ht i _ e
  unfold yv; rw [e]
  generalize A.slots[i] = v at f
  cases v <;> simp [fits] at f ⊢
/-- the two arrays are equal, place for place -/
def EqC (A B : Cell) : Prop := A.slots.size = B.slots.size ∧ ∀ i, i < A.slots.size → yv A i = yv B i
/-- a boolean that says whether p -/
def Says01 (q : Prop) (r : Option Value) (s u : State) : Prop := ∃ v : Int32, r = some (.int v) ∧ u.heap = s.heap ∧ ((v = 1 ∧ q) ∨ (v = 0 ∧ ¬ q))
theorem Says01.mv {q : Prop} : ∀ r (U U' V V' : State), U'.heap = U.heap → V.vm.Alike V'.vm → V'.heap = V.heap → Says01 q r U V → Says01 q r U' V' :=
  fun r U U' V V' h1 _ h2 ⟨v, a, b, c⟩ => ⟨v, a, by rw [h1, h2]; exact b, c⟩
namespace LEq
def yN : MethodName := ⟨"java/lang/StringLatin1", "equals", "([B[B)Z"⟩
abbrev yB : ByteArray := jdk_43_method_13_code
theorem d0 : decode yB 0 = .ok (.aload_n 0, 1) := by decide +kernel
theorem d1 : decode yB 1 = .ok (.arraylength, 1) := by decide +kernel
theorem d2 : decode yB 2 = .ok (.aload_n 1, 1) := by decide +kernel
theorem d3 : decode yB 3 = .ok (.arraylength, 1) := by decide +kernel
theorem d4 : decode yB 4 = .ok (.if_icmp (.ne) 30, 3) := by decide +kernel
theorem d7 : decode yB 7 = .ok (.iconst 0, 1) := by decide +kernel
theorem d8 : decode yB 8 = .ok (.istore_n 2, 1) := by decide +kernel
theorem d9 : decode yB 9 = .ok (.iload_n 2, 1) := by decide +kernel
theorem d10 : decode yB 10 = .ok (.aload_n 0, 1) := by decide +kernel
theorem d11 : decode yB 11 = .ok (.arraylength, 1) := by decide +kernel
theorem d12 : decode yB 12 = .ok (.if_icmp (.ge) 20, 3) := by decide +kernel
theorem d15 : decode yB 15 = .ok (.aload_n 0, 1) := by decide +kernel
theorem d16 : decode yB 16 = .ok (.iload_n 2, 1) := by decide +kernel
theorem d17 : decode yB 17 = .ok (.baload, 1) := by decide +kernel
theorem d18 : decode yB 18 = .ok (.aload_n 1, 1) := by decide +kernel
theorem d19 : decode yB 19 = .ok (.iload_n 2, 1) := by decide +kernel
theorem d20 : decode yB 20 = .ok (.baload, 1) := by decide +kernel
theorem d21 : decode yB 21 = .ok (.if_icmp (.eq) 5, 3) := by decide +kernel
theorem d24 : decode yB 24 = .ok (.iconst 0, 1) := by decide +kernel
theorem d25 : decode yB 25 = .ok (.ireturn, 1) := by decide +kernel
theorem d26 : decode yB 26 = .ok (.iinc 2 1, 3) := by decide +kernel
theorem d29 : decode yB 29 = .ok (.goto (-20), 3) := by decide +kernel
theorem d32 : decode yB 32 = .ok (.iconst 1, 1) := by decide +kernel
theorem d33 : decode yB 33 = .ok (.ireturn, 1) := by decide +kernel
theorem d34 : decode yB 34 = .ok (.iconst 0, 1) := by decide +kernel
theorem d35 : decode yB 35 = .ok (.ireturn, 1) := by decide +kernel
def site : List Cond := []
def tab : Cond := tabOf yN yB 3 (some .boolean) site
def P (a : Addr) (A : Cell) (b : Addr) (B : Cell) (args : Array Value) (s : State) : Prop := args = #[.ref a, .ref b] ∧ XT.Arr .byte a A s ∧ Typed .byte A ∧ XT.Arr .byte b B s ∧ Typed .byte B
/-- whether two byte[] are equal, place for place -/
theorem law (l : Launch) (a : Addr) (A : Cell) (b : Addr) (B : Cell) : Law l yN 2 2 0 0 yB 3 (some .boolean) site (P a A b B) (Says01 (EqC A B)) [] 0 0 := by
  refine Law.of_walk (plainFor_of_name (by decide +kernel)) (by decide +kernel) (by decide +kernel) (by decide) (fun _ _ h => by rw [h.1]; rfl) (fun _ U U' hal hh h => ⟨h.1, h.2.1.mv hal hh, h.2.2.1, h.2.2.2.1.mv hal hh, h.2.2.2.2⟩) (fun r U U' V V' h1 hal h2 h => Says01.mv r U U' V V' h1 hal h2 h) ?_
  intro p e s m args below meth c s₁ X0 hexec hbytes hml hret hlk hnm hown hh0 W hP
  obtain ⟨rfl, hA, tA, hB, tB⟩ := hP
  have a31 := hA.2.2.2
  have b31 := hB.2.2.2
  have hA0 := hA.mv X0.warmed.alike hh0
  have hB0 := hB.mv X0.warmed.alike hh0
  have c1 : Steps p.tables e below (s₁.setTop (entryFrame m #[.ref a, .ref b] 3)) (s₁.setTop (mkF m 0 #[.val (.ref a), .val (.ref b), .unset] [])) := entry rfl
  have c2 : Steps p.tables e below (s₁.setTop (entryFrame m #[.ref a, .ref b] 3)) (s₁.setTop (mkF m 4 #[.val (.ref a), .val (.ref b), .unset] [.int (Int32.ofNat B.slots.size), .int (Int32.ofNat A.slots.size)])) := c1.trans (by
    refine XS.aloadN X0.here hexec rfl (hb hbytes d0) rfl rfl ?_
    refine X0.alen hexec hA0 rfl rfl (hb hbytes d1) ?_
    refine XS.aloadN X0.here hexec rfl (hb hbytes d2) rfl rfl ?_
    refine X0.alen hexec hB0 rfl rfl (hb hbytes d3) ?_
    exact Steps.refl _)
  by_cases hs : A.slots.size = B.slots.size
  · have c3 : Steps p.tables e below (s₁.setTop (entryFrame m #[.ref a, .ref b] 3)) (s₁.setTop (mkF m 9 #[.val (.ref a), .val (.ref b), .val (.int 0)] [])) := c2.trans (by
      refine XS.icmpNo X0.here hexec rfl (hb hbytes d4) rfl (ii_ne_f (by rw [hs])) ?_
      refine iconstV X0.here hexec rfl 0 (hb hbytes d7) (by decide) ?_
      refine XS.istoreN X0.here hexec rfl (hb hbytes d8) rfl rfl ?_
      exact Steps.refl _)
    have loop : ∀ (r i : Nat), i + r = A.slots.size → (∀ j, j < i → yv A j = yv B j) → Steps p.tables e below (s₁.setTop (entryFrame m #[.ref a, .ref b] 3)) (s₁.setTop (mkF m 9 #[.val (.ref a), .val (.ref b), .val (.int (Int32.ofNat i))] [])) → ∃ (pc : Nat) (Ls : Array Slot) (v : Int32), (pc = 25 ∨ pc = 33) ∧ ((v = 1 ∧ EqC A B) ∨ (v = 0 ∧ ¬ EqC A B)) ∧ Steps p.tables e below (s₁.setTop (entryFrame m #[.ref a, .ref b] 3)) (s₁.setTop (mkF m pc Ls [.int v])) := by
      intro r
      induction r with
      | zero =>
        intro i hi he cl
        exact ⟨33, _, 1, Or.inr rfl, Or.inl ⟨rfl, hs, fun j hj => he j (by omega)⟩, cl.trans (by
          refine XS.iloadN X0.here hexec rfl (hb hbytes d9) rfl ?_
          refine XS.aloadN X0.here hexec rfl (hb hbytes d10) rfl rfl ?_
          refine X0.alen hexec hA0 rfl rfl (hb hbytes d11) ?_
          refine XS.icmpYes X0.here hexec rfl (pc0 := 12) rfl (hb hbytes d12) rfl (ii_ge_t (nlt32 (by omega) (by omega))) (by decide) rfl ?_
          refine iconstV X0.here hexec rfl 1 (hb hbytes d32) (by decide) ?_
          exact Steps.refl _)⟩
      | succ r ih =>
        intro i hi he cl
        have c4 : Steps p.tables e below (s₁.setTop (entryFrame m #[.ref a, .ref b] 3)) (s₁.setTop (mkF m 21 #[.val (.ref a), .val (.ref b), .val (.int (Int32.ofNat i))] [.int (yv B i), .int (yv A i)])) := cl.trans (by
          refine XS.iloadN X0.here hexec rfl (hb hbytes d9) rfl ?_
          refine XS.aloadN X0.here hexec rfl (hb hbytes d10) rfl rfl ?_
          refine X0.alen hexec hA0 rfl rfl (hb hbytes d11) ?_
          refine XS.icmpNo X0.here hexec rfl (hb hbytes d12) rfl (ii_ge_f (lt32 (by omega) (by omega))) ?_
          refine XS.aloadN X0.here hexec rfl (hb hbytes d15) rfl rfl ?_
          refine XS.iloadN X0.here hexec rfl (hb hbytes d16) rfl ?_
          refine X0.aget hexec hA0 rfl (yv_get hA tA (i := i) (by omega)) rfl rfl (hb hbytes d17) ?_
          refine XS.aloadN X0.here hexec rfl (hb hbytes d18) rfl rfl ?_
          refine XS.iloadN X0.here hexec rfl (hb hbytes d19) rfl ?_
          refine X0.aget hexec hB0 rfl (yv_get hB tB (i := i) (by omega)) rfl rfl (hb hbytes d20) ?_
          exact Steps.refl _)
        by_cases hv : yv A i = yv B i
        · have c5 : Steps p.tables e below (s₁.setTop (entryFrame m #[.ref a, .ref b] 3)) (s₁.setTop (mkF m 9 #[.val (.ref a), .val (.ref b), .val (.int (Int32.ofNat i + 1))] [])) := c4.trans (by
            refine XS.icmpYes X0.here hexec rfl (pc0 := 21) rfl (hb hbytes d21) rfl (ii_eq_t hv) (by decide) rfl ?_
            refine iincV X0.here hexec rfl 1 (hb hbytes d26) (by decide) rfl rfl ?_
            refine XS.goto X0.here hexec rfl (pc0 := 29) rfl (hb hbytes d29) (by decide) rfl ?_
            exact Steps.refl _)
          rw [succ32] at c5
          exact ih (i + 1) (by omega) (fun j hj => by
            by_cases e : j = i
            · rw [e]; exact hv
            · exact he j (by omega)) c5
        · exact ⟨25, _, 0, Or.inl rfl, Or.inr ⟨rfl, fun q => hv (q.2 i (by omega))⟩, c4.trans (by
            refine XS.icmpNo X0.here hexec rfl (hb hbytes d21) rfl (ii_eq_f hv) ?_
            refine iconstV X0.here hexec rfl 0 (hb hbytes d24) (by decide) ?_
            exact Steps.refl _)⟩
    obtain ⟨pc, Ls, v, hpc, hv, cz⟩ := loop A.slots.size 0 (by omega) (fun j hj => absurd hj (Nat.not_lt_zero j)) c3
    have nv : narrow .boolean (.int v) = .int v := by rcases hv with ⟨rfl, -⟩ | ⟨rfl, -⟩ <;> rfl
    rcases hpc with rfl | rfl
    · exact ⟨s₁, some (.int v), _, _, _, X0, rfl, rfl, rfl, (fun h => by cases h), ⟨v, rfl, hh0, hv⟩, fun fs hl => cz.trans (X0.ireturnOut hexec hret nv (Or.inr (Or.inl rfl)) (hb hbytes d25) hl)⟩
    · exact ⟨s₁, some (.int v), _, _, _, X0, rfl, rfl, rfl, (fun h => by cases h), ⟨v, rfl, hh0, hv⟩, fun fs hl => cz.trans (X0.ireturnOut hexec hret nv (Or.inr (Or.inl rfl)) (hb hbytes d33) hl)⟩
  · have c3 : Steps p.tables e below (s₁.setTop (entryFrame m #[.ref a, .ref b] 3)) (s₁.setTop (mkF m 35 #[.val (.ref a), .val (.ref b), .unset] [.int 0])) := c2.trans (by
      refine XS.icmpYes X0.here hexec rfl (pc0 := 4) rfl (hb hbytes d4) rfl (ii_ne_t (ne32 a31 b31 hs)) (by decide) rfl ?_
      refine iconstV X0.here hexec rfl 0 (hb hbytes d34) (by decide) ?_
      exact Steps.refl _)
    exact ⟨s₁, some (.int 0), _, _, _, X0, rfl, rfl, rfl, (fun h => by cases h), ⟨0, rfl, hh0, Or.inr ⟨rfl, fun q => hs q.1⟩⟩, fun fs hl => c3.trans (X0.ireturnOut hexec hret rfl (Or.inr (Or.inl rfl)) (hb hbytes d35) hl)⟩
end LEq
theorem Cod.ty {cd : Int32} {n : Nat} {f : Nat → Int32} {V : Cell} (h : Cod cd n f V) : Typed .byte V := fun i v hv => by
  have hi : i < V.slots.size := (Array.getElem?_eq_some_iff.mp hv).1
  rcases h with ⟨-, k1, k2⟩ | ⟨-, k1, k2, -⟩
  · rw [(k2 i (by omega)).1] at hv; cases hv; exact fits_lo8 _
  · rcases Nat.mod_two_eq_zero_or_one i with e | e
    · obtain ⟨j, rfl⟩ : ∃ j, i = 2 * j := ⟨i / 2, by omega⟩
      rw [(k2 j (by omega)).1] at hv; cases hv; exact fits_lo8 _
    · obtain ⟨j, rfl⟩ : ∃ j, i = 2 * j + 1 := ⟨i / 2, by omega⟩
      rw [(k2 j (by omega)).2] at hv; cases hv; exact fits_lo8 _
/-- the same text -/
def SameT (n : Nat) (f : Nat → Int32) (k : Nat) (g : Nat → Int32) : Prop := n = k ∧ ∀ j, j < n → f j = g j
theorem lo8_inj {x y : Int32} (h0 : ¬ x < 0) (h1 : ¬ 255 < x) (k0 : ¬ y < 0) (k1 : ¬ 255 < y) (h : lo8 x = lo8 y) : x = y := by
  rw [← lo8_mask h0 h1, ← lo8_mask k0 k1, h]
/-- arrays coded by one coder are equal just where the texts are -/
theorem Cod.eqv {cd : Int32} {n k : Nat} {f g : Nat → Int32} {V V' : Cell} (h : Cod cd n f V) (h' : Cod cd k g V') (hf : ∀ j, j < n → ¬ f j < 0 ∧ ¬ 65535 < f j) (hg : ∀ j, j < k → ¬ g j < 0 ∧ ¬ 65535 < g j) : EqC V V' ↔ SameT n f k g := by
  have yvv : ∀ {W : Cell} {i : Nat} {x : Int32}, W.slots[i]? = some (.int x) → yv W i = x := fun q => by unfold yv; rw [q]
  rcases h with ⟨rfl, k1, k2⟩ | ⟨rfl, k1, k2, -⟩
  · rcases h' with ⟨-, m1, m2⟩ | ⟨e, -⟩
    · constructor
      · rintro ⟨e1, e2⟩
        refine ⟨by omega, fun j hj => ?_⟩
        have q := e2 j (by omega)
        rw [yvv (k2 j hj).1, yvv (m2 j (by omega)).1] at q
        exact lo8_inj (hf j hj).1 (k2 j hj).2 (hg j (by omega)).1 (m2 j (by omega)).2 q
      · rintro ⟨rfl, e2⟩
        refine ⟨by omega, fun j hj => ?_⟩
        rw [yvv (k2 j (by omega)).1, yvv (m2 j (by omega)).1, e2 j (by omega)]
    · exact absurd e (by decide)
  · rcases h' with ⟨e, -⟩ | ⟨-, m1, m2, -⟩
    · exact absurd e (by decide)
    · constructor
      · rintro ⟨e1, e2⟩
        refine ⟨by omega, fun j hj => ?_⟩
        have q1 := e2 (2 * j) (by omega)
        have q2 := e2 (2 * j + 1) (by omega)
        rw [yvv (k2 j hj).1, yvv (m2 j (by omega)).1] at q1
        rw [yvv (k2 j hj).2, yvv (m2 j (by omega)).2] at q2
        rw [← pair_says (hf j hj).1 (hf j hj).2, ← pair_says (hg j (by omega)).1 (hg j (by omega)).2, q1, q2]
      · rintro ⟨rfl, e2⟩
        refine ⟨by omega, fun i hi => ?_⟩
        rcases Nat.mod_two_eq_zero_or_one i with e | e
        · obtain ⟨j, rfl⟩ : ∃ j, i = 2 * j := ⟨i / 2, by omega⟩
          rw [yvv (k2 j (by omega)).1, yvv (m2 j (by omega)).1, e2 j (by omega)]
        · obtain ⟨j, rfl⟩ : ∃ j, i = 2 * j + 1 := ⟨i / 2, by omega⟩
          rw [yvv (k2 j (by omega)).2, yvv (m2 j (by omega)).2, e2 j (by omega)]
/-- two codings differ: so do the texts -/
theorem Cod.dif {cd cd' : Int32} {n k : Nat} {f g : Nat → Int32} {V V' : Cell} (h : Cod cd n f V) (h' : Cod cd' k g V') (hne : ¬ cd = cd') : ¬ SameT n f k g := by
  rintro ⟨rfl, e⟩
  rcases h with ⟨rfl, -, k2⟩ | ⟨rfl, -, -, j, hj, hw⟩
  · rcases h' with ⟨rfl, -⟩ | ⟨-, -, -, j, hj, hw⟩
    · exact hne rfl
    · exact (k2 j hj).2 (by rw [e j hj]; exact hw)
  · rcases h' with ⟨-, -, m2⟩ | ⟨rfl, -⟩
    · exact (m2 j hj).2 (by rw [← e j hj]; exact hw)
    · exact hne rfl
/-- an object of exactly C is an instance of C -/
theorem cinst {p : Program} {l : Launch} {e : Env} {R : Room} {s : State} {m : MethodId} {args : Array Value} {below : List Frame} {meth : Method} {c : Code} {T : State} {locs : List Loc} {cells slots : Nat} (X : Stand p l e R s m args below meth c T locs cells slots) (hexec : p.tables.exec = Jvm.exec) {own C : String} {index : Nat} (hown : s.vm.findClass own = some m.cls) (hlink : (Cond.classLink own index C).before args s = true) {a : Addr} (hE : Exact C a T)
    {g : JFrame} (hg : g.method = m) {rest : List Value} (hstack : g.stack = .ref a :: rest) (hdg : decode c.code g.pc = .ok (.instanceof index, 3)) :
    ∃ T', Stand p l e R s m args below meth c T' locs cells slots ∧ T'.heap = T.heap ∧ ∀ target, Steps p.tables e below (T'.setTop { g with pc := g.pc + 3, stack := .int 1 :: rest }) target → Steps p.tables e below (T.setTop g) target := by
  obtain ⟨cB, h1, D, h2, h3, h4⟩ := hE
  have h1' : s.vm.findClass C = some cB := by rw [← X.warmed.alike.findClass]; exact h1
  obtain ⟨vm', X', st⟩ := X.instanceofYes hexec hown hlink h2 h4 h1' (by rw [h3]; exact Jvm.Free.SB.assignable_self _ _) hg hstack hdg
  exact ⟨_, X', rfl, st⟩
theorem cself {p : Program} {l : Launch} {e : Env} {R : Room} {s : State} {m : MethodId} {args : Array Value} {below : List Frame} {meth : Method} {c : Code} {T : State} {locs : List Loc} {cells slots : Nat} (X : Stand p l e R s m args below meth c T locs cells slots) (hexec : p.tables.exec = Jvm.exec) {own C : String} {index : Nat} (hown : s.vm.findClass own = some m.cls) (hlink : (Cond.classLink own index C).before args s = true) {a : Addr} (hE : Exact C a T)
    {g : JFrame} (hg : g.method = m) {rest : List Value} (hstack : g.stack = .ref a :: rest) (hdg : decode c.code g.pc = .ok (.checkcast index, 3)) :
    ∃ T', Stand p l e R s m args below meth c T' locs cells slots ∧ T'.heap = T.heap ∧ ∀ target, Steps p.tables e below (T'.setTop { g with pc := g.pc + 3, stack := .ref a :: rest }) target → Steps p.tables e below (T.setTop g) target := by
  obtain ⟨cB, h1, D, h2, h3, h4⟩ := hE
  have h1' : s.vm.findClass C = some cB := by rw [← X.warmed.alike.findClass]; exact h1
  obtain ⟨vm', X', st⟩ := X.checkcastYes hexec hown hlink h2 h4 h1' (by rw [h3]; exact Jvm.Free.SB.assignable_self _ _) hg hstack hdg
  exact ⟨_, X', rfl, fun t h => st t (by rw [← hstack] at h; exact h)⟩
namespace SEq
def yN : MethodName := ⟨"java/lang/String", "equals", "(Ljava/lang/Object;)Z"⟩
abbrev yB : ByteArray := jdk_42_method_66_code
theorem d0 : decode yB 0 = .ok (.aload_n 0, 1) := by decide +kernel
theorem d1 : decode yB 1 = .ok (.aload_n 1, 1) := by decide +kernel
theorem d2 : decode yB 2 = .ok (.if_acmp (.ne) 5, 3) := by decide +kernel
theorem d5 : decode yB 5 = .ok (.iconst 1, 1) := by decide +kernel
theorem d6 : decode yB 6 = .ok (.ireturn, 1) := by decide +kernel
theorem d7 : decode yB 7 = .ok (.aload_n 1, 1) := by decide +kernel
theorem d8 : decode yB 8 = .ok (.instanceof 10, 3) := by decide +kernel
theorem d11 : decode yB 11 = .ok (.ifCond (.eq) 43, 3) := by decide +kernel
theorem d14 : decode yB 14 = .ok (.aload_n 1, 1) := by decide +kernel
theorem d15 : decode yB 15 = .ok (.checkcast 10, 3) := by decide +kernel
theorem d18 : decode yB 18 = .ok (.astore_n 2, 1) := by decide +kernel
theorem d19 : decode yB 19 = .ok (.getstatic 38, 3) := by decide +kernel
theorem d22 : decode yB 22 = .ok (.ifCond (.eq) 14, 3) := by decide +kernel
theorem d25 : decode yB 25 = .ok (.aload_n 0, 1) := by decide +kernel
theorem d26 : decode yB 26 = .ok (.getfield 15, 3) := by decide +kernel
theorem d29 : decode yB 29 = .ok (.aload_n 2, 1) := by decide +kernel
theorem d30 : decode yB 30 = .ok (.getfield 15, 3) := by decide +kernel
theorem d33 : decode yB 33 = .ok (.if_icmp (.ne) 21, 3) := by decide +kernel
theorem d36 : decode yB 36 = .ok (.aload_n 0, 1) := by decide +kernel
theorem d37 : decode yB 37 = .ok (.getfield 9, 3) := by decide +kernel
theorem d40 : decode yB 40 = .ok (.aload_n 2, 1) := by decide +kernel
theorem d41 : decode yB 41 = .ok (.getfield 9, 3) := by decide +kernel
theorem d44 : decode yB 44 = .ok (.invokestatic 541, 3) := by decide +kernel
theorem d47 : decode yB 47 = .ok (.ifCond (.eq) 7, 3) := by decide +kernel
theorem d50 : decode yB 50 = .ok (.iconst 1, 1) := by decide +kernel
theorem d51 : decode yB 51 = .ok (.goto 4, 3) := by decide +kernel
theorem d54 : decode yB 54 = .ok (.iconst 0, 1) := by decide +kernel
theorem d55 : decode yB 55 = .ok (.ireturn, 1) := by decide +kernel
def site : List Cond := [.classLink "java/lang/String" 10 "java/lang/String", .fieldLink "java/lang/String" 38 "java/lang/String" "COMPACT_STRINGS" "Z", .fieldLink "java/lang/String" 15 "java/lang/String" "coder" "B", .fieldLink "java/lang/String" 9 "java/lang/String" "value" "[B", LEq.tab] ++ staticW "java/lang/String" 541 LEq.yN
def tab : Cond := tabOf yN yB 3 (some .boolean) site
def P (x t : Addr) (V : Cell) (cd : Int32) (n : Nat) (f : Nat → Int32) (y t' : Addr) (V' : Cell) (cd' : Int32) (k : Nat) (g : Nat → Int32) (z : Int32) (args : Array Value) (s : State) : Prop := args = #[.ref x, .ref y] ∧ Txt x t V cd n f s ∧ Txt y t' V' cd' k g s ∧ StaticIs s "java/lang/String" "COMPACT_STRINGS" "Z" (.int z) ∧ ¬ z = 0
/-- equals(Object) of two Strings: whether the texts are the same -/
theorem law (l : Launch) (x t : Addr) (V : Cell) (cd : Int32) (n : Nat) (f : Nat → Int32) (y t' : Addr) (V' : Cell) (cd' : Int32) (k : Nat) (g : Nat → Int32) (z : Int32) : Law l yN 2 1 1 14 yB 3 (some .boolean) site (P x t V cd n f y t' V' cd' k g z) (Says01 (SameT n f k g)) [] 0 0 := by
  refine Law.of_walk (plainFor_of_name (by decide +kernel)) (by decide +kernel) (by decide +kernel) (by decide) (fun _ _ h => by rw [h.1]; rfl) (fun _ U U' hal hh h => ⟨h.1, h.2.1.mv hal hh, h.2.2.1.mv hal hh, h.2.2.2.1.there hal hh, h.2.2.2.2⟩) (fun r U U' V V' h1 hal h2 h => Says01.mv r U U' V V' h1 hal h2 h) ?_
  intro p e s m args below meth c s₁ X0 hexec hbytes hml hret hlk hnm hown hh0 W hP
  obtain ⟨rfl, hx, hy, s1, hz⟩ := hP
  have c1 : Steps p.tables e below (s₁.setTop (entryFrame m #[.ref x, .ref y] 3)) (s₁.setTop (mkF m 2 #[.val (.ref x), .val (.ref y), .unset] [.ref y, .ref x])) := Steps.trans (entry rfl) (by
    show Steps p.tables e below (s₁.setTop (mkF m 0 #[.val (.ref x), .val (.ref y), .unset] [])) _
    refine XS.aloadN X0.here hexec rfl (hb hbytes d0) rfl rfl ?_
    refine XS.aloadN X0.here hexec rfl (hb hbytes d1) rfl rfl ?_
    exact Steps.refl _)
  by_cases hxy : x = y
  · have c2 : Steps p.tables e below (s₁.setTop (entryFrame m #[.ref x, .ref y] 3)) (s₁.setTop (mkF m 6 #[.val (.ref x), .val (.ref y), .unset] [.int 1])) := c1.trans (by
      refine acmpNo X0.here hexec rfl (hb hbytes d2) rfl rfl rfl (by simp [acmp, hxy]) ?_
      refine iconstV X0.here hexec rfl 1 (hb hbytes d5) (by decide) ?_
      exact Steps.refl _)
    subst hxy
    have ec : cd = cd' := by
      obtain ⟨D, fd, a1, a2, a3⟩ := hx.2.2.1
      obtain ⟨D', fd', b1, b2, b3⟩ := hy.2.2.1
      cases a1.symm.trans b1
      obtain ⟨q1, q2, q3, q4⟩ := a2.1
      obtain ⟨r1, r2, r3, r4⟩ := b2.1
      cases q4.symm.trans r4
      cases a3.symm.trans b3; rfl
    have et : t = t' := by
      obtain ⟨D, fd, a1, a2, a3⟩ := hx.2.1
      obtain ⟨D', fd', b1, b2, b3⟩ := hy.2.1
      cases a1.symm.trans b1
      obtain ⟨q1, q2, q3, q4⟩ := a2.1
      obtain ⟨r1, r2, r3, r4⟩ := b2.1
      cases q4.symm.trans r4
      cases a3.symm.trans b3; rfl
    subst ec et
    have ev : V = V' := by cases hx.2.2.2.1.1.symm.trans hy.2.2.2.1.1; rfl
    subst ev
    have hs : SameT n f k g := (Cod.eqv hx.2.2.2.2.1 hy.2.2.2.2.1 hx.2.2.2.2.2 hy.2.2.2.2.2).mp ⟨rfl, fun _ _ => rfl⟩
    exact ⟨s₁, some (.int 1), _, _, _, X0, rfl, rfl, rfl, (fun h => by cases h), ⟨1, rfl, hh0, Or.inl ⟨rfl, hs⟩⟩, fun fs hl => c2.trans (X0.ireturnOut hexec hret rfl (Or.inr (Or.inl rfl)) (hb hbytes d6) hl)⟩
  · have c2 : Steps p.tables e below (s₁.setTop (entryFrame m #[.ref x, .ref y] 3)) (s₁.setTop (mkF m 8 #[.val (.ref x), .val (.ref y), .unset] [.ref y])) := c1.trans (by
      refine acmpYes X0.here hexec rfl (pc0 := 2) rfl (hb hbytes d2) rfl rfl rfl (by simp [acmp, hxy]) (by decide) rfl ?_
      refine XS.aloadN X0.here hexec rfl (hb hbytes d7) rfl rfl ?_
      exact Steps.refl _)
    obtain ⟨T3, X3, q3, st3⟩ := cinst X0 hexec hown (wk W (.classLink "java/lang/String" 10 "java/lang/String")) (hy.mv X0.warmed.alike hh0).1 (g := (mkF m 8 #[.val (.ref x), .val (.ref y), .unset] [.ref y])) rfl (rest := []) rfl (hb hbytes d8)
    have hh3 := q3.trans hh0
    have c4 : Steps p.tables e below (s₁.setTop (entryFrame m #[.ref x, .ref y] 3)) (T3.setTop (mkF m 15 #[.val (.ref x), .val (.ref y), .unset] [.ref y])) := (c2.trans (st3 _ (Steps.refl _))).trans (by
      refine XS.ifNo X3.here hexec rfl (hb hbytes d11) rfl (i0_eq_f (by decide)) ?_
      refine XS.aloadN X3.here hexec rfl (hb hbytes d14) rfl rfl ?_
      exact Steps.refl _)
    obtain ⟨T5, X5, q5, st5⟩ := cself X3 hexec hown (wk W (.classLink "java/lang/String" 10 "java/lang/String")) (hy.mv X3.warmed.alike hh3).1 (g := (mkF m 15 #[.val (.ref x), .val (.ref y), .unset] [.ref y])) rfl (rest := []) rfl (hb hbytes d15)
    have hh5 := q5.trans hh3
    have c6 : Steps p.tables e below (s₁.setTop (entryFrame m #[.ref x, .ref y] 3)) (T5.setTop (mkF m 19 #[.val (.ref x), .val (.ref y), .val (.ref y)] [])) := (c4.trans (st5 _ (Steps.refl _))).trans (by
      refine XS.astoreN X5.here hexec rfl (hb hbytes d18) rfl rfl rfl ?_
      exact Steps.refl _)
    obtain ⟨T7, X7, q7, st7⟩ := X5.sget hexec hown (wk W (.fieldLink "java/lang/String" 38 "java/lang/String" "COMPACT_STRINGS" "Z")) s1 (fun _ _ h => by rw [hh5]; exact h) (g := (mkF m 19 #[.val (.ref x), .val (.ref y), .val (.ref y)] [])) rfl (hb hbytes d19)
    have hh7 := q7.trans hh5
    have c8 : Steps p.tables e below (s₁.setTop (entryFrame m #[.ref x, .ref y] 3)) (T7.setTop (mkF m 26 #[.val (.ref x), .val (.ref y), .val (.ref y)] [.ref x])) := (c6.trans (st7 _ (Steps.refl _))).trans (by
      refine XS.ifNo X7.here hexec rfl (hb hbytes d22) rfl (i0_eq_f hz) ?_
      refine XS.aloadN X7.here hexec rfl (hb hbytes d25) rfl rfl ?_
      exact Steps.refl _)
    obtain ⟨T9, X9, q9, st9⟩ := X7.hget hexec hown (wk W (.fieldLink "java/lang/String" 15 "java/lang/String" "coder" "B")) (hx.mv X7.warmed.alike hh7).2.2.1 (g := (mkF m 26 #[.val (.ref x), .val (.ref y), .val (.ref y)] [.ref x])) rfl (rest := []) rfl (hb hbytes d26)
    have hh9 := q9.trans hh7
    have c10 : Steps p.tables e below (s₁.setTop (entryFrame m #[.ref x, .ref y] 3)) (T9.setTop (mkF m 30 #[.val (.ref x), .val (.ref y), .val (.ref y)] [.ref y, .int cd])) := (c8.trans (st9 _ (Steps.refl _))).trans (by
      refine XS.aloadN X9.here hexec rfl (hb hbytes d29) rfl rfl ?_
      exact Steps.refl _)
    obtain ⟨T11, X11, q11, st11⟩ := X9.hget hexec hown (wk W (.fieldLink "java/lang/String" 15 "java/lang/String" "coder" "B")) (hy.mv X9.warmed.alike hh9).2.2.1 (g := (mkF m 30 #[.val (.ref x), .val (.ref y), .val (.ref y)] [.ref y, .int cd])) rfl (rest := [.int cd]) rfl (hb hbytes d30)
    have hh11 := q11.trans hh9
    have c12 : Steps p.tables e below (s₁.setTop (entryFrame m #[.ref x, .ref y] 3)) (T11.setTop (mkF m 33 #[.val (.ref x), .val (.ref y), .val (.ref y)] [.int cd', .int cd])) := c10.trans (st11 _ (Steps.refl _))
    by_cases hcd : cd = cd'
    · subst hcd
      have c13 : Steps p.tables e below (s₁.setTop (entryFrame m #[.ref x, .ref y] 3)) (T11.setTop (mkF m 37 #[.val (.ref x), .val (.ref y), .val (.ref y)] [.ref x])) := c12.trans (by
        refine XS.icmpNo X11.here hexec rfl (hb hbytes d33) rfl (ii_ne_f rfl) ?_
        refine XS.aloadN X11.here hexec rfl (hb hbytes d36) rfl rfl ?_
        exact Steps.refl _)
      obtain ⟨T14, X14, q14, st14⟩ := X11.hget hexec hown (wk W (.fieldLink "java/lang/String" 9 "java/lang/String" "value" "[B")) (hx.mv X11.warmed.alike hh11).2.1 (g := (mkF m 37 #[.val (.ref x), .val (.ref y), .val (.ref y)] [.ref x])) rfl (rest := []) rfl (hb hbytes d37)
      have hh14 := q14.trans hh11
      have c15 : Steps p.tables e below (s₁.setTop (entryFrame m #[.ref x, .ref y] 3)) (T14.setTop (mkF m 41 #[.val (.ref x), .val (.ref y), .val (.ref y)] [.ref y, .ref t])) := (c13.trans (st14 _ (Steps.refl _))).trans (by
        refine XS.aloadN X14.here hexec rfl (hb hbytes d40) rfl rfl ?_
        exact Steps.refl _)
      obtain ⟨T16, X16, q16, st16⟩ := X14.hget hexec hown (wk W (.fieldLink "java/lang/String" 9 "java/lang/String" "value" "[B")) (hy.mv X14.warmed.alike hh14).2.1 (g := (mkF m 41 #[.val (.ref x), .val (.ref y), .val (.ref y)] [.ref y, .ref t])) rfl (rest := [.ref t]) rfl (hb hbytes d41)
      have hh16 := q16.trans hh14
      have c17 : Steps p.tables e below (s₁.setTop (entryFrame m #[.ref x, .ref y] 3)) (T16.setTop (mkF m 44 #[.val (.ref x), .val (.ref y), .val (.ref y)] [.ref t', .ref t])) := c15.trans (st16 _ (Steps.refl _))
      obtain ⟨v18, T18, X18, E18, g18⟩ := X16.callS hexec (LEq.law l t V t' V') hown (wks W (staticW "java/lang/String" 541 LEq.yN)) (wk W LEq.tab) (W := 0) (Nat.le_of_ble_eq_true rfl) (Nat.le_of_ble_eq_true rfl) (Nat.le_refl _) (Nat.le_refl _) (g := (mkF m 44 #[.val (.ref x), .val (.ref y), .val (.ref y)] [.ref t', .ref t])) rfl (by rw [hml]; rfl) c17 (argsL := [.ref t, .ref t']) (rest := []) rfl rfl (by show 2 * 0 + 0 ≤ _; decide) (hb hbytes d44) (⟨rfl, hx.2.2.2.1.mv X16.warmed.alike hh16, hx.2.2.2.2.1.ty, hy.2.2.2.1.mv X16.warmed.alike hh16, hy.2.2.2.2.1.ty⟩)
      obtain ⟨v, rfl, q18, hv⟩ := E18
      have iff := Cod.eqv hx.2.2.2.2.1 hy.2.2.2.2.1 hx.2.2.2.2.2 hy.2.2.2.2.2
      rcases hv with ⟨rfl, he⟩ | ⟨rfl, he⟩
      · have c19 : Steps p.tables e below (s₁.setTop (entryFrame m #[.ref x, .ref y] 3)) (T18.setTop (mkF m 55 #[.val (.ref x), .val (.ref y), .val (.ref y)] [.int 1])) := Steps.trans g18 (by
          refine XS.ifNo X18.here hexec rfl (hb hbytes d47) rfl (i0_eq_f (by decide)) ?_
          refine iconstV X18.here hexec rfl 1 (hb hbytes d50) (by decide) ?_
          refine XS.goto X18.here hexec rfl (pc0 := 51) rfl (hb hbytes d51) (by decide) rfl ?_
          exact Steps.refl _)
        exact ⟨T18, some (.int 1), _, _, _, X18, rfl, rfl, rfl, (fun h => by cases h), ⟨1, rfl, q18.trans hh16, Or.inl ⟨rfl, iff.mp he⟩⟩, fun fs hl => c19.trans (X18.ireturnOut hexec hret rfl (Or.inr (Or.inl rfl)) (hb hbytes d55) hl)⟩
      · have c19 : Steps p.tables e below (s₁.setTop (entryFrame m #[.ref x, .ref y] 3)) (T18.setTop (mkF m 55 #[.val (.ref x), .val (.ref y), .val (.ref y)] [.int 0])) := Steps.trans g18 (by
          refine XS.ifYes X18.here hexec rfl (pc0 := 47) rfl (hb hbytes d47) rfl (i0_eq_t rfl) (by decide) rfl ?_
          refine iconstV X18.here hexec rfl 0 (hb hbytes d54) (by decide) ?_
          exact Steps.refl _)
        exact ⟨T18, some (.int 0), _, _, _, X18, rfl, rfl, rfl, (fun h => by cases h), ⟨0, rfl, q18.trans hh16, Or.inr ⟨rfl, fun q => he (iff.mpr q)⟩⟩, fun fs hl => c19.trans (X18.ireturnOut hexec hret rfl (Or.inr (Or.inl rfl)) (hb hbytes d55) hl)⟩
    · have c13 : Steps p.tables e below (s₁.setTop (entryFrame m #[.ref x, .ref y] 3)) (T11.setTop (mkF m 55 #[.val (.ref x), .val (.ref y), .val (.ref y)] [.int 0])) := c12.trans (by
        refine XS.icmpYes X11.here hexec rfl (pc0 := 33) rfl (hb hbytes d33) rfl (ii_ne_t hcd) (by decide) rfl ?_
        refine iconstV X11.here hexec rfl 0 (hb hbytes d54) (by decide) ?_
        exact Steps.refl _)
      exact ⟨T11, some (.int 0), _, _, _, X11, rfl, rfl, rfl, (fun h => by cases h), ⟨0, rfl, hh11, Or.inr ⟨rfl, Cod.dif hx.2.2.2.2.1 hy.2.2.2.2.1 hcd⟩⟩, fun fs hl => c13.trans (X11.ireturnOut hexec hret rfl (Or.inr (Or.inl rfl)) (hb hbytes d55) hl)⟩
theorem pays {l : Launch} {R : Room} {p : Program} {e : Env} {below : List Frame} {s : State} {sargs : Array Value} {len W : Nat} (x t : Addr) (V : Cell) (cd : Int32) (n : Nat) (f : Nat → Int32) (y t' : Addr) (V' : Cell) (cd' : Int32) (k : Nat) (g : Nat → Int32) (z : Int32) (htab : tab.before sargs s = true) (hfr : 2 ≤ R.frames) (hlo : W + 28 ≤ R.locals) :
    Back l R p e below s sargs yN len W (fun A₁ a₁ => A₁.cells + 0 ≤ R.cells ∧ A₁.slots + 0 ≤ R.slots ∧ P x t V cd n f y t' V' cd' k g z a₁ A₁.U) (fun A₁ _ v₁ B₁ => Says01 (SameT n f k g) v₁ A₁.U B₁.U ∧ B₁.locs = A₁.locs ++ [] ∧ B₁.cells = A₁.cells + 0 ∧ B₁.slots = A₁.slots + 0) :=
  (law l x t V cd n f y t' V' cd' k g z).pays htab hfr (by omega)
end SEq
end StrChars
namespace StrChars.Road
open Jvm Sem ClassFile Op Lib Jvm.Stand Jvm.Free Jvm.Free.XT
open Jvm.Lib.Cold (StaticIs)
/-- the words of String.equals(Object) -/
abbrev wordsEq : List Jvm.Cond := [.code SEq.yN SEq.yB 3 (some .boolean), .initialized ST, .classLink ST 10 ST, .fieldLink ST 38 ST "COMPACT_STRINGS" "Z", .fieldLink ST 15 ST "coder" "B", .fieldLink ST 9 ST "value" "[B", .methodLink ST 541 LEq.yN, .static LEq.yN, .code LEq.yN LEq.yB 3 (some .boolean), .initialized "java/lang/StringLatin1"]
theorem tabEq_of {a : Array Value} {s : State} (h : ∀ w ∈ wordsEq, w.before a s = true) : SEq.tab.before a s = true := by
  have hl : LEq.tab.before a s = true := unparts (wk h (.code LEq.yN LEq.yB 3 (some .boolean))) (wks h (.initialized LEq.yN.cls :: LEq.site))
  have q := consq hl h
  exact unparts (wk q (.code SEq.yN SEq.yB 3 (some .boolean))) (wks q (.initialized SEq.yN.cls :: SEq.site))
theorem movedEq {Z s : State} {a0 args : Array Value} (hZ : Z.Warmed39 s.vm) (hw : ∀ d ∈ wordsEq, d.before a0 Z = true) : ∀ d ∈ wordsEq, d.before args s = true := fun d hd => by
  have t : ∀ d ∈ wordsEq, (d.onTables && d.keepsFace) = true := by decide +kernel
  exact RoadKit.mv hZ (hw d hd) (t d hd)
/-- the road's facts of a String, as the laws ask it -/
theorem txt_of {Z U : State} {a0 : Array Value} {kI : Nat} (wi : (Jvm.Cond.instantiable ST kI).before a0 Z = true) (al : Z.vm.Alike U.vm) {x t : Addr} {kb : ClassId} {cs : List Int32} {cd N2 : Int32} {vs : List Value} (E : RoadKit.Exa Z U.heap x ST) (V : RoadKit.Fld Z U.heap x ST "value" "[B" (.ref t)) (C : RoadKit.Fld Z U.heap x ST "coder" "B" (.int cd)) (K : RoadKit.Arv Z U.heap t kb .byte N2 vs (.int 0)) (hc : CodA cs cd N2 vs) (hb : ∀ c ∈ cs, ¬ c < 0 ∧ ¬ (65535 : Int32) < c) (l2 : cs.length ≤ 4000) :
    ∃ A, Txt x t A cd cs.length (fun j => cs.getD j 0) U := by
  obtain ⟨A, K1, K2, K3, K4, K5, K6⟩ := K
  have hcod := hc.cod (by omega) K3 K5
  obtain ⟨D, fV, fC, hB, F1, F2, g1, g2, -, -⟩ := strObj wi al E V C
  exact ⟨A, ⟨_, hB.2.2.1, D, hB.1, rfl, by cases q : D.vm <;> first | rfl | exact absurd q (hB.2.1.2 _)⟩, Has.of hB F1 g1, Has.of hB F2 g2, ⟨K1.1, State.isArrayOf_alike al K1.2.1, K1.2.2, by rcases hcod with ⟨-, q, -⟩ | ⟨-, q, -⟩ <;> omega⟩, hcod, fun j hj => by
    have e : cs.getD j 0 = cs[j] := by simp [List.getD_eq_getElem?_getD, hj]
    show ¬ cs.getD j 0 < 0 ∧ ¬ 65535 < cs.getD j 0
    rw [e]; exact hb _ (List.getElem_mem _)⟩
theorem same_list (cs ds : List Int32) : SameT cs.length (fun j => cs.getD j 0) ds.length (fun j => ds.getD j 0) ↔ cs = ds := by
  constructor
  · rintro ⟨e, q⟩
    refine List.ext_getElem e fun j h1 h2 => ?_
    have := q j h1
    simpa [List.getD_eq_getElem?_getD, h1, h2] using this
  · rintro rfl
    exact ⟨rfl, fun _ _ => rfl⟩
/-- **equals(Object) OF TWO SUCH STRINGS**: 1 just where the chars are the same -/
theorem eqW {p : Program} {l : Launch} {e : Env} {R : Room} {s : State} {args : Array Value} {below : List Frame} {len W : Nat} {Z : State} {a0 : Array Value} {h : Heap} (hZ : Z.Warmed39 s.vm) (hw : ∀ d ∈ wordsEq, d.before a0 Z = true) {kI : Nat} (wi : (Jvm.Cond.instantiable ST kI).before a0 Z = true)
    {x t : Addr} {kb : ClassId} {cs : List Int32} {cd N2 : Int32} {vs : List Value} (E : RoadKit.Exa Z h x ST) (V : RoadKit.Fld Z h x ST "value" "[B" (.ref t)) (C : RoadKit.Fld Z h x ST "coder" "B" (.int cd)) (K : RoadKit.Arv Z h t kb .byte N2 vs (.int 0)) (hc : CodA cs cd N2 vs) (hb : ∀ c ∈ cs, ¬ c < 0 ∧ ¬ (65535 : Int32) < c) (l2 : cs.length ≤ 4000)
    {y t' : Addr} {kb' : ClassId} {ds : List Int32} {cd' N2' : Int32} {vs' : List Value} (E' : RoadKit.Exa Z h y ST) (V' : RoadKit.Fld Z h y ST "value" "[B" (.ref t')) (C' : RoadKit.Fld Z h y ST "coder" "B" (.int cd')) (K' : RoadKit.Arv Z h t' kb' .byte N2' vs' (.int 0)) (hc' : CodA ds cd' N2' vs') (hb' : ∀ c ∈ ds, ¬ c < 0 ∧ ¬ (65535 : Int32) < c) (l2' : ds.length ≤ 4000)
    {z : Int32} (S : RoadKit.Sta Z h ST "COMPACT_STRINGS" "Z" (.int z)) (hz : ¬ z = 0) (hfr : 2 ≤ R.frames) (hlo : W + 28 ≤ R.locals) :
    Back l R p e below s args (⟨"java/lang/String", "equals", "(Ljava/lang/Object;)Z"⟩ : MethodName) len W (fun P a => a = #[.ref x, .ref y] ∧ P.U.heap = h ∧ P.cells + 0 ≤ R.cells ∧ P.slots + 0 ≤ R.slots)
      (fun P _ v B => ∃ L, (((v = some (.int 1) ∧ cs = ds) ∨ (v = some (.int 0) ∧ ¬ cs = ds)) ∧ L = [] ∧ B.U.heap = h) ∧ B.locs = P.locs ++ L ∧ B.cells = P.cells + 0 ∧ B.slots = P.slots + 0) := by
  intro m meth c P g ig mk a X hg hsize hdg hW hn hp'
  obtain ⟨rfl, rfl, r1, r2⟩ := hp'
  have al : Z.vm.Alike P.U.vm := hZ.alike.trans X.warmed.alike
  obtain ⟨A, hx⟩ := txt_of wi al E V C K hc hb l2
  obtain ⟨A', hy⟩ := txt_of wi al E' V' C' K' hc' hb' l2'
  obtain ⟨v, B, X', ⟨⟨w, hv, hh, hq⟩, hl, hk, hs⟩, st⟩ := SEq.pays x t A cd cs.length (fun j => cs.getD j 0) y t' A' cd' ds.length (fun j => ds.getD j 0) z (tabEq_of (movedEq hZ hw)) hfr hlo m meth c P g ig mk _ X hg hsize hdg hW hn ⟨r1, r2, rfl, hx, hy, sta_is al S, hz⟩
  refine ⟨v, B, X', ⟨[], ⟨?_, rfl, hh⟩, hl, hk, hs⟩, st⟩
  rcases hq with ⟨rfl, q⟩ | ⟨rfl, q⟩
  · exact Or.inl ⟨hv, (same_list cs ds).mp q⟩
  · exact Or.inr ⟨hv, fun e => q ((same_list cs ds).mpr e)⟩
end StrChars.Road
namespace StrChars.Road
open Jvm Sem ClassFile Op Lib Jvm.Stand Jvm.Free Jvm.Free.XT
open Jvm.Lib.Cold (StaticIs)
/-- what backV says of its String, as the contracts of this text ask it: cs's low bytes, coder 0 -/
theorem codOf {cs : List Int32} {n : Nat} (hn : cs.length = n) (hb : ∀ c ∈ cs, ¬ 255 < c) : CodA cs 0 (Int32.ofNat n) ((cs.map lo8).map Value.int) := Or.inl ⟨rfl, by rw [hn], by simp [List.map_map, Function.comp_def], hb⟩
end StrChars.Road
end Jvm.Pilot.@@N@@
namespace Jvm.Pilot.@@N@@
open Jvm Jvm.ClassFile Sem Op Lib Jvm.Free Jvm.Stand Jvm.LawKit Jvm.RoadKit Bundle Jvm.Pilot.@@N@@.Jvm.D

namespace Own
open Jvm Jvm.ClassFile Sem Op Lib Jvm.Free Jvm.Stand Jvm.LawKit Jvm.RoadKit Bundle
abbrev Cx : Type := Program × Launch × Env × State × MethodId × Array Value × List Frame × Method × Code
abbrev Cx.p (X : Cx) : Program := X.1
abbrev Cx.l (X : Cx) : Launch := X.2.1
abbrev Cx.e (X : Cx) : Env := X.2.2.1
abbrev Cx.s (X : Cx) : State := X.2.2.2.1
abbrev Cx.m (X : Cx) : MethodId := X.2.2.2.2.1
abbrev Cx.args (X : Cx) : Array Value := X.2.2.2.2.2.1
abbrev Cx.below (X : Cx) : List Frame := X.2.2.2.2.2.2.1
abbrev Cx.meth (X : Cx) : Method := X.2.2.2.2.2.2.2.1
abbrev Cx.c (X : Cx) : Code := X.2.2.2.2.2.2.2.2
abbrev Rm (f k s l : Nat) : Room := { frames := f, cells := k, slots := s, locals := l }
/-- what never changes in one activation -/
def Fix (X : Cx) (Z : State) (a0 : Array Value) (EL : List (String × Nat)) (y : MethodName) (bs : ByteArray) (ml : Nat) (rt : Option FieldType) : Prop :=
  X.p.tables.exec = Jvm.exec ∧ X.c.code = bs ∧ X.c.maxLocals = ml ∧ X.meth.sig.returnType = rt ∧ X.meth.name = y.name ∧ X.meth.locks = false ∧ EW Z a0 EL
/-- where the walk stands: heap h, at most k cells and n slots made; sf: addresses that no booked literal lives at -/
def Spot (X : Cx) (R : Room) (Z : State) (a0 : Array Value) (EL : List (String × Nat)) (nw : Bool) (y : MethodName) (bs : ByteArray) (ml : Nat) (rt : Option FieldType) (sf : List Addr) (T : State) (h : Heap) (k n : Nat) : Prop :=
  Fix X Z a0 EL y bs ml rt ∧
  ∃ (vm0 : Vm) (L : List Loc), Stand X.p X.l X.e R (X.s.setVm vm0) X.m X.args X.below X.meth X.c T L k n ∧ T.heap = h ∧ X.s.Since vm0 h.size ∧ Z.Warmed39 vm0 ∧ vm0.findClass y.cls = some X.m.cls ∧ CHr Z EL X.s.vm X.s.heap vm0 h ∧ Fr Z.heap.size L ∧ Ext Z.heap h ∧ (∀ x ∈ sf, x < h.size ∧ Safe Z EL vm0 h x) ∧ (nw = true → X.s.WarmedH vm0)
def Done (X : Cx) (Z : State) (EL : List (String × Nat)) (nw : Bool) (Q : Option Value → Heap → Prop) (kc ks : Nat) (T : State) (g : JFrame) : Prop :=
  ∃ s₂ o, Steps X.p.tables X.e X.below (T.setTop g) s₂ ∧ s₂.status = .running ∧ Ended s₂ X.below o ∧ ∃ v L, o = .returned v ∧ (Q v s₂.heap ∧ Fr Z.heap.size L ∧ Ext Z.heap s₂.heap) ∧ CHr Z EL X.s.vm X.s.heap s₂.vm s₂.heap ∧ (nw = true → X.s.WarmedH s₂.vm) ∧ ReturnedEndW X.s o s₂ L kc ks
/-- from every state that stands so, the frame g runs to a return that Q allows -/
def Go (X : Cx) (R : Room) (Z : State) (a0 : Array Value) (EL : List (String × Nat)) (nw : Bool) (y : MethodName) (bs : ByteArray) (ml : Nat) (rt : Option FieldType) (Q : Option Value → Heap → Prop) (kc ks : Nat) (sf : List Addr) (h : Heap) (k n : Nat) (g : JFrame) : Prop :=
  ∀ T, Spot X R Z a0 EL nw y bs ml rt sf T h k n → Done X Z EL nw Q kc ks T g
section Kit
variable {X : Cx} {R : Room} {Z : State} {a0 : Array Value} {EL : List (String × Nat)} {nw : Bool} {y : MethodName} {bs : ByteArray} {ml : Nat} {rt : Option FieldType} {Q : Option Value → Heap → Prop} {kc ks : Nat} {sf sf' : List Addr} {h h' : Heap} {k n k' n' : Nat} {pc pc' pc2 : Nat} {Ls Ls' : Array Slot} {st : List Value} {g g' : JFrame} {T T' : State}
theorem acmp_eq (v w : Value) : XT.acmp .eq v w = decide (v = w) := rfl
theorem acmp_ne (v w : Value) : XT.acmp .ne v w = decide (v ≠ w) := rfl
theorem ble {a b : Nat} (q : Nat.ble a b = true) : a ≤ b := Nat.le_of_ble_eq_true q
theorem Done.back (st : ∀ t, Steps X.p.tables X.e X.below (T'.setTop g') t → Steps X.p.tables X.e X.below (T.setTop g) t) (D : Done X Z EL nw Q kc ks T' g') : Done X Z EL nw Q kc ks T g := by
  obtain ⟨s₂, o, h1, r⟩ := D
  exact ⟨s₂, o, st _ h1, r⟩
theorem Spot.mono (S : Spot X R Z a0 EL nw y bs ml rt sf T h k n) (hk : k ≤ k') (hn : n ≤ n') (hs : ∀ x ∈ sf', x ∈ sf) : Spot X R Z a0 EL nw y bs ml rt sf' T h k' n' := by
  obtain ⟨F, vm0, L, X1, r1, r2, r3, r4, r5, r6, r7, r8, r9⟩ := S
  exact ⟨F, vm0, L, X1.mono hk hn, r1, r2, r3, r4, r5, r6, r7, fun x hx => r8 x (hs x hx), r9⟩
theorem Go.mono (k' n' : Nat) (hk : Nat.ble k k' = true) (hn : Nat.ble n n' = true) (G : Go X R Z a0 EL nw y bs ml rt Q kc ks sf h k' n' g) : Go X R Z a0 EL nw y bs ml rt Q kc ks sf h k n g := fun T S => G T (S.mono (ble hk) (ble hn) fun _ q => q)
theorem Go.drop (G : Go X R Z a0 EL nw y bs ml rt Q kc ks [] h k n g) : Go X R Z a0 EL nw y bs ml rt Q kc ks sf h k n g := fun T S => G T (S.mono (Nat.le_refl _) (Nat.le_refl _) fun _ q => nomatch q)
theorem Go.step (st : ∀ T t, At T X.m X.c X.below → X.p.tables.exec = Jvm.exec → X.c.code = bs → Steps X.p.tables X.e X.below (T.setTop g') t → Steps X.p.tables X.e X.below (T.setTop g) t) (G : Go X R Z a0 EL nw y bs ml rt Q kc ks sf h k n g') : Go X R Z a0 EL nw y bs ml rt Q kc ks sf h k n g := fun T S => by
  have S' := S
  obtain ⟨⟨hx, hc, -⟩, vm0, L, X1, -⟩ := S'
  exact (G T S).back fun t q => st T t X1.here hx hc q
/-- what is known of the tables at hand, for a step that wants more -/
theorem Go.look (G : ∀ vm0, Z.Warmed39 vm0 → CHv Z EL vm0 h → Ext Z.heap h → (∀ x ∈ sf, x < h.size ∧ Safe Z EL vm0 h x) → Go X R Z a0 EL nw y bs ml rt Q kc ks sf h k n g) : Go X R Z a0 EL nw y bs ml rt Q kc ks sf h k n g := fun T S => by
  have S' := S
  obtain ⟨-, vm0, L, -, -, -, hZ, -, hC, -, hE, hs, -⟩ := S'
  exact G vm0 hZ hC.1 hE hs T S
/-- the statics and the old cells stand -/
theorem Go.old (G : Ext Z.heap h → Go X R Z a0 EL nw y bs ml rt Q kc ks sf h k n g) : Go X R Z a0 EL nw y bs ml rt Q kc ks sf h k n g := Go.look fun _ _ _ E _ => G E
theorem g_aloadN {i : Fin 4} {v : Value} (hd : decode bs pc = .ok (.aload_n i, 1)) (hp : pc + 1 = pc') (hv : Ls[i.val]? = some (.val v)) (hr : v.isRef = true) (G : Go X R Z a0 EL nw y bs ml rt Q kc ks sf h k n (mkF X.m pc' Ls (v :: st))) : Go X R Z a0 EL nw y bs ml rt Q kc ks sf h k n (mkF X.m pc Ls (st)) := by
  subst hp
  exact Go.step (fun T t hT hx hc q => XS.aloadN hT hx rfl (hb hc hd) hv hr q) G
theorem g_aload {i : Nat} {v : Value} (hd : decode bs pc = .ok (.aload i, 2)) (hp : pc + 2 = pc') (hv : Ls[i]? = some (.val v)) (hr : v.isRef = true) (G : Go X R Z a0 EL nw y bs ml rt Q kc ks sf h k n (mkF X.m pc' Ls (v :: st))) : Go X R Z a0 EL nw y bs ml rt Q kc ks sf h k n (mkF X.m pc Ls (st)) := by
  subst hp
  exact Go.step (fun T t hT hx hc q => XS.aload hT hx rfl (hb hc hd) hv hr q) G
theorem g_iloadN {i : Fin 4} {v : Int32} (hd : decode bs pc = .ok (.iload_n i, 1)) (hp : pc + 1 = pc') (hv : Ls[i.val]? = some (.val (.int v))) (G : Go X R Z a0 EL nw y bs ml rt Q kc ks sf h k n (mkF X.m pc' Ls (.int v :: st))) : Go X R Z a0 EL nw y bs ml rt Q kc ks sf h k n (mkF X.m pc Ls (st)) := by
  subst hp
  exact Go.step (fun T t hT hx hc q => XS.iloadN hT hx rfl (hb hc hd) hv q) G
theorem g_iload {i : Nat} {v : Int32} (hd : decode bs pc = .ok (.iload i, 2)) (hp : pc + 2 = pc') (hv : Ls[i]? = some (.val (.int v))) (G : Go X R Z a0 EL nw y bs ml rt Q kc ks sf h k n (mkF X.m pc' Ls (.int v :: st))) : Go X R Z a0 EL nw y bs ml rt Q kc ks sf h k n (mkF X.m pc Ls (st)) := by
  subst hp
  exact Go.step (fun T t hT hx hc q => XS.iload hT hx rfl (hb hc hd) hv q) G
theorem g_lloadN {i : Fin 4} {v : Int64} (hd : decode bs pc = .ok (.lload_n i, 1)) (hp : pc + 1 = pc') (hv : Ls[i.val]? = some (.val (.long v))) (G : Go X R Z a0 EL nw y bs ml rt Q kc ks sf h k n (mkF X.m pc' Ls (.long v :: st))) : Go X R Z a0 EL nw y bs ml rt Q kc ks sf h k n (mkF X.m pc Ls (st)) := by
  subst hp
  exact Go.step (fun T t hT hx hc q => XS.lloadN hT hx rfl (hb hc hd) hv q) G
theorem g_lload {i : Nat} {v : Int64} (hd : decode bs pc = .ok (.lload i, 2)) (hp : pc + 2 = pc') (hv : Ls[i]? = some (.val (.long v))) (G : Go X R Z a0 EL nw y bs ml rt Q kc ks sf h k n (mkF X.m pc' Ls (.long v :: st))) : Go X R Z a0 EL nw y bs ml rt Q kc ks sf h k n (mkF X.m pc Ls (st)) := by
  subst hp
  exact Go.step (fun T t hT hx hc q => XS.lload hT hx rfl (hb hc hd) hv q) G
theorem g_iconst {i : Int} {w : Int32} (hd : decode bs pc = .ok (.iconst i, 1)) (hp : pc + 1 = pc') (hw : Int32.ofInt i = w) (G : Go X R Z a0 EL nw y bs ml rt Q kc ks sf h k n (mkF X.m pc' Ls (.int w :: st))) : Go X R Z a0 EL nw y bs ml rt Q kc ks sf h k n (mkF X.m pc Ls st) := by
  subst hp hw
  exact Go.step (fun T t hT hx hc q => XS.iconst hT hx rfl (hb hc hd) q) G
theorem g_bipush {i : Int} {w : Int32} (hd : decode bs pc = .ok (.bipush i, 2)) (hp : pc + 2 = pc') (hw : (Int8.ofInt i).toInt32 = w) (G : Go X R Z a0 EL nw y bs ml rt Q kc ks sf h k n (mkF X.m pc' Ls (.int w :: st))) : Go X R Z a0 EL nw y bs ml rt Q kc ks sf h k n (mkF X.m pc Ls st) := by
  subst hp hw
  exact Go.step (fun T t hT hx hc q => XS.bipush hT hx rfl (hb hc hd) q) G
theorem g_sipush {i : Int} {w : Int32} (hd : decode bs pc = .ok (.sipush i, 3)) (hp : pc + 3 = pc') (hw : (Int16.ofInt i).toInt32 = w) (G : Go X R Z a0 EL nw y bs ml rt Q kc ks sf h k n (mkF X.m pc' Ls (.int w :: st))) : Go X R Z a0 EL nw y bs ml rt Q kc ks sf h k n (mkF X.m pc Ls st) := by
  subst hp hw
  exact Go.step (fun T t hT hx hc q => XS.sipush hT hx rfl (hb hc hd) q) G
theorem g_lconst {i : Fin 2} {w : Int64} (hd : decode bs pc = .ok (.lconst i, 1)) (hp : pc + 1 = pc') (hw : Int64.ofNat i = w) (G : Go X R Z a0 EL nw y bs ml rt Q kc ks sf h k n (mkF X.m pc' Ls (.long w :: st))) : Go X R Z a0 EL nw y bs ml rt Q kc ks sf h k n (mkF X.m pc Ls st) := by
  subst hp hw
  exact Go.step (fun T t hT hx hc q => XS.lconst hT hx rfl (hb hc hd) q) G
theorem g_aconst_null  (hd : decode bs pc = .ok (.aconst_null, 1)) (hp : pc + 1 = pc')  (G : Go X R Z a0 EL nw y bs ml rt Q kc ks sf h k n (mkF X.m pc' Ls (.null :: st))) : Go X R Z a0 EL nw y bs ml rt Q kc ks sf h k n (mkF X.m pc Ls (st)) := by
  subst hp
  exact Go.step (fun T t hT hx hc q => XS.aconstNull hT hx rfl (hb hc hd)  q) G
theorem g_iadd {x1 x2 : Int32} (hd : decode bs pc = .ok (.iadd, 1)) (hp : pc + 1 = pc')  (G : Go X R Z a0 EL nw y bs ml rt Q kc ks sf h k n (mkF X.m pc' Ls (.int (x1 + x2) :: st))) : Go X R Z a0 EL nw y bs ml rt Q kc ks sf h k n (mkF X.m pc Ls (.int x2 :: .int x1 :: st)) := by
  subst hp
  exact Go.step (fun T t hT hx hc q => XS.iadd hT hx rfl (hb hc hd) rfl  q) G
theorem g_isub {x1 x2 : Int32} (hd : decode bs pc = .ok (.isub, 1)) (hp : pc + 1 = pc')  (G : Go X R Z a0 EL nw y bs ml rt Q kc ks sf h k n (mkF X.m pc' Ls (.int (x1 - x2) :: st))) : Go X R Z a0 EL nw y bs ml rt Q kc ks sf h k n (mkF X.m pc Ls (.int x2 :: .int x1 :: st)) := by
  subst hp
  exact Go.step (fun T t hT hx hc q => XS.isub hT hx rfl (hb hc hd) rfl  q) G
theorem g_imul {x1 x2 : Int32} (hd : decode bs pc = .ok (.imul, 1)) (hp : pc + 1 = pc')  (G : Go X R Z a0 EL nw y bs ml rt Q kc ks sf h k n (mkF X.m pc' Ls (.int (x1 * x2) :: st))) : Go X R Z a0 EL nw y bs ml rt Q kc ks sf h k n (mkF X.m pc Ls (.int x2 :: .int x1 :: st)) := by
  subst hp
  exact Go.step (fun T t hT hx hc q => XS.imul hT hx rfl (hb hc hd) rfl  q) G
theorem g_iand {x1 x2 : Int32} (hd : decode bs pc = .ok (.iand, 1)) (hp : pc + 1 = pc')  (G : Go X R Z a0 EL nw y bs ml rt Q kc ks sf h k n (mkF X.m pc' Ls (.int (x1 &&& x2) :: st))) : Go X R Z a0 EL nw y bs ml rt Q kc ks sf h k n (mkF X.m pc Ls (.int x2 :: .int x1 :: st)) := by
  subst hp
  exact Go.step (fun T t hT hx hc q => XS.iand hT hx rfl (hb hc hd) rfl  q) G
theorem g_ior {x1 x2 : Int32} (hd : decode bs pc = .ok (.ior, 1)) (hp : pc + 1 = pc')  (G : Go X R Z a0 EL nw y bs ml rt Q kc ks sf h k n (mkF X.m pc' Ls (.int (x1 ||| x2) :: st))) : Go X R Z a0 EL nw y bs ml rt Q kc ks sf h k n (mkF X.m pc Ls (.int x2 :: .int x1 :: st)) := by
  subst hp
  exact Go.step (fun T t hT hx hc q => XS.ior hT hx rfl (hb hc hd) rfl  q) G
theorem g_ixor {x1 x2 : Int32} (hd : decode bs pc = .ok (.ixor, 1)) (hp : pc + 1 = pc')  (G : Go X R Z a0 EL nw y bs ml rt Q kc ks sf h k n (mkF X.m pc' Ls (.int (x1 ^^^ x2) :: st))) : Go X R Z a0 EL nw y bs ml rt Q kc ks sf h k n (mkF X.m pc Ls (.int x2 :: .int x1 :: st)) := by
  subst hp
  exact Go.step (fun T t hT hx hc q => XS.ixor hT hx rfl (hb hc hd) rfl  q) G
theorem g_ishl {x1 x2 : Int32} (hd : decode bs pc = .ok (.ishl, 1)) (hp : pc + 1 = pc')  (G : Go X R Z a0 EL nw y bs ml rt Q kc ks sf h k n (mkF X.m pc' Ls (.int (x1 <<< (x2 &&& 31)) :: st))) : Go X R Z a0 EL nw y bs ml rt Q kc ks sf h k n (mkF X.m pc Ls (.int x2 :: .int x1 :: st)) := by
  subst hp
  exact Go.step (fun T t hT hx hc q => XS.ishl hT hx rfl (hb hc hd) rfl  q) G
theorem g_ishr {x1 x2 : Int32} (hd : decode bs pc = .ok (.ishr, 1)) (hp : pc + 1 = pc')  (G : Go X R Z a0 EL nw y bs ml rt Q kc ks sf h k n (mkF X.m pc' Ls (.int (x1 >>> (x2 &&& 31)) :: st))) : Go X R Z a0 EL nw y bs ml rt Q kc ks sf h k n (mkF X.m pc Ls (.int x2 :: .int x1 :: st)) := by
  subst hp
  exact Go.step (fun T t hT hx hc q => XS.ishr hT hx rfl (hb hc hd) rfl  q) G
theorem g_iushr {x1 x2 : Int32} (hd : decode bs pc = .ok (.iushr, 1)) (hp : pc + 1 = pc')  (G : Go X R Z a0 EL nw y bs ml rt Q kc ks sf h k n (mkF X.m pc' Ls (.int (x1.toUInt32 >>> (x2 &&& 31).toUInt32).toInt32 :: st))) : Go X R Z a0 EL nw y bs ml rt Q kc ks sf h k n (mkF X.m pc Ls (.int x2 :: .int x1 :: st)) := by
  subst hp
  exact Go.step (fun T t hT hx hc q => XS.iushr hT hx rfl (hb hc hd) rfl  q) G
theorem g_idiv {x1 x2 : Int32} (hd : decode bs pc = .ok (.idiv, 1)) (hp : pc + 1 = pc') (hy : x2 ≠ 0) (G : Go X R Z a0 EL nw y bs ml rt Q kc ks sf h k n (mkF X.m pc' Ls (.int (x1 / x2) :: st))) : Go X R Z a0 EL nw y bs ml rt Q kc ks sf h k n (mkF X.m pc Ls (.int x2 :: .int x1 :: st)) := by
  subst hp
  exact Go.step (fun T t hT hx hc q => XS.idiv hT hx rfl (hb hc hd) rfl hy q) G
theorem g_ladd {x1 x2 : Int64} (hd : decode bs pc = .ok (.ladd, 1)) (hp : pc + 1 = pc')  (G : Go X R Z a0 EL nw y bs ml rt Q kc ks sf h k n (mkF X.m pc' Ls (.long (x1 + x2) :: st))) : Go X R Z a0 EL nw y bs ml rt Q kc ks sf h k n (mkF X.m pc Ls (.long x2 :: .long x1 :: st)) := by
  subst hp
  exact Go.step (fun T t hT hx hc q => XS.ladd hT hx rfl (hb hc hd) rfl  q) G
theorem g_lsub {x1 x2 : Int64} (hd : decode bs pc = .ok (.lsub, 1)) (hp : pc + 1 = pc')  (G : Go X R Z a0 EL nw y bs ml rt Q kc ks sf h k n (mkF X.m pc' Ls (.long (x1 - x2) :: st))) : Go X R Z a0 EL nw y bs ml rt Q kc ks sf h k n (mkF X.m pc Ls (.long x2 :: .long x1 :: st)) := by
  subst hp
  exact Go.step (fun T t hT hx hc q => XS.lsub hT hx rfl (hb hc hd) rfl  q) G
theorem g_lmul {x1 x2 : Int64} (hd : decode bs pc = .ok (.lmul, 1)) (hp : pc + 1 = pc')  (G : Go X R Z a0 EL nw y bs ml rt Q kc ks sf h k n (mkF X.m pc' Ls (.long (x1 * x2) :: st))) : Go X R Z a0 EL nw y bs ml rt Q kc ks sf h k n (mkF X.m pc Ls (.long x2 :: .long x1 :: st)) := by
  subst hp
  exact Go.step (fun T t hT hx hc q => XS.lmul hT hx rfl (hb hc hd) rfl  q) G
theorem g_land {x1 x2 : Int64} (hd : decode bs pc = .ok (.land, 1)) (hp : pc + 1 = pc')  (G : Go X R Z a0 EL nw y bs ml rt Q kc ks sf h k n (mkF X.m pc' Ls (.long (x1 &&& x2) :: st))) : Go X R Z a0 EL nw y bs ml rt Q kc ks sf h k n (mkF X.m pc Ls (.long x2 :: .long x1 :: st)) := by
  subst hp
  exact Go.step (fun T t hT hx hc q => XS.land hT hx rfl (hb hc hd) rfl  q) G
theorem g_lor {x1 x2 : Int64} (hd : decode bs pc = .ok (.lor, 1)) (hp : pc + 1 = pc')  (G : Go X R Z a0 EL nw y bs ml rt Q kc ks sf h k n (mkF X.m pc' Ls (.long (x1 ||| x2) :: st))) : Go X R Z a0 EL nw y bs ml rt Q kc ks sf h k n (mkF X.m pc Ls (.long x2 :: .long x1 :: st)) := by
  subst hp
  exact Go.step (fun T t hT hx hc q => XS.lor hT hx rfl (hb hc hd) rfl  q) G
theorem g_ldiv {x1 x2 : Int64} (hd : decode bs pc = .ok (.ldiv, 1)) (hp : pc + 1 = pc') (hy : x2 ≠ 0) (G : Go X R Z a0 EL nw y bs ml rt Q kc ks sf h k n (mkF X.m pc' Ls (.long (x1 / x2) :: st))) : Go X R Z a0 EL nw y bs ml rt Q kc ks sf h k n (mkF X.m pc Ls (.long x2 :: .long x1 :: st)) := by
  subst hp
  exact Go.step (fun T t hT hx hc q => XS.ldiv hT hx rfl (hb hc hd) rfl hy q) G
theorem g_lcmp {x1 x2 : Int64} (hd : decode bs pc = .ok (.lcmp, 1)) (hp : pc + 1 = pc')  (G : Go X R Z a0 EL nw y bs ml rt Q kc ks sf h k n (mkF X.m pc' Ls (.int (lcmpW x1 x2) :: st))) : Go X R Z a0 EL nw y bs ml rt Q kc ks sf h k n (mkF X.m pc Ls (.long x2 :: .long x1 :: st)) := by
  subst hp
  exact Go.step (fun T t hT hx hc q => XS.lcmp hT hx rfl (hb hc hd) rfl  q) G
theorem g_lshl {x1 : Int64} {x2 : Int32} (hd : decode bs pc = .ok (.lshl, 1)) (hp : pc + 1 = pc')  (G : Go X R Z a0 EL nw y bs ml rt Q kc ks sf h k n (mkF X.m pc' Ls (.long (x1 <<< (x2 &&& 63).toInt64) :: st))) : Go X R Z a0 EL nw y bs ml rt Q kc ks sf h k n (mkF X.m pc Ls (.int x2 :: .long x1 :: st)) := by
  subst hp
  exact Go.step (fun T t hT hx hc q => XS.lshl hT hx rfl (hb hc hd) rfl q) G
theorem g_lshr {x1 : Int64} {x2 : Int32} (hd : decode bs pc = .ok (.lshr, 1)) (hp : pc + 1 = pc')  (G : Go X R Z a0 EL nw y bs ml rt Q kc ks sf h k n (mkF X.m pc' Ls (.long (x1 >>> (x2 &&& 63).toInt64) :: st))) : Go X R Z a0 EL nw y bs ml rt Q kc ks sf h k n (mkF X.m pc Ls (.int x2 :: .long x1 :: st)) := by
  subst hp
  exact Go.step (fun T t hT hx hc q => XS.lshr hT hx rfl (hb hc hd) rfl q) G
theorem g_lushr {x1 : Int64} {x2 : Int32} (hd : decode bs pc = .ok (.lushr, 1)) (hp : pc + 1 = pc')  (G : Go X R Z a0 EL nw y bs ml rt Q kc ks sf h k n (mkF X.m pc' Ls (.long ((x1.toUInt64 >>> (x2 &&& 63).toInt64.toUInt64).toInt64) :: st))) : Go X R Z a0 EL nw y bs ml rt Q kc ks sf h k n (mkF X.m pc Ls (.int x2 :: .long x1 :: st)) := by
  subst hp
  exact Go.step (fun T t hT hx hc q => XS.lushr hT hx rfl (hb hc hd) rfl q) G
theorem g_irem {x1 x2 : Int32} (hd : decode bs pc = .ok (.irem, 1)) (hp : pc + 1 = pc') (hy : x2 ≠ 0) (G : Go X R Z a0 EL nw y bs ml rt Q kc ks sf h k n (mkF X.m pc' Ls (.int (x1 % x2) :: st))) : Go X R Z a0 EL nw y bs ml rt Q kc ks sf h k n (mkF X.m pc Ls (.int x2 :: .int x1 :: st)) := by
  subst hp
  exact Go.step (fun T t hT hx hc q => XS.irem hT hx rfl (hb hc hd) rfl hy (by rw [irem_eq_mod]; exact q)) G
theorem g_lrem {x1 x2 : Int64} (hd : decode bs pc = .ok (.lrem, 1)) (hp : pc + 1 = pc') (hy : x2 ≠ 0) (G : Go X R Z a0 EL nw y bs ml rt Q kc ks sf h k n (mkF X.m pc' Ls (.long (x1 - (x1 / x2) * x2) :: st))) : Go X R Z a0 EL nw y bs ml rt Q kc ks sf h k n (mkF X.m pc Ls (.long x2 :: .long x1 :: st)) := by
  subst hp
  exact Go.step (fun T t hT hx hc q => XS.lrem hT hx rfl (hb hc hd) rfl hy q) G
theorem g_ineg {x1 : Int32} (hd : decode bs pc = .ok (.ineg, 1)) (hp : pc + 1 = pc')  (G : Go X R Z a0 EL nw y bs ml rt Q kc ks sf h k n (mkF X.m pc' Ls (.int (-x1) :: st))) : Go X R Z a0 EL nw y bs ml rt Q kc ks sf h k n (mkF X.m pc Ls (.int x1 :: st)) := by
  subst hp
  exact Go.step (fun T t hT hx hc q => XS.ineg hT hx rfl (hb hc hd) rfl q) G
theorem g_lneg {x1 : Int64} (hd : decode bs pc = .ok (.lneg, 1)) (hp : pc + 1 = pc')  (G : Go X R Z a0 EL nw y bs ml rt Q kc ks sf h k n (mkF X.m pc' Ls (.long (-x1) :: st))) : Go X R Z a0 EL nw y bs ml rt Q kc ks sf h k n (mkF X.m pc Ls (.long x1 :: st)) := by
  subst hp
  exact Go.step (fun T t hT hx hc q => XS.lneg hT hx rfl (hb hc hd) rfl q) G
theorem g_i2l {x1 : Int32} (hd : decode bs pc = .ok (.i2l, 1)) (hp : pc + 1 = pc')  (G : Go X R Z a0 EL nw y bs ml rt Q kc ks sf h k n (mkF X.m pc' Ls (.long (x1.toInt64) :: st))) : Go X R Z a0 EL nw y bs ml rt Q kc ks sf h k n (mkF X.m pc Ls (.int x1 :: st)) := by
  subst hp
  exact Go.step (fun T t hT hx hc q => XS.i2l hT hx rfl (hb hc hd) rfl q) G
theorem g_l2i {x1 : Int64} (hd : decode bs pc = .ok (.l2i, 1)) (hp : pc + 1 = pc')  (G : Go X R Z a0 EL nw y bs ml rt Q kc ks sf h k n (mkF X.m pc' Ls (.int (x1.toInt32) :: st))) : Go X R Z a0 EL nw y bs ml rt Q kc ks sf h k n (mkF X.m pc Ls (.long x1 :: st)) := by
  subst hp
  exact Go.step (fun T t hT hx hc q => XS.l2i hT hx rfl (hb hc hd) rfl q) G
theorem g_i2b {x1 : Int32} (hd : decode bs pc = .ok (.i2b, 1)) (hp : pc + 1 = pc')  (G : Go X R Z a0 EL nw y bs ml rt Q kc ks sf h k n (mkF X.m pc' Ls (.int (x1.toInt8.toInt32) :: st))) : Go X R Z a0 EL nw y bs ml rt Q kc ks sf h k n (mkF X.m pc Ls (.int x1 :: st)) := by
  subst hp
  exact Go.step (fun T t hT hx hc q => XS.i2b hT hx rfl (hb hc hd) rfl q) G
theorem g_i2c {x1 : Int32} (hd : decode bs pc = .ok (.i2c, 1)) (hp : pc + 1 = pc')  (G : Go X R Z a0 EL nw y bs ml rt Q kc ks sf h k n (mkF X.m pc' Ls (.int (x1.toUInt32.toUInt16.toUInt32.toInt32) :: st))) : Go X R Z a0 EL nw y bs ml rt Q kc ks sf h k n (mkF X.m pc Ls (.int x1 :: st)) := by
  subst hp
  exact Go.step (fun T t hT hx hc q => XS.i2c hT hx rfl (hb hc hd) rfl q) G
theorem g_i2s {x1 : Int32} (hd : decode bs pc = .ok (.i2s, 1)) (hp : pc + 1 = pc')  (G : Go X R Z a0 EL nw y bs ml rt Q kc ks sf h k n (mkF X.m pc' Ls (.int (x1.toInt16.toInt32) :: st))) : Go X R Z a0 EL nw y bs ml rt Q kc ks sf h k n (mkF X.m pc Ls (.int x1 :: st)) := by
  subst hp
  exact Go.step (fun T t hT hx hc q => XS.i2s hT hx rfl (hb hc hd) rfl q) G
theorem g_dup {x1 : Value} (hd : decode bs pc = .ok (.dup, 1)) (hp : pc + 1 = pc') (hc1 : x1.category = 1) (G : Go X R Z a0 EL nw y bs ml rt Q kc ks sf h k n (mkF X.m pc' Ls (x1 :: x1 :: st))) : Go X R Z a0 EL nw y bs ml rt Q kc ks sf h k n (mkF X.m pc Ls (x1 :: st)) := by
  subst hp
  exact Go.step (fun T t hT hx hc q => XS.dup hT hx rfl (hb hc hd) rfl hc1 q) G
theorem g_pop {x1 : Value} (hd : decode bs pc = .ok (.pop, 1)) (hp : pc + 1 = pc') (hc1 : x1.category = 1) (G : Go X R Z a0 EL nw y bs ml rt Q kc ks sf h k n (mkF X.m pc' Ls (st))) : Go X R Z a0 EL nw y bs ml rt Q kc ks sf h k n (mkF X.m pc Ls (x1 :: st)) := by
  subst hp
  exact Go.step (fun T t hT hx hc q => XS.pop hT hx rfl (hb hc hd) rfl hc1 q) G
theorem g_dup_x1 {x1 x2 : Value} (hd : decode bs pc = .ok (.dup_x1, 1)) (hp : pc + 1 = pc') (hc1 : x1.category = 1) (hc2 : x2.category = 1) (G : Go X R Z a0 EL nw y bs ml rt Q kc ks sf h k n (mkF X.m pc' Ls (x1 :: x2 :: x1 :: st))) : Go X R Z a0 EL nw y bs ml rt Q kc ks sf h k n (mkF X.m pc Ls (x1 :: x2 :: st)) := by
  subst hp
  exact Go.step (fun T t hT hx hc q => XT.dupX1 hT hx rfl (hb hc hd) rfl hc1 hc2 q) G
theorem g_dup2 {x1 x2 : Value} (hd : decode bs pc = .ok (.dup2, 1)) (hp : pc + 1 = pc') (hc1 : x1.category = 1) (hc2 : x2.category = 1) (G : Go X R Z a0 EL nw y bs ml rt Q kc ks sf h k n (mkF X.m pc' Ls (x1 :: x2 :: x1 :: x2 :: st))) : Go X R Z a0 EL nw y bs ml rt Q kc ks sf h k n (mkF X.m pc Ls (x1 :: x2 :: st)) := by
  subst hp
  exact Go.step (fun T t hT hx hc q => XT.dup2 hT hx rfl (hb hc hd) rfl hc1 hc2 q) G
theorem g_istoreN {i : Fin 4} {x1 : Int32} (hd : decode bs pc = .ok (.istore_n i, 1)) (hp : pc + 1 = pc') (hl : storeLocals Ls i.val (.int x1) = some Ls') (G : Go X R Z a0 EL nw y bs ml rt Q kc ks sf h k n (mkF X.m pc' Ls' (st))) : Go X R Z a0 EL nw y bs ml rt Q kc ks sf h k n (mkF X.m pc Ls (.int x1 :: st)) := by
  subst hp
  exact Go.step (fun T t hT hx hc q => XS.istoreN hT hx rfl (hb hc hd) rfl hl q) G
theorem g_istore {i : Nat} {x1 : Int32} (hd : decode bs pc = .ok (.istore i, 2)) (hp : pc + 2 = pc') (hl : storeLocals Ls i (.int x1) = some Ls') (G : Go X R Z a0 EL nw y bs ml rt Q kc ks sf h k n (mkF X.m pc' Ls' (st))) : Go X R Z a0 EL nw y bs ml rt Q kc ks sf h k n (mkF X.m pc Ls (.int x1 :: st)) := by
  subst hp
  exact Go.step (fun T t hT hx hc q => XS.istore hT hx rfl (hb hc hd) rfl hl q) G
theorem g_lstoreN {i : Fin 4} {x1 : Int64} (hd : decode bs pc = .ok (.lstore_n i, 1)) (hp : pc + 1 = pc') (hl : storeLocals Ls i.val (.long x1) = some Ls') (G : Go X R Z a0 EL nw y bs ml rt Q kc ks sf h k n (mkF X.m pc' Ls' (st))) : Go X R Z a0 EL nw y bs ml rt Q kc ks sf h k n (mkF X.m pc Ls (.long x1 :: st)) := by
  subst hp
  exact Go.step (fun T t hT hx hc q => XS.lstoreN hT hx rfl (hb hc hd) rfl hl q) G
theorem g_lstore {i : Nat} {x1 : Int64} (hd : decode bs pc = .ok (.lstore i, 2)) (hp : pc + 2 = pc') (hl : storeLocals Ls i (.long x1) = some Ls') (G : Go X R Z a0 EL nw y bs ml rt Q kc ks sf h k n (mkF X.m pc' Ls' (st))) : Go X R Z a0 EL nw y bs ml rt Q kc ks sf h k n (mkF X.m pc Ls (.long x1 :: st)) := by
  subst hp
  exact Go.step (fun T t hT hx hc q => XS.lstore hT hx rfl (hb hc hd) rfl hl q) G
theorem g_astoreN {i : Fin 4} {x1 : Value} (hd : decode bs pc = .ok (.astore_n i, 1)) (hp : pc + 1 = pc') (hr : x1.isRef = true) (hl : storeLocals Ls i.val x1 = some Ls') (G : Go X R Z a0 EL nw y bs ml rt Q kc ks sf h k n (mkF X.m pc' Ls' (st))) : Go X R Z a0 EL nw y bs ml rt Q kc ks sf h k n (mkF X.m pc Ls (x1 :: st)) := by
  subst hp
  exact Go.step (fun T t hT hx hc q => XS.astoreN hT hx rfl (hb hc hd) rfl hr hl q) G
theorem g_astore {i : Nat} {x1 : Value} (hd : decode bs pc = .ok (.astore i, 2)) (hp : pc + 2 = pc') (hr : x1.isRef = true) (hl : storeLocals Ls i x1 = some Ls') (G : Go X R Z a0 EL nw y bs ml rt Q kc ks sf h k n (mkF X.m pc' Ls' (st))) : Go X R Z a0 EL nw y bs ml rt Q kc ks sf h k n (mkF X.m pc Ls (x1 :: st)) := by
  subst hp
  exact Go.step (fun T t hT hx hc q => XS.astore hT hx rfl (hb hc hd) rfl hr hl q) G
theorem g_iinc {i : Nat} {cst : Int} {x1 : Int32} (hd : decode bs pc = .ok (.iinc i cst, 3)) (hp : pc + 3 = pc') (hv : Ls[i]? = some (.val (.int x1))) (hl : storeLocals Ls i (.int (x1 + Int32.ofInt cst)) = some Ls') (G : Go X R Z a0 EL nw y bs ml rt Q kc ks sf h k n (mkF X.m pc' Ls' st)) : Go X R Z a0 EL nw y bs ml rt Q kc ks sf h k n (mkF X.m pc Ls st) := by
  subst hp
  exact Go.step (fun T t hT hx hc q => XS.iinc hT hx rfl (hb hc hd) hv hl q) G
theorem g_goto {o : Int} (hd : decode bs pc = .ok (.goto o, 3)) (ho : 0 ≤ (pc : Int) + o) (hp : ((pc : Int) + o).toNat = pc') (G : Go X R Z a0 EL nw y bs ml rt Q kc ks sf h k n (mkF X.m pc' Ls st)) : Go X R Z a0 EL nw y bs ml rt Q kc ks sf h k n (mkF X.m pc Ls st) :=
  Go.step (fun T t hT hx hc q => XS.goto hT hx rfl rfl (hb hc hd) ho hp q) G
theorem g_icmpeq {o : Int} {x1 x2 : Int32} (hd : decode bs pc = .ok (.if_icmp .eq o, 3)) (hp : pc + 3 = pc') (ho : 0 ≤ (pc : Int) + o) (hp2 : ((pc : Int) + o).toNat = pc2) (Gn : ¬ x1 = x2 → Go X R Z a0 EL nw y bs ml rt Q kc ks sf h k n (mkF X.m pc' Ls st)) (Gy : x1 = x2 → Go X R Z a0 EL nw y bs ml rt Q kc ks sf h k n (mkF X.m pc2 Ls st)) : Go X R Z a0 EL nw y bs ml rt Q kc ks sf h k n (mkF X.m pc Ls (.int x2 :: .int x1 :: st)) := by
  subst hp
  by_cases q : x1 = x2
  · exact Go.step (fun T t hT hx hc r => XS.icmpYes hT hx rfl rfl (hb hc hd) rfl ((teq q).1) ho hp2 r) (Gy q)
  · have q : ¬ x1 = x2 := q
    exact Go.step (fun T t hT hx hc r => XS.icmpNo hT hx rfl (hb hc hd) rfl ((feq q).1) r) (Gn q)
theorem g_ifeq {o : Int} {x1 : Int32} (hd : decode bs pc = .ok (.ifCond .eq o, 3)) (hp : pc + 3 = pc') (ho : 0 ≤ (pc : Int) + o) (hp2 : ((pc : Int) + o).toNat = pc2) (Gn : ¬ x1 = 0 → Go X R Z a0 EL nw y bs ml rt Q kc ks sf h k n (mkF X.m pc' Ls st)) (Gy : x1 = 0 → Go X R Z a0 EL nw y bs ml rt Q kc ks sf h k n (mkF X.m pc2 Ls st)) : Go X R Z a0 EL nw y bs ml rt Q kc ks sf h k n (mkF X.m pc Ls (.int x1 :: st)) := by
  subst hp
  by_cases q : x1 = 0
  · exact Go.step (fun T t hT hx hc r => XS.ifYes hT hx rfl rfl (hb hc hd) rfl (by rw [if0]; exact (teq q).1) ho hp2 r) (Gy q)
  · have q : ¬ x1 = 0 := q
    exact Go.step (fun T t hT hx hc r => XS.ifNo hT hx rfl (hb hc hd) rfl (by rw [if0]; exact (feq q).1) r) (Gn q)
theorem g_icmpne {o : Int} {x1 x2 : Int32} (hd : decode bs pc = .ok (.if_icmp .ne o, 3)) (hp : pc + 3 = pc') (ho : 0 ≤ (pc : Int) + o) (hp2 : ((pc : Int) + o).toNat = pc2) (Gn : x1 = x2 → Go X R Z a0 EL nw y bs ml rt Q kc ks sf h k n (mkF X.m pc' Ls st)) (Gy : ¬ x1 = x2 → Go X R Z a0 EL nw y bs ml rt Q kc ks sf h k n (mkF X.m pc2 Ls st)) : Go X R Z a0 EL nw y bs ml rt Q kc ks sf h k n (mkF X.m pc Ls (.int x2 :: .int x1 :: st)) := by
  subst hp
  by_cases q : ¬ x1 = x2
  · exact Go.step (fun T t hT hx hc r => XS.icmpYes hT hx rfl rfl (hb hc hd) rfl ((feq q).2) ho hp2 r) (Gy q)
  · have q : x1 = x2 := Decidable.not_not.mp q
    exact Go.step (fun T t hT hx hc r => XS.icmpNo hT hx rfl (hb hc hd) rfl ((teq q).2) r) (Gn q)
theorem g_ifne {o : Int} {x1 : Int32} (hd : decode bs pc = .ok (.ifCond .ne o, 3)) (hp : pc + 3 = pc') (ho : 0 ≤ (pc : Int) + o) (hp2 : ((pc : Int) + o).toNat = pc2) (Gn : x1 = 0 → Go X R Z a0 EL nw y bs ml rt Q kc ks sf h k n (mkF X.m pc' Ls st)) (Gy : ¬ x1 = 0 → Go X R Z a0 EL nw y bs ml rt Q kc ks sf h k n (mkF X.m pc2 Ls st)) : Go X R Z a0 EL nw y bs ml rt Q kc ks sf h k n (mkF X.m pc Ls (.int x1 :: st)) := by
  subst hp
  by_cases q : ¬ x1 = 0
  · exact Go.step (fun T t hT hx hc r => XS.ifYes hT hx rfl rfl (hb hc hd) rfl (by rw [if0]; exact (feq q).2) ho hp2 r) (Gy q)
  · have q : x1 = 0 := Decidable.not_not.mp q
    exact Go.step (fun T t hT hx hc r => XS.ifNo hT hx rfl (hb hc hd) rfl (by rw [if0]; exact (teq q).2) r) (Gn q)
theorem g_icmplt {o : Int} {x1 x2 : Int32} (hd : decode bs pc = .ok (.if_icmp .lt o, 3)) (hp : pc + 3 = pc') (ho : 0 ≤ (pc : Int) + o) (hp2 : ((pc : Int) + o).toNat = pc2) (Gn : ¬ x1 < x2 → Go X R Z a0 EL nw y bs ml rt Q kc ks sf h k n (mkF X.m pc' Ls st)) (Gy : x1 < x2 → Go X R Z a0 EL nw y bs ml rt Q kc ks sf h k n (mkF X.m pc2 Ls st)) : Go X R Z a0 EL nw y bs ml rt Q kc ks sf h k n (mkF X.m pc Ls (.int x2 :: .int x1 :: st)) := by
  subst hp
  by_cases q : x1 < x2
  · exact Go.step (fun T t hT hx hc r => XS.icmpYes hT hx rfl rfl (hb hc hd) rfl ((tlt q).1) ho hp2 r) (Gy q)
  · have q : ¬ x1 < x2 := q
    exact Go.step (fun T t hT hx hc r => XS.icmpNo hT hx rfl (hb hc hd) rfl ((flt q).1) r) (Gn q)
theorem g_iflt {o : Int} {x1 : Int32} (hd : decode bs pc = .ok (.ifCond .lt o, 3)) (hp : pc + 3 = pc') (ho : 0 ≤ (pc : Int) + o) (hp2 : ((pc : Int) + o).toNat = pc2) (Gn : ¬ x1 < 0 → Go X R Z a0 EL nw y bs ml rt Q kc ks sf h k n (mkF X.m pc' Ls st)) (Gy : x1 < 0 → Go X R Z a0 EL nw y bs ml rt Q kc ks sf h k n (mkF X.m pc2 Ls st)) : Go X R Z a0 EL nw y bs ml rt Q kc ks sf h k n (mkF X.m pc Ls (.int x1 :: st)) := by
  subst hp
  by_cases q : x1 < 0
  · exact Go.step (fun T t hT hx hc r => XS.ifYes hT hx rfl rfl (hb hc hd) rfl (by rw [if0]; exact (tlt q).1) ho hp2 r) (Gy q)
  · have q : ¬ x1 < 0 := q
    exact Go.step (fun T t hT hx hc r => XS.ifNo hT hx rfl (hb hc hd) rfl (by rw [if0]; exact (flt q).1) r) (Gn q)
theorem g_icmpge {o : Int} {x1 x2 : Int32} (hd : decode bs pc = .ok (.if_icmp .ge o, 3)) (hp : pc + 3 = pc') (ho : 0 ≤ (pc : Int) + o) (hp2 : ((pc : Int) + o).toNat = pc2) (Gn : x1 < x2 → Go X R Z a0 EL nw y bs ml rt Q kc ks sf h k n (mkF X.m pc' Ls st)) (Gy : ¬ x1 < x2 → Go X R Z a0 EL nw y bs ml rt Q kc ks sf h k n (mkF X.m pc2 Ls st)) : Go X R Z a0 EL nw y bs ml rt Q kc ks sf h k n (mkF X.m pc Ls (.int x2 :: .int x1 :: st)) := by
  subst hp
  by_cases q : ¬ x1 < x2
  · exact Go.step (fun T t hT hx hc r => XS.icmpYes hT hx rfl rfl (hb hc hd) rfl ((flt q).2.1) ho hp2 r) (Gy q)
  · have q : x1 < x2 := Decidable.not_not.mp q
    exact Go.step (fun T t hT hx hc r => XS.icmpNo hT hx rfl (hb hc hd) rfl ((tlt q).2.1) r) (Gn q)
theorem g_ifge {o : Int} {x1 : Int32} (hd : decode bs pc = .ok (.ifCond .ge o, 3)) (hp : pc + 3 = pc') (ho : 0 ≤ (pc : Int) + o) (hp2 : ((pc : Int) + o).toNat = pc2) (Gn : x1 < 0 → Go X R Z a0 EL nw y bs ml rt Q kc ks sf h k n (mkF X.m pc' Ls st)) (Gy : ¬ x1 < 0 → Go X R Z a0 EL nw y bs ml rt Q kc ks sf h k n (mkF X.m pc2 Ls st)) : Go X R Z a0 EL nw y bs ml rt Q kc ks sf h k n (mkF X.m pc Ls (.int x1 :: st)) := by
  subst hp
  by_cases q : ¬ x1 < 0
  · exact Go.step (fun T t hT hx hc r => XS.ifYes hT hx rfl rfl (hb hc hd) rfl (by rw [if0]; exact (flt q).2.1) ho hp2 r) (Gy q)
  · have q : x1 < 0 := Decidable.not_not.mp q
    exact Go.step (fun T t hT hx hc r => XS.ifNo hT hx rfl (hb hc hd) rfl (by rw [if0]; exact (tlt q).2.1) r) (Gn q)
theorem g_icmpgt {o : Int} {x1 x2 : Int32} (hd : decode bs pc = .ok (.if_icmp .gt o, 3)) (hp : pc + 3 = pc') (ho : 0 ≤ (pc : Int) + o) (hp2 : ((pc : Int) + o).toNat = pc2) (Gn : ¬ x2 < x1 → Go X R Z a0 EL nw y bs ml rt Q kc ks sf h k n (mkF X.m pc' Ls st)) (Gy : x2 < x1 → Go X R Z a0 EL nw y bs ml rt Q kc ks sf h k n (mkF X.m pc2 Ls st)) : Go X R Z a0 EL nw y bs ml rt Q kc ks sf h k n (mkF X.m pc Ls (.int x2 :: .int x1 :: st)) := by
  subst hp
  by_cases q : x2 < x1
  · exact Go.step (fun T t hT hx hc r => XS.icmpYes hT hx rfl rfl (hb hc hd) rfl ((tlt q).2.2.1) ho hp2 r) (Gy q)
  · have q : ¬ x2 < x1 := q
    exact Go.step (fun T t hT hx hc r => XS.icmpNo hT hx rfl (hb hc hd) rfl ((flt q).2.2.1) r) (Gn q)
theorem g_ifgt {o : Int} {x1 : Int32} (hd : decode bs pc = .ok (.ifCond .gt o, 3)) (hp : pc + 3 = pc') (ho : 0 ≤ (pc : Int) + o) (hp2 : ((pc : Int) + o).toNat = pc2) (Gn : ¬ 0 < x1 → Go X R Z a0 EL nw y bs ml rt Q kc ks sf h k n (mkF X.m pc' Ls st)) (Gy : 0 < x1 → Go X R Z a0 EL nw y bs ml rt Q kc ks sf h k n (mkF X.m pc2 Ls st)) : Go X R Z a0 EL nw y bs ml rt Q kc ks sf h k n (mkF X.m pc Ls (.int x1 :: st)) := by
  subst hp
  by_cases q : 0 < x1
  · exact Go.step (fun T t hT hx hc r => XS.ifYes hT hx rfl rfl (hb hc hd) rfl (by rw [if0]; exact (tlt q).2.2.1) ho hp2 r) (Gy q)
  · have q : ¬ 0 < x1 := q
    exact Go.step (fun T t hT hx hc r => XS.ifNo hT hx rfl (hb hc hd) rfl (by rw [if0]; exact (flt q).2.2.1) r) (Gn q)
theorem g_icmple {o : Int} {x1 x2 : Int32} (hd : decode bs pc = .ok (.if_icmp .le o, 3)) (hp : pc + 3 = pc') (ho : 0 ≤ (pc : Int) + o) (hp2 : ((pc : Int) + o).toNat = pc2) (Gn : x2 < x1 → Go X R Z a0 EL nw y bs ml rt Q kc ks sf h k n (mkF X.m pc' Ls st)) (Gy : ¬ x2 < x1 → Go X R Z a0 EL nw y bs ml rt Q kc ks sf h k n (mkF X.m pc2 Ls st)) : Go X R Z a0 EL nw y bs ml rt Q kc ks sf h k n (mkF X.m pc Ls (.int x2 :: .int x1 :: st)) := by
  subst hp
  by_cases q : ¬ x2 < x1
  · exact Go.step (fun T t hT hx hc r => XS.icmpYes hT hx rfl rfl (hb hc hd) rfl ((flt q).2.2.2) ho hp2 r) (Gy q)
  · have q : x2 < x1 := Decidable.not_not.mp q
    exact Go.step (fun T t hT hx hc r => XS.icmpNo hT hx rfl (hb hc hd) rfl ((tlt q).2.2.2) r) (Gn q)
theorem g_ifle {o : Int} {x1 : Int32} (hd : decode bs pc = .ok (.ifCond .le o, 3)) (hp : pc + 3 = pc') (ho : 0 ≤ (pc : Int) + o) (hp2 : ((pc : Int) + o).toNat = pc2) (Gn : 0 < x1 → Go X R Z a0 EL nw y bs ml rt Q kc ks sf h k n (mkF X.m pc' Ls st)) (Gy : ¬ 0 < x1 → Go X R Z a0 EL nw y bs ml rt Q kc ks sf h k n (mkF X.m pc2 Ls st)) : Go X R Z a0 EL nw y bs ml rt Q kc ks sf h k n (mkF X.m pc Ls (.int x1 :: st)) := by
  subst hp
  by_cases q : ¬ 0 < x1
  · exact Go.step (fun T t hT hx hc r => XS.ifYes hT hx rfl rfl (hb hc hd) rfl (by rw [if0]; exact (flt q).2.2.2) ho hp2 r) (Gy q)
  · have q : 0 < x1 := Decidable.not_not.mp q
    exact Go.step (fun T t hT hx hc r => XS.ifNo hT hx rfl (hb hc hd) rfl (by rw [if0]; exact (tlt q).2.2.2) r) (Gn q)
theorem g_ifnullY {o : Int} (hd : decode bs pc = .ok (.ifnull o, 3)) (ho : 0 ≤ (pc : Int) + o) (hp2 : ((pc : Int) + o).toNat = pc2) (G : Go X R Z a0 EL nw y bs ml rt Q kc ks sf h k n (mkF X.m pc2 Ls st)) : Go X R Z a0 EL nw y bs ml rt Q kc ks sf h k n (mkF X.m pc Ls (.null :: st)) :=
  Go.step (fun T t hT hx hc r => XS.ifnullYes hT hx rfl rfl (hb hc hd) rfl ho hp2 r) G
theorem g_ifnullN {o : Int} {b : Addr} (hd : decode bs pc = .ok (.ifnull o, 3)) (hp : pc + 3 = pc') (G : Go X R Z a0 EL nw y bs ml rt Q kc ks sf h k n (mkF X.m pc' Ls st)) : Go X R Z a0 EL nw y bs ml rt Q kc ks sf h k n (mkF X.m pc Ls (.ref b :: st)) := by
  subst hp
  exact Go.step (fun T t hT hx hc r => XS.ifnullNo hT hx rfl (hb hc hd) rfl r) G
theorem g_ifnonnullY {o : Int} {b : Addr} (hd : decode bs pc = .ok (.ifnonnull o, 3)) (ho : 0 ≤ (pc : Int) + o) (hp2 : ((pc : Int) + o).toNat = pc2) (G : Go X R Z a0 EL nw y bs ml rt Q kc ks sf h k n (mkF X.m pc2 Ls st)) : Go X R Z a0 EL nw y bs ml rt Q kc ks sf h k n (mkF X.m pc Ls (.ref b :: st)) :=
  Go.step (fun T t hT hx hc r => XS.ifnonnullYes hT hx rfl rfl (hb hc hd) rfl ho hp2 r) G
theorem g_ifnonnullN {o : Int} (hd : decode bs pc = .ok (.ifnonnull o, 3)) (hp : pc + 3 = pc') (G : Go X R Z a0 EL nw y bs ml rt Q kc ks sf h k n (mkF X.m pc' Ls st)) : Go X R Z a0 EL nw y bs ml rt Q kc ks sf h k n (mkF X.m pc Ls (.null :: st)) := by
  subst hp
  exact Go.step (fun T t hT hx hc r => XS.ifnonnullNo hT hx rfl (hb hc hd) rfl r) G
theorem g_acmp {cd : ClassFile.ACond} {o : Int} {x1 x2 : Value} (hd : decode bs pc = .ok (.if_acmp cd o, 3)) (hp : pc + 3 = pc') (ho : 0 ≤ (pc : Int) + o) (hp2 : ((pc : Int) + o).toNat = pc2) (hr1 : x1.isRef = true) (hr2 : x2.isRef = true) (Gn : XT.acmp cd x1 x2 = false → Go X R Z a0 EL nw y bs ml rt Q kc ks sf h k n (mkF X.m pc' Ls st)) (Gy : XT.acmp cd x1 x2 = true → Go X R Z a0 EL nw y bs ml rt Q kc ks sf h k n (mkF X.m pc2 Ls st)) : Go X R Z a0 EL nw y bs ml rt Q kc ks sf h k n (mkF X.m pc Ls (x2 :: x1 :: st)) := by
  subst hp
  cases q : XT.acmp cd x1 x2 with
  | true => exact Go.step (fun T t hT hx hc r => XT.acmpYes hT hx rfl rfl (hb hc hd) rfl hr1 hr2 q ho hp2 r) (Gy q)
  | false => exact Go.step (fun T t hT hx hc r => XT.acmpNo hT hx rfl (hb hc hd) rfl hr1 hr2 q r) (Gn q)
/-! returns -/
theorem Go.out {v : Option Value} (hv : rt = none → v = none) (hk : Nat.ble k kc = true) (hn : Nat.ble n ks = true) (hQ : Q v h)
    (stp : ∀ {s0 : State} {L : List Loc} {T : State} {fs : List Frame}, Stand X.p X.l X.e R s0 X.m X.args X.below X.meth X.c T L k n → X.p.tables.exec = Jvm.exec → X.c.code = bs → X.meth.sig.returnType = rt → (∀ (f : JFrame) (acts : List Action), f.method = X.m → f.locked = none → f.entered = [] → (doReturn X.e (T.setTop f) acts v).1 = T.setFrames fs) → Steps X.p.tables X.e X.below (T.setTop g) (T.setFrames fs)) : Go X R Z a0 EL nw y bs ml rt Q kc ks sf h k n g := fun T S => by
  obtain ⟨⟨hx, hc, hml, hrt, hnm, hlk, hEL⟩, vm0, L, X1, rfl, hS, hZ, hown, hC, hF, hE, hs, hN⟩ := S
  obtain ⟨fs, hr, hrun, hended, hW, hsame⟩ := X1.leave (v := v) (fun q => hv (hrt ▸ q)) hlk
  refine ⟨_, _, stp X1 hx hc hrt hr, hrun, hended, v, L, rfl, ⟨hQ, hF, hE⟩, hC.trans (show CHr Z EL vm0 T.heap T.vm T.heap from CHv.at X1 hZ hEL hC.1), fun q => State.WarmedH.trans (hN q) hW, ⟨v, rfl⟩, State.Warmed39.trans (t := X.s.setVm vm0) hS.1 hW.wide, fun j q hj hp => ?_, (hsame.setVm X.s.vm).mono (ble hk) (ble hn)⟩
  exact hS.2 j q hj (by have := hW.interned_eq; rw [this] at hp; exact hp)
theorem g_ireturn {w : Int32} {t : FieldType} (hd : decode bs pc = .ok (.ireturn, 1)) (hrt : rt = some t) (ht : t = .int ∨ t = .boolean ∨ t = .byte ∨ t = .char ∨ t = .short) (hw : narrow t (.int w) = .int w) (hk : Nat.ble k kc = true) (hn : Nat.ble n ks = true) (hQ : Q (some (.int w)) h) : Go X R Z a0 EL nw y bs ml rt Q kc ks sf h k n (mkF X.m pc Ls (.int w :: st)) :=
  Go.out (fun q => by rw [hrt] at q; cases q) hk hn hQ fun X1 hx hc hr hl => retOut X1 hx (hr.trans hrt) hw (Or.inl ⟨rfl, ht, _, rfl⟩) (hb hc hd) hl
theorem g_lreturn {w : Int64} (hd : decode bs pc = .ok (.lreturn, 1)) (hrt : rt = some .long) (hk : Nat.ble k kc = true) (hn : Nat.ble n ks = true) (hQ : Q (some (.long w)) h) : Go X R Z a0 EL nw y bs ml rt Q kc ks sf h k n (mkF X.m pc Ls (.long w :: st)) :=
  Go.out (fun q => by rw [hrt] at q; cases q) hk hn hQ fun X1 hx hc hr hl => retOut X1 hx (hr.trans hrt) rfl (Or.inr (Or.inl ⟨rfl, rfl, _, rfl⟩)) (hb hc hd) hl
theorem g_areturn {w : Value} {t : FieldType} (hd : decode bs pc = .ok (.areturn, 1)) (hrt : rt = some t) (ht : t.isReference = true) (hw : w.isRef = true) (hnw : narrow t w = w) (hk : Nat.ble k kc = true) (hn : Nat.ble n ks = true) (hQ : Q (some w) h) : Go X R Z a0 EL nw y bs ml rt Q kc ks sf h k n (mkF X.m pc Ls (w :: st)) :=
  Go.out (fun q => by rw [hrt] at q; cases q) hk hn hQ fun X1 hx hc hr hl => retOut X1 hx (hr.trans hrt) hnw (Or.inr (Or.inr (Or.inr (Or.inr ⟨rfl, ht, hw⟩)))) (hb hc hd) hl
theorem g_return (hd : decode bs pc = .ok (.return_, 1)) (hrt : rt = none) (hk : Nat.ble k kc = true) (hn : Nat.ble n ks = true) (hQ : Q none h) : Go X R Z a0 EL nw y bs ml rt Q kc ks sf h k n (mkF X.m pc Ls []) :=
  Go.out (fun _ => rfl) hk hn hQ fun X1 hx hc hr hl => X1.returnOut hx (hr.trans hrt) (hb hc hd) hl
/-! steps that move the heap, the tables not interned anew -/
theorem Spot.next {vm0 : Vm} {L' : List Loc} (F : Fix X Z a0 EL y bs ml rt) (X1 : Stand X.p X.l X.e R (X.s.setVm vm0) X.m X.args X.below X.meth X.c T' L' k' n') (e : T'.heap = h') (hS : X.s.Since vm0 h.size) (hZ : Z.Warmed39 vm0) (hown : vm0.findClass y.cls = some X.m.cls) (hC : CHr Z EL X.s.vm X.s.heap vm0 h) (hC' : CHr Z EL vm0 h vm0 h') (hF : Fr Z.heap.size L') (hE : Ext Z.heap h') (hs : ∀ x ∈ sf, x < h.size ∧ Safe Z EL vm0 h x) (hN : nw = true → X.s.WarmedH vm0) : Spot X R Z a0 EL nw y bs ml rt sf T' h' k' n' :=
  ⟨F, vm0, L', X1, e, ⟨hS.1, hS.2.mono hC'.2.1⟩, hZ, hown, hC.trans hC', hF, hE, fun x hx => ⟨Nat.lt_of_lt_of_le (hs x hx).1 hC'.2.1, hC'.safe (hs x hx).1 (hs x hx).2⟩, hN⟩
theorem ext_trans {h1 h2 h3 : Heap} (E : Ext h1 h2) (E' : Ext h2 h3) : Ext h1 h3 := ⟨Nat.le_trans E.1 E'.1, fun a c q => E'.2 a c (E.2 a c q)⟩
theorem ext_refl (h1 : Heap) : Ext h1 h1 := ⟨Nat.le_refl _, fun _ _ q => q⟩
/-- what is written lies behind the first heap's end: the first heap stands -/
theorem ext_keep {h1 h2 h3 : Heap} {ws : List Addr} (E : Ext h1 h2) (K : Keep h2 h3 ws) (q : ∀ x ∈ ws, h1.size ≤ x) : Ext h1 h3 := ⟨Nat.le_trans E.1 K.1, fun a c r => K.2.1 a c (E.2 a c r) fun z => absurd (Array.getElem?_eq_some_iff.mp r).1 (Nat.not_lt.mpr (q a z))⟩
theorem keep_ext {h1 h2 : Heap} (E : Ext h1 h2) : Keep h1 h2 [] := (Keep.refl _ _).ext E
theorem g_new {C : String} {ix sz : Nat} (hd : decode bs pc = .ok (.new ix, 3)) (hp : pc + 3 = pc') (w : (Jvm.Cond.classLink y.cls ix C).before a0 Z = true) (wi : (Jvm.Cond.instantiable C sz).before a0 Z = true) (wz : (Jvm.Cond.initialized C).before a0 Z = true) (hk : Nat.ble (k + 1) R.cells = true) (hn : Nat.ble (n + sz) R.slots = true)
    (G : ∀ h' a, a = h.size → Ext h h' → Exa Z h' a C → (∀ {O nm d : String} {ty : FieldType}, Laid Z a0 C O nm d → parseFieldDescriptor d = some ty → Fld Z h' a O nm d (defaultValue ty)) → Go X R Z a0 EL nw y bs ml rt Q kc ks (a :: sf) h' (k + 1) (n + sz) (mkF X.m pc' Ls (.ref a :: st))) : Go X R Z a0 EL nw y bs ml rt Q kc ks sf h k n (mkF X.m pc Ls st) := fun T S => by
  subst hp
  obtain ⟨F, vm0, L, X1, eT, hS, hZ, hown, hC, hF, hE, hs, hN⟩ := S
  obtain ⟨T', h', X2, e2, E2, A2, D2, -, stp⟩ := newO X1 F.1 (Z := Z) hZ hown w wi wz eT (g := mkF X.m pc Ls st) rfl (hb F.2.1 hd) (ble hk) (ble hn)
  refine (G h' _ rfl E2 A2 D2 T' ?_).back stp
  exact ⟨F, vm0, _, X2, e2, ⟨hS.1, hS.2.mono E2.1⟩, hZ, hown, hC.trans (CHr.ext E2 hC.1), hF, ext_trans hE E2, fun x hx => by
    rcases List.mem_cons.mp hx with rfl | hx
    · exact ⟨A2.lt, Safe.ext E2 hC.1 (Safe.new (Nat.le_refl _))⟩
    · exact ⟨Nat.lt_of_lt_of_le (hs x hx).1 E2.1, Safe.ext E2 hC.1 (hs x hx).2⟩, hN⟩
theorem g_newarray {aty : ArrayType} {z : Int32} {cap : Nat} (hd : decode bs pc = .ok (.newarray aty, 2)) (hp : pc + 2 = pc') (w : (Jvm.Cond.arrayClass (newarray.typeOf aty)).before a0 Z = true) (hz : ¬ z < 0) (hcap : z.toNatClampNeg = cap) (h8 : Nat.ble (cap * 8) 536870912 = true) (hk : Nat.ble (k + 1) R.cells = true) (hn : Nat.ble (n + cap) R.slots = true)
    (G : ∀ h' a kA, a = h.size → Ext h h' → Arv Z h' a kA (newarray.typeOf aty) z (List.replicate cap (defaultValue (newarray.typeOf aty))) (defaultValue (newarray.typeOf aty)) → Go X R Z a0 EL nw y bs ml rt Q kc ks (a :: sf) h' (k + 1) (n + cap) (mkF X.m pc' Ls (.ref a :: st))) : Go X R Z a0 EL nw y bs ml rt Q kc ks sf h k n (mkF X.m pc Ls (.int z :: st)) := fun T S => by
  subst hp
  obtain ⟨F, vm0, L, X1, eT, hS, hZ, hown, hC, hF, hE, hs, hN⟩ := S
  obtain ⟨T', h', cA, X2, e2, E2, A2, stp⟩ := newP X1 F.1 (Z := Z) hZ w eT (g := mkF X.m pc Ls (.int z :: st)) rfl (hb F.2.1 hd) rfl hz (cap := cap) (Nat.le_of_eq hcap) (ble h8) (ble hk) (ble hn)
  have A3 := (Arv.new A2 hz).pad (vs' := List.replicate cap (defaultValue (newarray.typeOf aty))) (fun i => by have := pad_rep [] (defaultValue (newarray.typeOf aty)) cap i; simpa using this)
  refine (G h' _ cA rfl E2 A3 T' ?_).back stp
  exact ⟨F, vm0, _, X2, e2, ⟨hS.1, hS.2.mono E2.1⟩, hZ, hown, hC.trans (CHr.ext E2 hC.1), hF, ext_trans hE E2, fun x hx => by
    rcases List.mem_cons.mp hx with rfl | hx
    · exact ⟨A3.lt, Safe.ext E2 hC.1 (Safe.new (Nat.le_refl _))⟩
    · exact ⟨Nat.lt_of_lt_of_le (hs x hx).1 E2.1, Safe.ext E2 hC.1 (hs x hx).2⟩, hN⟩
theorem g_anewarray {C : String} {ix : Nat} {z : Int32} {cap : Nat} (hd : decode bs pc = .ok (.anewarray ix, 3)) (hp : pc + 3 = pc') (w : (Jvm.Cond.classLink y.cls ix C).before a0 Z = true) (w2 : (Jvm.Cond.arrayOver (.object C)).before a0 Z = true) (hz : ¬ z < 0) (hcap : z.toNatClampNeg = cap) (h8 : Nat.ble (cap * 8) 536870912 = true) (hk : Nat.ble (k + 1) R.cells = true) (hn : Nat.ble (n + cap) R.slots = true)
    (G : ∀ h' a kA, a = h.size → Ext h h' → Ovr Z kA C → Arv Z h' a kA (.object C) z (List.replicate cap .null) .null → Go X R Z a0 EL nw y bs ml rt Q kc ks (a :: sf) h' (k + 1) (n + cap) (mkF X.m pc' Ls (.ref a :: st))) : Go X R Z a0 EL nw y bs ml rt Q kc ks sf h k n (mkF X.m pc Ls (.int z :: st)) := fun T S => by
  subst hp
  obtain ⟨F, vm0, L, X1, eT, hS, hZ, hown, hC, hF, hE, hs, hN⟩ := S
  obtain ⟨T', h', cA, X2, e2, E2, A2, O2, stp⟩ := newR X1 F.1 (Z := Z) hZ hown w w2 eT (g := mkF X.m pc Ls (.int z :: st)) rfl (hb F.2.1 hd) rfl hz (cap := cap) (Nat.le_of_eq hcap) (ble h8) (ble hk) (ble hn)
  have A3 := (Arv.new A2 hz).pad (vs' := List.replicate cap (defaultValue (.object C))) (fun i => by have := pad_rep [] (defaultValue (.object C)) cap i; simpa using this)
  refine (G h' _ cA rfl E2 O2 A3 T' ?_).back stp
  exact ⟨F, vm0, _, X2, e2, ⟨hS.1, hS.2.mono E2.1⟩, hZ, hown, hC.trans (CHr.ext E2 hC.1), hF, ext_trans hE E2, fun x hx => by
    rcases List.mem_cons.mp hx with rfl | hx
    · exact ⟨A3.lt, Safe.ext E2 hC.1 (Safe.new (Nat.le_refl _))⟩
    · exact ⟨Nat.lt_of_lt_of_le (hs x hx).1 E2.1, Safe.ext E2 hC.1 (hs x hx).2⟩, hN⟩
/-- a step over one Stand that moves nothing but the tables (narrowly) -/
theorem Go.same (stp : ∀ {vm0 : Vm} {L : List Loc} {T : State}, Fix X Z a0 EL y bs ml rt → Stand X.p X.l X.e R (X.s.setVm vm0) X.m X.args X.below X.meth X.c T L k n → T.heap = h → Z.Warmed39 vm0 → vm0.findClass y.cls = some X.m.cls →
      ∃ T', Stand X.p X.l X.e R (X.s.setVm vm0) X.m X.args X.below X.meth X.c T' L k n ∧ T'.heap = h ∧ ∀ t, Steps X.p.tables X.e X.below (T'.setTop g') t → Steps X.p.tables X.e X.below (T.setTop g) t)
    (G : Go X R Z a0 EL nw y bs ml rt Q kc ks sf h k n g') : Go X R Z a0 EL nw y bs ml rt Q kc ks sf h k n g := fun T S => by
  obtain ⟨F, vm0, L, X1, eT, hS, hZ, hown, r⟩ := S
  obtain ⟨T', X2, e2, q⟩ := stp F X1 eT hZ hown
  exact (G T' ⟨F, vm0, L, X2, e2, hS, hZ, hown, r⟩).back q
theorem g_ldcI {ix : Nat} {v : Int32} (hd : decode bs pc = .ok (.ldc ix, 2)) (hp : pc + 2 = pc') (w : (Jvm.Cond.constant y.cls ix v).before a0 Z = true) (G : Go X R Z a0 EL nw y bs ml rt Q kc ks sf h k n (mkF X.m pc' Ls (.int v :: st))) : Go X R Z a0 EL nw y bs ml rt Q kc ks sf h k n (mkF X.m pc Ls st) := by
  subst hp
  exact Go.same (fun F X1 eT hZ hown => ⟨_, X1, eT, fun t q => X1.ldcI F.1 hown (mvT hZ w) rfl (hb F.2.1 hd) q⟩) G
theorem g_ldc2J {ix : Nat} {v : Int64} (hd : decode bs pc = .ok (.ldc2_w ix, 3)) (hp : pc + 3 = pc') (w : (Jvm.Cond.constantLong y.cls ix v).before a0 Z = true) (G : Go X R Z a0 EL nw y bs ml rt Q kc ks sf h k n (mkF X.m pc' Ls (.long v :: st))) : Go X R Z a0 EL nw y bs ml rt Q kc ks sf h k n (mkF X.m pc Ls st) := by
  subst hp
  exact Go.same (fun F X1 eT hZ hown => ⟨_, X1, eT, fun t q => X1.ldc2J F.1 hown (mvT hZ w) rfl (hb F.2.1 hd) q⟩) G
/-! arrays read -/
section Arrays
variable {a : Addr} {kA : ClassId} {z j : Int32} {vs : List Value} {d v : Value}
theorem g_arraylength {ty : FieldType} (hd : decode bs pc = .ok (.arraylength, 1)) (hp : pc + 1 = pc') (A : Arv Z h a kA ty z vs d) (G : Go X R Z a0 EL nw y bs ml rt Q kc ks sf h k n (mkF X.m pc' Ls (.int z :: st))) : Go X R Z a0 EL nw y bs ml rt Q kc ks sf h k n (mkF X.m pc Ls (.ref a :: st)) := by
  subst hp
  refine Go.same (fun F X1 eT hZ hown => ⟨_, X1, eT, fun t q => ?_⟩) G
  obtain ⟨c, Ar, -, s1, n1, -⟩ := A
  refine X1.arraylength F.1 (by rw [eT]; exact Ar.1) (State.isArrayOf_alike hZ.alike Ar.2.1) (g := mkF X.m pc Ls (.ref a :: st)) rfl rfl (hb F.2.1 hd) _ ?_
  rw [len_of s1 n1]
  exact q
theorem g_caload {w : Int32} (hd : decode bs pc = .ok (.caload, 1)) (hp : pc + 1 = pc') (A : Arv Z h a kA .char z vs d) (hj : ¬ j < 0 ∧ j < z) (hv : vs.getD j.toNatClampNeg d = .int w) (G : Go X R Z a0 EL nw y bs ml rt Q kc ks sf h k n (mkF X.m pc' Ls (.int w :: st))) : Go X R Z a0 EL nw y bs ml rt Q kc ks sf h k n (mkF X.m pc Ls (.int j :: .ref a :: st)) := by
  subst hp
  refine Go.same (fun F X1 eT hZ hown => ⟨_, X1, eT, fun t q => ?_⟩) G
  obtain ⟨c, Ar, -, s1, n1, H, -⟩ := A
  exact X1.caload F.1 (by rw [eT]; exact Ar.1) (State.isArrayOf_alike hZ.alike Ar.2.1) Ar.2.2 (inb_of s1 hj) (H.at (inb_of s1 hj) hv) (g := mkF X.m pc Ls (.int j :: .ref a :: st)) rfl rfl (hb F.2.1 hd) _ q
theorem g_iaload {w : Int32} (hd : decode bs pc = .ok (.iaload, 1)) (hp : pc + 1 = pc') (A : Arv Z h a kA .int z vs d) (hj : ¬ j < 0 ∧ j < z) (hv : vs.getD j.toNatClampNeg d = .int w) (G : Go X R Z a0 EL nw y bs ml rt Q kc ks sf h k n (mkF X.m pc' Ls (.int w :: st))) : Go X R Z a0 EL nw y bs ml rt Q kc ks sf h k n (mkF X.m pc Ls (.int j :: .ref a :: st)) := by
  subst hp
  refine Go.same (fun F X1 eT hZ hown => ⟨_, X1, eT, fun t q => ?_⟩) G
  obtain ⟨c, Ar, -, s1, n1, H, -⟩ := A
  exact X1.iaload F.1 (by rw [eT]; exact Ar.1) (State.isArrayOf_alike hZ.alike Ar.2.1) Ar.2.2 (inb_of s1 hj) (H.at (inb_of s1 hj) hv) (g := mkF X.m pc Ls (.int j :: .ref a :: st)) rfl rfl (hb F.2.1 hd) _ q
theorem g_baload {w : Int32} (hd : decode bs pc = .ok (.baload, 1)) (hp : pc + 1 = pc') (A : Arv Z h a kA .byte z vs d) (hj : ¬ j < 0 ∧ j < z) (hv : vs.getD j.toNatClampNeg d = .int w) (G : Go X R Z a0 EL nw y bs ml rt Q kc ks sf h k n (mkF X.m pc' Ls (.int w :: st))) : Go X R Z a0 EL nw y bs ml rt Q kc ks sf h k n (mkF X.m pc Ls (.int j :: .ref a :: st)) := by
  subst hp
  refine Go.same (fun F X1 eT hZ hown => ⟨_, X1, eT, fun t q => ?_⟩) G
  obtain ⟨c, Ar, -, s1, n1, H, -⟩ := A
  exact X1.baloadBytes F.1 (by rw [eT]; exact Ar.1) (State.isArrayOf_alike hZ.alike Ar.2.1) Ar.2.2 (inb_of s1 hj) (H.at (inb_of s1 hj) hv) (g := mkF X.m pc Ls (.int j :: .ref a :: st)) rfl rfl (hb F.2.1 hd) _ q
theorem g_aaload {ty : FieldType} (hd : decode bs pc = .ok (.aaload, 1)) (hp : pc + 1 = pc') (A : Arv Z h a kA ty z vs d) (ht : ty.isReference = true) (hj : ¬ j < 0 ∧ j < z) (hv : vs.getD j.toNatClampNeg d = v) (G : Go X R Z a0 EL nw y bs ml rt Q kc ks sf h k n (mkF X.m pc' Ls (v :: st))) : Go X R Z a0 EL nw y bs ml rt Q kc ks sf h k n (mkF X.m pc Ls (.int j :: .ref a :: st)) := by
  subst hp
  refine Go.same (fun F X1 eT hZ hown => ⟨_, X1, eT, fun t q => ?_⟩) G
  obtain ⟨c, Ar, -, s1, n1, H, -⟩ := A
  exact X1.aaload F.1 (by rw [eT]; exact Ar.1) (State.isArrayOf_alike hZ.alike Ar.2.1) ht Ar.2.2 (inb_of s1 hj) (H.at (inb_of s1 hj) hv) (g := mkF X.m pc Ls (.int j :: .ref a :: st)) rfl rfl (hb F.2.1 hd) _ q
/-! writes: one place of one cell, made since the start, that is no literal's -/
theorem Go.write {sl : Nat} {v : Value} (ha : Z.heap.size ≤ a) (hsafe : ∀ vm, Z.Warmed39 vm → CHv Z EL vm h → (∀ x ∈ sf, x < h.size ∧ Safe Z EL vm h x) → Safe Z EL vm h a)
    (stp : ∀ {vm0 : Vm} {L : List Loc} {T : State}, Fix X Z a0 EL y bs ml rt → Stand X.p X.l X.e R (X.s.setVm vm0) X.m X.args X.below X.meth X.c T L k n → T.heap = h → Z.Warmed39 vm0 → vm0.findClass y.cls = some X.m.cls →
      ∃ T' h', Stand X.p X.l X.e R (X.s.setVm vm0) X.m X.args X.below X.meth X.c T' (L ++ [⟨a, sl⟩]) k n ∧ T'.heap = h' ∧ Wr h h' a sl v ∧ ∀ t, Steps X.p.tables X.e X.below (T'.setTop g') t → Steps X.p.tables X.e X.below (T.setTop g) t)
    (G : ∀ h', Wr h h' a sl v → Go X R Z a0 EL nw y bs ml rt Q kc ks sf h' k n g') : Go X R Z a0 EL nw y bs ml rt Q kc ks sf h k n g := fun T S => by
  obtain ⟨F, vm0, L, X1, eT, hS, hZ, hown, hC, hF, hE, hs, hN⟩ := S
  obtain ⟨T', h', X2, e2, W, q⟩ := stp F X1 eT hZ hown
  exact (G h' W T' (Spot.next F X2 e2 hS hZ hown hC (CHr.wr W (hsafe vm0 hZ hC.1 hs) hC.1) (Fr.snoc X2 hF ha) (ext_keep hE (Keep.of_wr W) (allS ha all0)) hs hN)).back q
theorem sfIn (hm : a ∈ sf) : ∀ vm, Z.Warmed39 vm → CHv Z EL vm h → (∀ x ∈ sf, x < h.size ∧ Safe Z EL vm h x) → Safe Z EL vm h a := fun _ _ _ q => (q a hm).2
theorem sfArv {ty : FieldType} (A : Arv Z h a kA ty z vs d) (ht : ty ≠ .byte) : ∀ vm, Z.Warmed39 vm → CHv Z EL vm h → (∀ x ∈ sf, x < h.size ∧ Safe Z EL vm h x) → Safe Z EL vm h a := fun _ hZ _ _ => Safe.arv hZ.alike A ht
theorem sfExa {C : String} (E : Exa Z h a C) (h1 : C ≠ "java/lang/String") (h2 : C ≠ "[B") : ∀ vm, Z.Warmed39 vm → CHv Z EL vm h → (∀ x ∈ sf, x < h.size ∧ Safe Z EL vm h x) → Safe Z EL vm h a := fun _ hZ _ _ => Safe.exa hZ.alike E h1 h2
theorem g_castore {x1 : Int32} {i : Nat} (hd : decode bs pc = .ok (.castore, 1)) (hp : pc + 1 = pc') (A : Arv Z h a kA .char z vs d) (ha : Z.heap.size ≤ a) (hj : ¬ j < 0 ∧ j < z) (hi : j.toNatClampNeg = i) (hl : i < vs.length)
    (G : ∀ h', Keep h h' [a] → Arv Z h' a kA .char z (vs.set i (.int (nar .char x1))) d → Go X R Z a0 EL nw y bs ml rt Q kc ks sf h' k n (mkF X.m pc' Ls st)) : Go X R Z a0 EL nw y bs ml rt Q kc ks sf h k n (mkF X.m pc Ls (.int x1 :: .int j :: .ref a :: st)) := by
  subst hp
  have A' := A
  obtain ⟨c, Ar, k1, s1, n1, H, G1⟩ := A'
  refine Go.write (v := .int (nar .char x1)) ha (sfArv A (by decide)) (fun F X1 eT hZ hown => stC X1 F.1 (Z := Z) hZ eT Ar (x := x1) (inb_of s1 hj) (g := mkF X.m pc Ls (.int x1 :: .int j :: .ref a :: st)) rfl rfl (hb F.2.1 hd)) (fun h' W => G h' (Keep.of_wr W) (Arv.set Ar k1 s1 n1 H G1 (fits_nar_char x1) W i hi hl))
theorem g_castoreX {x1 : Int32} {i : Nat} (hd : decode bs pc = .ok (.castore, 1)) (hp : pc + 1 = pc') (hx1 : nar .char x1 = x1) (A : Arv Z h a kA .char z vs d) (ha : Z.heap.size ≤ a) (hj : ¬ j < 0 ∧ j < z) (hi : j.toNatClampNeg = i) (hl : i < vs.length)
    (G : ∀ h', Keep h h' [a] → Arv Z h' a kA .char z (vs.set i (.int x1)) d → Go X R Z a0 EL nw y bs ml rt Q kc ks sf h' k n (mkF X.m pc' Ls st)) : Go X R Z a0 EL nw y bs ml rt Q kc ks sf h k n (mkF X.m pc Ls (.int x1 :: .int j :: .ref a :: st)) :=
  g_castore hd hp A ha hj hi hl fun h' K A' => G h' K (by rw [hx1] at A'; exact A')
theorem g_bastore {x1 : Int32} {i : Nat} (hd : decode bs pc = .ok (.bastore, 1)) (hp : pc + 1 = pc') (A : Arv Z h a kA .byte z vs d) (ha : Z.heap.size ≤ a) (hm : a ∈ sf) (hj : ¬ j < 0 ∧ j < z) (hi : j.toNatClampNeg = i) (hl : i < vs.length)
    (G : ∀ h', Keep h h' [a] → Arv Z h' a kA .byte z (vs.set i (.int (nar .byte x1))) d → Go X R Z a0 EL nw y bs ml rt Q kc ks sf h' k n (mkF X.m pc' Ls st)) : Go X R Z a0 EL nw y bs ml rt Q kc ks sf h k n (mkF X.m pc Ls (.int x1 :: .int j :: .ref a :: st)) := by
  subst hp
  obtain ⟨c, Ar, k1, s1, n1, H, G1⟩ := A
  refine Go.write (v := .int (nar .byte x1)) ha (sfIn hm) (fun F X1 eT hZ hown => stB X1 F.1 (Z := Z) hZ eT Ar (x := x1) (inb_of s1 hj) (g := mkF X.m pc Ls (.int x1 :: .int j :: .ref a :: st)) rfl rfl (hb F.2.1 hd)) (fun h' W => G h' (Keep.of_wr W) (Arv.set Ar k1 s1 n1 H G1 (fits_nar_byte x1) W i hi hl))
theorem g_iastore {x1 : Int32} {i : Nat} (hd : decode bs pc = .ok (.iastore, 1)) (hp : pc + 1 = pc') (A : Arv Z h a kA .int z vs d) (ha : Z.heap.size ≤ a) (hj : ¬ j < 0 ∧ j < z) (hi : j.toNatClampNeg = i) (hl : i < vs.length)
    (G : ∀ h', Keep h h' [a] → Arv Z h' a kA .int z (vs.set i (.int x1)) d → Go X R Z a0 EL nw y bs ml rt Q kc ks sf h' k n (mkF X.m pc' Ls st)) : Go X R Z a0 EL nw y bs ml rt Q kc ks sf h k n (mkF X.m pc Ls (.int x1 :: .int j :: .ref a :: st)) := by
  subst hp
  have A' := A
  obtain ⟨c, Ar, k1, s1, n1, H, G1⟩ := A'
  refine Go.write (v := .int x1) ha (sfArv A (by decide)) (fun F X1 eT hZ hown => stI X1 F.1 (Z := Z) hZ eT Ar (x := x1) (inb_of s1 hj) (g := mkF X.m pc Ls (.int x1 :: .int j :: .ref a :: st)) rfl rfl (hb F.2.1 hd)) (fun h' W => G h' (Keep.of_wr W) (Arv.set Ar k1 s1 n1 H G1 rfl W i hi hl))
theorem g_aastore {C : String} {w : Addr} {i : Nat} (hd : decode bs pc = .ok (.aastore, 1)) (hp : pc + 1 = pc') (A : Arv Z h a kA (.object C) z vs d) (O : Ovr Z kA C) (I : Ins Z h w C true) (ha : Z.heap.size ≤ a) (hj : ¬ j < 0 ∧ j < z) (hi : j.toNatClampNeg = i) (hl : i < vs.length)
    (G : ∀ h', Keep h h' [a] → Arv Z h' a kA (.object C) z (vs.set i (.ref w)) d → Go X R Z a0 EL nw y bs ml rt Q kc ks sf h' k n (mkF X.m pc' Ls st)) : Go X R Z a0 EL nw y bs ml rt Q kc ks sf h k n (mkF X.m pc Ls (.ref w :: .int j :: .ref a :: st)) := by
  subst hp
  have A' := A
  obtain ⟨c, Ar, k1, s1, n1, H, G1⟩ := A'
  refine Go.write (v := .ref w) ha (sfArv A (by intro q; cases q)) (fun F X1 eT hZ hown => stR X1 F.1 (Z := Z) hZ eT Ar (inb_of s1 hj) rfl (Sto.ofV Ar k1 O I) (g := mkF X.m pc Ls (.ref w :: .int j :: .ref a :: st)) rfl rfl (hb F.2.1 hd)) (fun h' W => G h' (Keep.of_wr W) (Arv.set Ar k1 s1 n1 H G1 rfl W i hi hl))
end Arrays
/-! fields -/
theorem g_getfield {O nm d : String} {ix : Nat} {a : Addr} {v : Value} (hd : decode bs pc = .ok (.getfield ix, 3)) (hp : pc + 3 = pc') (w : (Jvm.Cond.fieldLink y.cls ix O nm d).before a0 Z = true) (Fl : Fld Z h a O nm d v) (G : Go X R Z a0 EL nw y bs ml rt Q kc ks sf h k n (mkF X.m pc' Ls (v :: st))) : Go X R Z a0 EL nw y bs ml rt Q kc ks sf h k n (mkF X.m pc Ls (.ref a :: st)) := by
  subst hp
  exact Go.same (fun F X1 eT hZ hown => getF X1 F.1 (Z := Z) hZ hown (host := "") (Or.inl w) Via.refl eT Fl (g := mkF X.m pc Ls (.ref a :: st)) rfl rfl (hb F.2.1 hd)) G
theorem g_getstatic {O nm d : String} {ix : Nat} {v : Value} (hd : decode bs pc = .ok (.getstatic ix, 3)) (hp : pc + 3 = pc') (w : (Jvm.Cond.fieldLink y.cls ix O nm d).before a0 Z = true) (Fl : Sta Z Z.heap O nm d v) (G : Go X R Z a0 EL nw y bs ml rt Q kc ks sf h k n (mkF X.m pc' Ls (v :: st))) : Go X R Z a0 EL nw y bs ml rt Q kc ks sf h k n (mkF X.m pc Ls st) := by
  subst hp
  exact Go.old fun E => Go.same (fun F X1 eT hZ hown => getS X1 F.1 (Z := Z) hZ (host := "") hown w Via.refl eT (Fl.ext E) (g := mkF X.m pc Ls st) rfl (hb F.2.1 hd)) G
theorem g_putfield {O nm d C : String} {ix kk : Nat} {ty : FieldType} {a : Addr} {v old : Value} (hd : decode bs pc = .ok (.putfield ix, 3)) (hp : pc + 3 = pc') (w : (Jvm.Cond.fieldLink y.cls ix O nm d).before a0 Z = true) (Fl : Fld Z h a O nm d old) (E : Exa Z h a C)
    (L : (Jvm.Cond.lays C O nm d).before a0 Z = true ∨ ((Jvm.Cond.laysFinal C O nm d).before a0 Z = true ∧ y.cls = O ∧ y.name = "<init>")) (wi : (Jvm.Cond.instantiable C kk).before a0 Z = true) (hty : parseFieldDescriptor d = some ty) (hn : narrow ty v = v) (hf : fits ty v = true) (ha : Z.heap.size ≤ a) (hm : a ∈ sf)
    (G : ∀ h', Wr h h' a (RoadKit.slotOf Z O nm d) v → Go X R Z a0 EL nw y bs ml rt Q kc ks sf h' k n (mkF X.m pc' Ls st)) : Go X R Z a0 EL nw y bs ml rt Q kc ks sf h k n (mkF X.m pc Ls (v :: .ref a :: st)) := by
  subst hp
  exact Go.write (v := v) ha (sfIn hm) (fun F X1 eT hZ hown => putF X1 F.1 (Z := Z) hZ hown (host := "") (Or.inl w) Via.refl eT Fl E (L.imp id fun q => ⟨q.1, q.2.1, F.2.2.2.2.1.trans q.2.2⟩) wi hty hn hf (g := mkF X.m pc Ls (v :: .ref a :: st)) rfl rfl (hb F.2.1 hd)) G
theorem g_checkcast {K : String} {ix : Nat} {a : Addr} (hd : decode bs pc = .ok (.checkcast ix, 3)) (hp : pc + 3 = pc') (w : (Jvm.Cond.classLink y.cls ix K).before a0 Z = true) (I : Ins Z h a K true) (G : Go X R Z a0 EL nw y bs ml rt Q kc ks sf h k n (mkF X.m pc' Ls (.ref a :: st))) : Go X R Z a0 EL nw y bs ml rt Q kc ks sf h k n (mkF X.m pc Ls (.ref a :: st)) := by
  subst hp
  exact Go.same (fun F X1 eT hZ hown => castY X1 F.1 (Z := Z) hZ hown w eT I (g := mkF X.m pc Ls (.ref a :: st)) rfl rfl (hb F.2.1 hd)) G
theorem g_instanceofY {K : String} {ix : Nat} {a : Addr} (hd : decode bs pc = .ok (.instanceof ix, 3)) (hp : pc + 3 = pc') (w : (Jvm.Cond.classLink y.cls ix K).before a0 Z = true) (I : Ins Z h a K true) (G : Go X R Z a0 EL nw y bs ml rt Q kc ks sf h k n (mkF X.m pc' Ls (.int 1 :: st))) : Go X R Z a0 EL nw y bs ml rt Q kc ks sf h k n (mkF X.m pc Ls (.ref a :: st)) := by
  subst hp
  exact Go.same (fun F X1 eT hZ hown => instY X1 F.1 (Z := Z) hZ hown w eT I (g := mkF X.m pc Ls (.ref a :: st)) rfl rfl (hb F.2.1 hd)) G
/-- Object's constructor -/
theorem g_objinit {ix : Nat} {a : Addr} (hd : decode bs pc = .ok (.invokespecial ix, 3)) (hp : pc + 3 = pc') (w1 : (Jvm.Cond.methodLink y.cls ix Lib.objectInit).before a0 Z = true) (w2 : (Jvm.Cond.instanceMethod Lib.objectInit).before a0 Z = true) (w3 : (Jvm.Cond.code Lib.objectInit ⟨#[0xb1]⟩ 1 none).before a0 Z = true)
    (hz : Ls.size = ml) (hf : Nat.ble 1 R.frames = true) (hl : Nat.ble ((st.map fun v => v.category).sum + 12) R.locals = true) (G : Go X R Z a0 EL nw y bs ml rt Q kc ks sf h k n (mkF X.m pc' Ls st)) : Go X R Z a0 EL nw y bs ml rt Q kc ks sf h k n (mkF X.m pc Ls (.ref a :: st)) := by
  subst hp
  exact Go.same (fun F X1 eT hZ hown => initO X1 F.1 (Z := Z) hZ hown w1 w2 w3 eT (g := mkF X.m pc Ls (.ref a :: st)) rfl (by rw [F.2.2.1]; exact hz) rfl (hb F.2.1 hd) (ble hf) (W := (st.map fun v => v.category).sum) (by show 2 * 0 + _ ≤ _; omega) (ble hl)) G
/-- an array's clone() -/
theorem g_clone {ix cap : Nat} {ad : String} {a : Addr} {kA : ClassId} {ty : FieldType} {z : Int32} {vs : List Value} {d : Value} (hd : decode bs pc = .ok (.invokevirtual ix, 3)) (hp : pc + 3 = pc')
    (w1 : (Jvm.Cond.methodLink y.cls ix ⟨ad, "clone", "()Ljava/lang/Object;"⟩).before a0 Z = true) (w2 : (Jvm.Cond.sameMethod ad "java/lang/Object" "clone" "()Ljava/lang/Object;").before a0 Z = true) (w3 : (Jvm.Cond.native ⟨"java/lang/Object", "clone", "()Ljava/lang/Object;"⟩).before a0 Z = true)
    (w4 : (Jvm.Cond.instanceMethod ⟨"java/lang/Object", "clone", "()Ljava/lang/Object;"⟩).before a0 Z = true) (w5 : (Jvm.Cond.selects ad ⟨ad, "clone", "()Ljava/lang/Object;"⟩ ⟨"java/lang/Object", "clone", "()Ljava/lang/Object;"⟩).before a0 Z = true) (w6 : (Jvm.Cond.castable ad "java/lang/Cloneable").before a0 Z = true)
    (A : Arv Z h a kA ty z vs d) (E : Exa Z h a ad) (hz : Ls.size = ml) (hf : Nat.ble 1 R.frames = true) (hl : Nat.ble ((st.map fun v => v.category).sum + 14) R.locals = true) (hcap : z.toNatClampNeg ≤ cap) (hk : Nat.ble (k + 1) R.cells = true) (hn : Nat.ble (n + cap) R.slots = true)
    (G : ∀ h' b, b = h.size → Ext h h' → Arv Z h' b kA ty z vs d → Exa Z h' b ad → Go X R Z a0 EL nw y bs ml rt Q kc ks (b :: sf) h' (k + 1) (n + cap) (mkF X.m pc' Ls (.ref b :: st))) : Go X R Z a0 EL nw y bs ml rt Q kc ks sf h k n (mkF X.m pc Ls (.ref a :: st)) := fun T S => by
  subst hp
  obtain ⟨F, vm0, L, X1, eT, hS, hZ, hown, hC, hF, hE, hs, hN⟩ := S
  obtain ⟨c, Ar, k1, s1, n1, H, G1⟩ := A
  have hfit : FitC Z c := fitC_of Ar fun i hi v hv => by
    have q := H i hi
    rw [hv] at q
    cases q
    exact G1 i hi
  obtain ⟨T', h', X2, e2, E2, A2, B2, stp⟩ := cloneA X1 F.1 (Z := Z) hZ hown w1 w2 w3 w4 w5 w6 eT Ar E hfit (g := mkF X.m pc Ls (.ref a :: st)) rfl (by rw [F.2.2.1]; exact hz) rfl (hb F.2.1 hd) (ble hf) (W := (st.map fun v => v.category).sum) (cap := cap) (by show 2 * 0 + _ ≤ _; omega) (ble hl) (by rw [s1]; exact hcap) (ble hk) (ble hn)
  have A3 : Arv Z h' h.size kA ty z vs d := ⟨cloneOf c, A2, k1, s1, n1, H, G1⟩
  refine (G h' _ rfl E2 A3 B2 T' ?_).back stp
  exact ⟨F, vm0, _, X2, e2, ⟨hS.1, hS.2.mono E2.1⟩, hZ, hown, hC.trans (CHr.ext E2 hC.1), hF, ext_trans hE E2, fun x hx => by
    rcases List.mem_cons.mp hx with rfl | hx
    · exact ⟨A3.lt, Safe.ext E2 hC.1 (Safe.new (Nat.le_refl _))⟩
    · exact ⟨Nat.lt_of_lt_of_le (hs x hx).1 E2.1, Safe.ext E2 hC.1 (hs x hx).2⟩, hN⟩
/-! a String constant -/
theorem g_ldcS (hnw : nw = false) {text : String} {ix nn : Nat} {vs : List Value} {z : Int32} (hd : decode bs pc = .ok (.ldc ix, 2)) (hp : pc + 2 = pc') (w : (Jvm.Cond.stringLink y.cls ix text).before a0 Z = true) (wS : ∀ a ∈ Bundle.stringAtoms, a.before a0 Z = true) (hm : (y.cls, ix) ∈ EL)
    (ht : (∀ c ∈ text.toList, c.toNat < 256) ∧ text.toList.map (fun c => Value.int (Jvm.Lit.byteI c.toNat.toUInt16)) = vs) (hz : ¬ z < 0) (hl : z.toNatClampNeg = vs.length) (h4 : Nat.ble (4 * text.toList.length) nn = true) (hbig : Nat.ble nn 536870912 = true) (hk : Nat.ble (k + 2) R.cells = true) (hn : Nat.ble (n + (nn + 4)) R.slots = true)
    (G : ∀ h' a b kb, Ext h h' → Exa Z h' a "java/lang/String" → Fld Z h' a "java/lang/String" "coder" "B" (.int 0) → Fld Z h' a "java/lang/String" "value" "[B" (.ref b) → Arv Z h' b kb .byte z vs (.int 0) → (∀ x ∈ sf, x ≠ a ∧ x ≠ b) → Go X R Z a0 EL nw y bs ml rt Q kc ks sf h' (k + 2) (n + (nn + 4)) (mkF X.m pc' Ls (.ref a :: st))) : Go X R Z a0 EL nw y bs ml rt Q kc ks sf h k n (mkF X.m pc Ls st) := fun T S => by
  subst hp
  obtain ⟨F, vm0, L, X1, eT, hS, hZ, hown, hC, hF, hE, hs, hN⟩ := S
  obtain ⟨a, T', h', k1, b, kb, X2, e2, E2, hS2, hk2, hZ2, hown2, A1, A2, A3, A4, l1, l2, hC2, -, hne, q⟩ := ldcCH X1 F.1 (Z := Z) hZ hown w wS eT hS (Nat.le_refl _) F.2.2.2.2.2.2 hm hC.1 ht hz hl (g := mkF X.m pc Ls st) rfl (hb F.2.1 hd) (ble h4) (ble hbig) (ble hk) (ble hn)
  have hs' : ∀ x ∈ sf, x < h'.size ∧ Safe Z EL T'.vm h' x := fun x hx => ⟨Nat.lt_of_lt_of_le (hs x hx).1 E2.1, hC2.safe (hs x hx).1 (hs x hx).2⟩
  exact (G h' a b kb E2 A1 A2 A3 A4 (fun x hx => hne x (hs' x hx).2) T' ⟨F, T'.vm, L, X2, e2, ⟨hS2.1, hS2.2.mono hk2⟩, hZ2, hown2, hC.trans hC2, hF, ext_trans hE E2, hs', fun q => by rw [hnw] at q; cases q⟩).back q
/-! calls -/
/-- whoever pays the call of y on the arguments as', from the heap h: at most kc cells and ks slots made; Q of what comes back -/
def Pay (l : Launch) (R : Room) (y : MethodName) (W : Nat) (as' : Array Value) (Z : State) (a0 : Array Value) (EL : List (String × Nat)) (nw : Bool) (sf : List Addr) (h : Heap) (kc ks : Nat) (Q : Option Value → Heap → Prop) : Prop :=
  ∀ (p : Program) (e : Env) (below : List Frame) (s : State) (args : Array Value) (len : Nat) (vm0 : Vm), Z.Warmed39 vm0 → CHv Z EL vm0 h → Ext Z.heap h → (∀ x ∈ sf, x < h.size ∧ Safe Z EL vm0 h x) → EW Z a0 EL →
    BackS l R p e below (s.setVm vm0) args y len W (fun A a => a = as' ∧ A.U.heap = h ∧ A.cells + kc ≤ R.cells ∧ A.slots + ks ≤ R.slots)
      (fun A _ v B => ∃ L, (Q v B.U.heap ∧ Fr Z.heap.size L ∧ Ext Z.heap B.U.heap) ∧ B.locs = A.locs ++ L ∧ B.cells = A.cells + kc ∧ B.slots = A.slots + ks ∧ CHr Z EL vm0 h B.U.vm B.U.heap ∧ (nw = true → (s.setVm vm0).WarmedH B.U.vm))
/-- the contract of a method: walked from its entry -/
def MetW (ws : List Jvm.Cond) (l : Launch) (y : MethodName) (bs : ByteArray) (ml : Nat) (rt : Option FieldType) (rm : Room) (as' : Array Value) (Z : State) (a0 : Array Value) (EL : List (String × Nat)) (nw : Bool) (sf : List Addr) (h : Heap) (Q : Option Value → Heap → Prop) : Prop :=
  MetFree l y (head1 (Jvm.Cond.code y bs ml rt :: ws) rm) (fun a U => a = as' ∧ Z.Warmed39 U.vm ∧ U.heap = h ∧ CHv Z EL U.vm h ∧ Ext Z.heap h ∧ EW Z a0 EL ∧ ∀ x ∈ sf, x < h.size ∧ Safe Z EL U.vm h x) (fun _ _ _ _ _ => True)
    (fun _ U o U' => ∃ v L, o = .returned v ∧ (Q v U'.heap ∧ Fr Z.heap.size L ∧ Ext Z.heap U'.heap) ∧ CHr Z EL U.vm U.heap U'.vm U'.heap ∧ (nw = true → U.WarmedH U'.vm) ∧ ReturnedEndW U o U' L rm.cells rm.slots)
theorem MetW.of {ws : List Jvm.Cond} {l : Launch} {rm : Room} {as' : Array Value} (hpl : plainFor y = true)
    (H : ∀ X : Cx, X.l = l → Go X rm Z a0 EL nw y bs ml rt Q rm.cells rm.slots sf h 0 0 (entryFrame X.m as' ml)) : MetW ws l y bs ml rt rm as' Z a0 EL nw sf h Q := by
  refine MetFree.of_bodySF hpl hisR ?_
  intro p e s m args below meth c s₁ Bd hml0 hP hK
  obtain ⟨rfl, hZ, rfl, hC, hE, hEL, hs⟩ := hP
  have e0 : s₁.heap = s.heap := by rw [Bd.state]; rfl
  exact H (p, l, e, s, m, args, below, meth, c) rfl s₁ ⟨⟨Bd.exec, Bd.bytes, hml0, Bd.returns, (name_of_methodNamed Bd.named Bd.method).1, Bd.notSynchronized, hEL⟩, s.vm, [], Stand.of_body Bd, e0, (State.WarmedH.refl s).since _, hZ, findClass_of_methodNamed Bd.named, CHr.refl hC, Fr.nil _, hE, hs, fun _ => State.WarmedH.refl s⟩
theorem Pay.of_met {l : Launch} {rm : Room} {as' : Array Value} {W : Nat} (hM : MetW [] l y bs ml rt rm as' Z a0 EL nw sf h Q) (wc : (Jvm.Cond.code y bs ml rt).before a0 Z = true) (wz : (Jvm.Cond.initialized y.cls).before a0 Z = true) (hf : Nat.ble (rm.frames + 1) R.frames = true) (hl : Nat.ble (W + (ml + 11) + rm.locals) R.locals = true) :
    Pay l R y W as' Z a0 EL nw sf h rm.cells rm.slots Q := fun p e below s args len vm0 hZ H hE hs hEL =>
  BackS.of_freeW (bytes := bs) (maxL := ml) (ret := rt) (E := fun _ first o t L k n => k = rm.cells ∧ n = rm.slots ∧ (∃ v, o = .returned v ∧ Q v t.heap ∧ Fr Z.heap.size L ∧ Ext Z.heap t.heap) ∧ CHr Z EL first.vm first.heap t.vm t.heap ∧ (nw = true → first.WarmedH t.vm)) hM (ble hf) (ble hl)
    (fun m meth c A a Y hp => have hU : Z.Warmed39 A.U.vm := wtrans (s := s.setVm vm0) hZ Y.warmed
      ⟨by show (Jvm.Cond.and _ .tt).before a A.U = true; rw [Cond.before_and, mv hU wc]; rfl, mv hU wc, mv hU wz, hp.2.2.1, hp.2.2.2⟩)
    (fun m meth c A a g mk Y hp => ⟨hp.1, wtrans (s := s.setVm vm0) hZ Y.warmed, hp.2.1, (CHv.at Y hZ hEL H).1, hE, hEL, fun x hx => ⟨(hs x hx).1, (CHv.at Y hZ hEL H).safe (hs x hx).1 (hs x hx).2⟩⟩) (fun _ _ _ _ _ _ _ _ _ => trivial)
    (fun _ _ _ _ ⟨v, L, h1, h2, h3, h5, h4⟩ => ⟨L, _, _, h4, rfl, rfl, ⟨v, h1, h2⟩, h3, h5⟩)
    (fun m meth c A a g mk v t L k n Y hp _ _ ⟨e1, e2, ⟨v', e3, e4⟩, e5, e6⟩ => by
      cases e3; subst e1 e2
      refine ⟨L, e4, rfl, rfl, rfl, (CHv.at Y hZ hEL H).trans ?_, fun q => State.WarmedH.trans Y.warmed (e6 q)⟩
      rw [← hp.2.1]; exact e5)
/-- a law of the other texts, that interns nothing: what it writes are cells made since the start, no literal's -/
theorem Pay.of_back {l : Launch} {as' : Array Value} {W : Nat} {Q0 : Option Value → Heap → List Loc → Prop} (wsl : List Addr)
    (hB : ∀ (p : Program) (e : Env) (below : List Frame) (s : State) (args : Array Value) (len : Nat), Z.Warmed39 s.vm → Back l R p e below s args y len W (fun A a => a = as' ∧ A.U.heap = h ∧ A.cells + kc ≤ R.cells ∧ A.slots + ks ≤ R.slots) (fun A _ v B => ∃ L, Q0 v B.U.heap L ∧ B.locs = A.locs ++ L ∧ B.cells = A.cells + kc ∧ B.slots = A.slots + ks))
    (hw : ∀ x ∈ wsl, x ∈ sf ∧ Z.heap.size ≤ x) (hQ : ∀ v h' L, Q0 v h' L → Q v h' ∧ Keep h h' wsl ∧ Fr Z.heap.size L) : Pay l R y W as' Z a0 EL nw sf h kc ks Q := fun p e below s args len vm0 hZ H hE hs hEL m meth c A g ig mk a X1 hg hsize hdg hW hn hp => by
  obtain ⟨v, B, X2, ⟨L, hq, e1, e2, e3⟩, stp⟩ := hB p e below (s.setVm vm0) args len hZ m meth c A g ig mk a X1 hg hsize hdg hW hn hp
  obtain ⟨q1, q2, q3⟩ := hQ _ _ _ hq
  have hC2 : CHr Z EL vm0 h vm0 B.U.heap := CHr.keep q2 (fun x hx => (hs x (hw x hx).1).2) H
  have hsz : A.U.heap.size ≤ B.U.heap.size := by rw [hp.2.1]; exact q2.1
  exact ⟨v, B, X2.retabled X2.warmed.wide, X2.warmed.since _, hsz, ⟨L, ⟨q1, q3, ext_keep hE q2 fun x hx => (hw x hx).2⟩, e1, e2, e3, hC2.trans (CHv.at X2 hZ hEL hC2.1), fun _ => X2.warmed⟩, stp⟩
theorem Pay.pure {l : Launch} {as' : Array Value} {W : Nat} {P : Option Value → Prop}
    (hB : ∀ (p : Program) (e : Env) (below : List Frame) (s : State) (args : Array Value) (len : Nat), Z.Warmed39 s.vm → Back l R p e below s args y len W (fun A a => a = as' ∧ A.U.heap = h ∧ A.cells + 0 ≤ R.cells ∧ A.slots + 0 ≤ R.slots) (fun A _ v B => ∃ L, (P v ∧ L = [] ∧ B.U.heap = h) ∧ B.locs = A.locs ++ L ∧ B.cells = A.cells + 0 ∧ B.slots = A.slots + 0)) : Pay l R y W as' Z a0 EL nw sf h 0 0 (fun v h' => P v ∧ h' = h) :=
  Pay.of_back (Q0 := fun v h' L => P v ∧ L = [] ∧ h' = h) [] hB (fun _ q => nomatch q) fun v h' L q => by
    obtain ⟨q1, rfl, rfl⟩ := q
    exact ⟨⟨q1, rfl⟩, Keep.refl _ _, Fr.nil _⟩
theorem Pay.weak {l : Launch} {as' : Array Value} {W : Nat} {Q' : Option Value → Heap → Prop} (P : Pay l R y W as' Z a0 EL nw sf h kc ks Q) (hQ : ∀ v h', Q v h' → Q' v h') : Pay l R y W as' Z a0 EL nw sf h kc ks Q' := fun p e below s args len vm0 hZ H hE hs hEL m meth c A g ig mk a X1 hg hsize hdg hW hn hp => by
  obtain ⟨v, B, X2, h1, h2, ⟨L, ⟨q1, q2⟩, r⟩, stp⟩ := P p e below s args len vm0 hZ H hE hs hEL m meth c A g ig mk a X1 hg hsize hdg hW hn hp
  exact ⟨v, B, X2, h1, h2, ⟨L, ⟨hQ _ _ q1, q2⟩, r⟩, stp⟩
/-- behind any call -/
theorem Go.back {vm0 : Vm} {L : List Loc} {kc' ks' : Nat} {Q' : Option Value → Heap → Prop} {v : Option Value} {B : Pt} (F : Fix X Z a0 EL y bs ml rt) (eT : T.heap = h) (hS : X.s.Since vm0 h.size) (hZ : Z.Warmed39 vm0) (hown : vm0.findClass y.cls = some X.m.cls) (hC : CHr Z EL X.s.vm X.s.heap vm0 h) (hF : Fr Z.heap.size L) (hs : ∀ x ∈ sf, x < h.size ∧ Safe Z EL vm0 h x)
    (X2 : Stand X.p X.l X.e R ((X.s.setVm vm0).setVm B.U.vm) X.m X.args X.below X.meth X.c B.U B.locs B.cells B.slots) (hS2 : (X.s.setVm vm0).Since B.U.vm B.U.heap.size) (hle : T.heap.size ≤ B.U.heap.size)
    (hq : ∃ L', (Q' v B.U.heap ∧ Fr Z.heap.size L' ∧ Ext Z.heap B.U.heap) ∧ B.locs = L ++ L' ∧ B.cells = k + kc' ∧ B.slots = n + ks' ∧ CHr Z EL vm0 h B.U.vm B.U.heap ∧ (nw = true → (X.s.setVm vm0).WarmedH B.U.vm)) (hN : nw = true → X.s.WarmedH vm0)
    (G : ∀ v h', Q' v h' → h.size ≤ h'.size → Go X R Z a0 EL nw y bs ml rt Q kc ks sf h' (k + kc') (n + ks') (mkF X.m pc' Ls (v.toList ++ st))) : Done X Z EL nw Q kc ks B.U (mkF X.m pc' Ls (v.toList ++ st)) := by
  subst eT
  obtain ⟨L', ⟨q1, q2, q3⟩, e1, e2, e3, hC2, hN2⟩ := hq
  rw [e1, e2, e3] at X2
  exact G v B.U.heap q1 hle B.U ⟨F, B.U.vm, _, X2, rfl, hS.trans hS2 hle, State.Warmed39.trans (t := X.s.setVm vm0) hZ hS2.1, (hS2.1.alike.findClass _ _).trans hown, hC.trans hC2, hF.app q2, q3, fun x hx => ⟨Nat.lt_of_lt_of_le (hs x hx).1 hle, hC2.safe (hs x hx).1 (hs x hx).2⟩, fun q => State.WarmedH.trans (hN q) (hN2 q)⟩
theorem g_invokestatic {ix : Nat} {y' : MethodName} {bs' : ByteArray} {ml' : Nat} {rt' : Option FieldType} {as' : Array Value} {kc' ks' : Nat} {Q' : Option Value → Heap → Prop} (sfc : List Addr) (argsL : List Value) {ps : List FieldType} {r : Option FieldType} (hd : decode bs pc = .ok (.invokestatic ix, 3)) (hp : pc + 3 = pc')
    (w1 : (Jvm.Cond.methodLink y.cls ix y').before a0 Z = true) (w2 : (Jvm.Cond.static y').before a0 Z = true) (w3 : (Jvm.Cond.initialized y'.cls).before a0 Z = true) (w4 : (Jvm.Cond.code y' bs' ml' rt').before a0 Z = true) (hy : y'.cls ≠ "java/lang/invoke/MethodHandle" ∧ y'.cls ≠ "java/lang/invoke/VarHandle")
    (P : Pay X.l R y' (st.map fun v => v.category).sum as' Z a0 EL nw sfc h kc' ks' Q') (hpd : parseMethodDescriptor y'.desc = some ⟨ps, r⟩) (hlen : argsL.length = ps.length) (hargs : argsL.toArray = as') (hz : Ls.size = ml) (hk : Nat.ble (k + kc') R.cells = true) (hn : Nat.ble (n + ks') R.slots = true) (hsf : ∀ x ∈ sfc, x ∈ sf)
    (G : ∀ v h', Q' v h' → h.size ≤ h'.size → Go X R Z a0 EL nw y bs ml rt Q kc ks sf h' (k + kc') (n + ks') (mkF X.m pc' Ls (v.toList ++ st))) : Go X R Z a0 EL nw y bs ml rt Q kc ks sf h k n (mkF X.m pc Ls (argsL.reverse ++ st)) := fun T S => by
  subst hp
  obtain ⟨F, vm0, L, X1, eT, hS, hZ, hown, hC, hF, hE, hs, hN⟩ := S
  obtain ⟨v, vm1, B, -, X2, hS2, hle, hq, stp⟩ := callSS X1 F.1 (y := y') hown (mvT (s := X.s.setVm vm0) hZ w1) (mvT (s := X.s.setVm vm0) hZ w2) (mvT (s := X.s.setVm vm0) hZ w3) (mvT (s := X.s.setVm vm0) hZ w4) hy (P _ _ _ _ _ _ vm0 hZ hC.1 hE (fun x hx => hs x (hsf x hx)) F.2.2.2.2.2.2) (g := mkF X.m pc Ls (argsL.reverse ++ st)) rfl (by rw [F.2.2.1]; exact hz) (argsL := argsL) (rest := st) (lenOf hpd hlen) rfl (by show 2 * 0 + _ ≤ _; omega) (hb F.2.1 hd) (fun _ _ => ⟨hargs, eT, ble hk, ble hn⟩)
  exact (Go.back F eT hS hZ hown hC hF hs X2 hS2 hle hq hN G).back fun t q => stp.trans q
theorem g_invokespecial {ix : Nat} {y' : MethodName} {bs' : ByteArray} {ml' : Nat} {as' : Array Value} {kc' ks' : Nat} {Q' : Option Value → Heap → Prop} (sfc : List Addr) {a : Addr} (argsL : List Value) {ps : List FieldType} {r : Option FieldType} (hd : decode bs pc = .ok (.invokespecial ix, 3)) (hp : pc + 3 = pc') (hi : y'.name = "<init>")
    (w1 : (Jvm.Cond.methodLink y.cls ix y').before a0 Z = true) (w2 : (Jvm.Cond.instanceMethod y').before a0 Z = true) (w4 : (Jvm.Cond.code y' bs' ml' none).before a0 Z = true) (hy : y'.cls ≠ "java/lang/invoke/MethodHandle" ∧ y'.cls ≠ "java/lang/invoke/VarHandle")
    (P : Pay X.l R y' (st.map fun v => v.category).sum as' Z a0 EL nw sfc h kc' ks' Q') (hpd : parseMethodDescriptor y'.desc = some ⟨ps, r⟩) (hlen : argsL.length = ps.length) (hargs : (Value.ref a :: argsL).toArray = as') (hz : Ls.size = ml) (hk : Nat.ble (k + kc') R.cells = true) (hn : Nat.ble (n + ks') R.slots = true) (hsf : ∀ x ∈ sfc, x ∈ sf)
    (G : ∀ v h', Q' v h' → h.size ≤ h'.size → Go X R Z a0 EL nw y bs ml rt Q kc ks sf h' (k + kc') (n + ks') (mkF X.m pc' Ls (v.toList ++ st))) : Go X R Z a0 EL nw y bs ml rt Q kc ks sf h k n (mkF X.m pc Ls (argsL.reverse ++ .ref a :: st)) := fun T S => by
  subst hp
  obtain ⟨F, vm0, L, X1, eT, hS, hZ, hown, hC, hF, hE, hs, hN⟩ := S
  obtain ⟨v, vm1, B, -, X2, hS2, hle, hq, stp⟩ := X1.specialBackS F.1 (y := y') hi hown (mvT (s := X.s.setVm vm0) hZ w1) (mvT (s := X.s.setVm vm0) hZ w2) (mvT (s := X.s.setVm vm0) hZ w4) hy (P _ _ _ _ _ _ vm0 hZ hC.1 hE (fun x hx => hs x (hsf x hx)) F.2.2.2.2.2.2) (g := mkF X.m pc Ls (argsL.reverse ++ .ref a :: st)) rfl (by rw [F.2.2.1]; exact hz) (Steps.refl _) (a := a) (argsL := argsL) (rest := st) (lenOf hpd hlen) rfl (by show 2 * 0 + _ ≤ _; omega) (hb F.2.1 hd) (fun _ _ => ⟨hargs, eT, ble hk, ble hn⟩)
  exact (Go.back F eT hS hZ hown hC hF hs X2 hS2 hle hq hN G).back fun t q => stp.trans q
def NF (Z : State) (y : MethodName) : Prop := ∀ s : State, Z.Warmed39 s.vm → NotFace s y
theorem g_invokevirtualN {ix : Nat} {C : String} {y' z' : MethodName} {as' : Array Value} {kc' ks' : Nat} {Q' : Option Value → Heap → Prop} (sfc : List Addr) {a : Addr} (argsL : List Value) {ps : List FieldType} {r : Option FieldType} (hd : decode bs pc = .ok (.invokevirtual ix, 3)) (hp : pc + 3 = pc')
    (w1 : (Jvm.Cond.methodLink y.cls ix y').before a0 Z = true) (w2 : (Jvm.Cond.declares y').before a0 Z = true) (w3 : (Jvm.Cond.selects C y' z').before a0 Z = true) (w4 : (Jvm.Cond.instanceMethod z').before a0 Z = true) (hy : y'.cls ≠ "java/lang/invoke/MethodHandle" ∧ y'.cls ≠ "java/lang/invoke/VarHandle")
    (hnf : NF Z y') (E : Exa Z h a C) (P : Pay X.l R z' (st.map fun v => v.category).sum as' Z a0 EL nw sfc h kc' ks' Q') (hpd : parseMethodDescriptor y'.desc = some ⟨ps, r⟩) (hlen : argsL.length = ps.length) (hargs : (Value.ref a :: argsL).toArray = as') (hz : Ls.size = ml) (hk : Nat.ble (k + kc') R.cells = true) (hn : Nat.ble (n + ks') R.slots = true) (hsf : ∀ x ∈ sfc, x ∈ sf)
    (G : ∀ v h', Q' v h' → h.size ≤ h'.size → Go X R Z a0 EL nw y bs ml rt Q kc ks sf h' (k + kc') (n + ks') (mkF X.m pc' Ls (v.toList ++ st))) : Go X R Z a0 EL nw y bs ml rt Q kc ks sf h k n (mkF X.m pc Ls (argsL.reverse ++ .ref a :: st)) := fun T S => by
  subst hp
  obtain ⟨F, vm0, L, X1, eT, hS, hZ, hown, hC, hF, hE, hs, hN⟩ := S
  obtain ⟨cq, kq, qa, qb, qc⟩ := isOf (s := X.s.setVm vm0) hZ eT E
  obtain ⟨v, vm1, B, -, X2, hS2, hle, hq, stp⟩ := X1.virtualBackS F.1 (y := y') (z := z') hown (mvT (s := X.s.setVm vm0) hZ w1) (mvT (s := X.s.setVm vm0) hZ w2) (hnf (X.s.setVm vm0) hZ) (mvT (s := X.s.setVm vm0) hZ w3) (mvT (s := X.s.setVm vm0) hZ w4) hy (P _ _ _ _ _ _ vm0 hZ hC.1 hE (fun x hx => hs x (hsf x hx)) F.2.2.2.2.2.2) qa qc (g := mkF X.m pc Ls (argsL.reverse ++ .ref a :: st)) rfl (by rw [F.2.2.1]; exact hz) (Steps.refl _) (argsL := argsL) (rest := st) (lenOf hpd hlen) rfl (by show 2 * 0 + _ ≤ _; omega) (hb F.2.1 hd) (fun _ _ => ⟨hargs, eT, ble hk, ble hn⟩)
  exact (Go.back F eT hS hZ hown hC hF hs X2 hS2 hle hq hN G).back fun t q => stp.trans q
theorem NF.sel {C : String} {y' : MethodName} (w3 : (Jvm.Cond.selects C y' y').before a0 Z = true) : NF Z y' := fun s hZ => notFace_of_selects (args := #[]) (mvT (s := s) hZ w3)
theorem g_invokevirtual {ix : Nat} {C : String} {y' : MethodName} {as' : Array Value} {kc' ks' : Nat} {Q' : Option Value → Heap → Prop} (sfc : List Addr) {a : Addr} (argsL : List Value) {ps : List FieldType} {r : Option FieldType} (hd : decode bs pc = .ok (.invokevirtual ix, 3)) (hp : pc + 3 = pc')
    (w1 : (Jvm.Cond.methodLink y.cls ix y').before a0 Z = true) (w2 : (Jvm.Cond.declares y').before a0 Z = true) (w3 : (Jvm.Cond.selects C y' y').before a0 Z = true) (w4 : (Jvm.Cond.instanceMethod y').before a0 Z = true) (hy : y'.cls ≠ "java/lang/invoke/MethodHandle" ∧ y'.cls ≠ "java/lang/invoke/VarHandle")
    (E : Exa Z h a C) (P : Pay X.l R y' (st.map fun v => v.category).sum as' Z a0 EL nw sfc h kc' ks' Q') (hpd : parseMethodDescriptor y'.desc = some ⟨ps, r⟩) (hlen : argsL.length = ps.length) (hargs : (Value.ref a :: argsL).toArray = as') (hz : Ls.size = ml) (hk : Nat.ble (k + kc') R.cells = true) (hn : Nat.ble (n + ks') R.slots = true) (hsf : ∀ x ∈ sfc, x ∈ sf)
    (G : ∀ v h', Q' v h' → h.size ≤ h'.size → Go X R Z a0 EL nw y bs ml rt Q kc ks sf h' (k + kc') (n + ks') (mkF X.m pc' Ls (v.toList ++ st))) : Go X R Z a0 EL nw y bs ml rt Q kc ks sf h k n (mkF X.m pc Ls (argsL.reverse ++ .ref a :: st)) :=
  g_invokevirtualN sfc argsL hd hp w1 w2 w3 w4 hy (NF.sel w3) E P hpd hlen hargs hz hk hn hsf G
end Kit
end Own
open Own
namespace Own
open Jvm Jvm.ClassFile Sem Op Lib Jvm.Free Jvm.Stand Jvm.LawKit Jvm.RoadKit Bundle
/-- a boolean as an int -/
def b01 (b : Bool) : Int32 := if b then 1 else 0
theorem in0 {P : Int32 → Prop} : ∀ c ∈ ([] : List Int32), P c := fun _ q => nomatch q
theorem inS {P : Int32 → Prop} {c : Int32} {cs : List Int32} (q : P c) (r : ∀ x ∈ cs, P x) : ∀ x ∈ c :: cs, P x := fun x z => (List.mem_cons.mp z).elim (fun u => u ▸ q) (r x)
theorem i32_nat {c : Int32} (h0 : ¬ c < 0) : (c.toBitVec.toNat : Int) = c.toInt ∧ c.toBitVec.toNat < 2147483648 := by
  have h := c.toBitVec.isLt
  have e : c.toInt = c.toBitVec.toInt := rfl
  rw [Int32.lt_iff_toInt_lt] at h0
  have z : (0 : Int32).toInt = 0 := rfl
  rw [BitVec.toInt_eq_toNat_cond] at e
  split at e <;> omega
theorem c16_of {c : Int32} (h0 : ¬ c < 0) (h1 : ¬ (65535 : Int32) < c) : c.toUInt32.toUInt16.toUInt32.toInt32 = c := by
  obtain ⟨e, -⟩ := i32_nat h0
  have u : c.toInt ≤ 65535 := by
    rw [Int32.lt_iff_toInt_lt] at h1
    have z : (65535 : Int32).toInt = 65535 := rfl
    omega
  apply Int32.toBitVec_inj.mp
  apply BitVec.eq_of_toNat_eq
  show ((c.toBitVec.setWidth 16).setWidth 32).toNat = c.toBitVec.toNat
  rw [BitVec.toNat_setWidth, BitVec.toNat_setWidth]
  omega
theorem and_lt {x : Int32} (k : Nat) (hk : k < 2147483648) : ¬ (x &&& Int32.ofNat k) < 0 ∧ (x &&& Int32.ofNat k).toInt ≤ k := by
  have h : (x &&& Int32.ofNat k).toBitVec.toNat ≤ k := by
    rw [Int32.toBitVec_and, BitVec.toNat_and]
    refine Nat.le_trans Nat.and_le_right ?_
    show (BitVec.ofNat 32 k).toNat ≤ k
    rw [BitVec.toNat_ofNat]
    exact Nat.mod_le _ _
  have e : (x &&& Int32.ofNat k).toInt = (x &&& Int32.ofNat k).toBitVec.toInt := rfl
  rw [BitVec.toInt_eq_toNat_cond] at e
  have z : (0 : Int32).toInt = 0 := rfl
  rw [Int32.lt_iff_toInt_lt, z]
  split at e <;> omega
theorem and255 (x : Int32) : ¬ (x &&& 255) < 0 ∧ ¬ (255 : Int32) < (x &&& 255) := by
  obtain ⟨h1, h2⟩ := and_lt (x := x) 255 (by decide)
  refine ⟨h1, ?_⟩
  rw [Int32.lt_iff_toInt_lt]
  have z : (255 : Int32).toInt = 255 := rfl
  rw [z]
  have h2 : (x &&& 255).toInt ≤ 255 := h2
  omega
theorem to65 {c : Int32} (h : ¬ (255 : Int32) < c) : ¬ (65535 : Int32) < c := by
  rw [Int32.lt_iff_toInt_lt] at h ⊢
  have z : (255 : Int32).toInt = 255 := rfl
  have z' : (65535 : Int32).toInt = 65535 := rfl
  omega
/-- (char) (x & 255) -/
theorem c255 (x : Int32) : (x &&& 255).toUInt32.toUInt16.toUInt32.toInt32 = (x &&& 255) := c16_of (and255 x).1 (to65 (and255 x).2)
theorem nar_c (x : Int32) : nar .char x = x.toUInt32.toUInt16.toUInt32.toInt32 := rfl
theorem nar8 {c : Int32} (h : ¬ c < 0 ∧ ¬ (255 : Int32) < c) : nar .char c = c := c16_of h.1 (to65 h.2)
theorem nar16 {c : Int32} (h : ¬ c < 0 ∧ ¬ (65535 : Int32) < c) : nar .char c = c := c16_of h.1 h.2
theorem c16_range (x : Int32) : ¬ x.toUInt32.toUInt16.toUInt32.toInt32 < 0 ∧ ¬ (65535 : Int32) < x.toUInt32.toUInt16.toUInt32.toInt32 := by
  have e : (x.toUInt32.toUInt16.toUInt32.toInt32).toInt = ((x.toBitVec.setWidth 16).setWidth 32).toInt := rfl
  rw [BitVec.toInt_eq_toNat_cond, BitVec.toNat_setWidth, BitVec.toNat_setWidth] at e
  have z : (0 : Int32).toInt = 0 := rfl
  have z' : (65535 : Int32).toInt = 65535 := rfl
  rw [Int32.lt_iff_toInt_lt, Int32.lt_iff_toInt_lt, z, z']
  split at e <;> omega
theorem nar_idem (x : Int32) : nar .char (x.toUInt32.toUInt16.toUInt32.toInt32) = x.toUInt32.toUInt16.toUInt32.toInt32 := nar16 (c16_range x)
theorem ok8 (x : Int32) : ¬ (x &&& 255).toUInt32.toUInt16.toUInt32.toInt32 < 0 ∧ ¬ (255 : Int32) < (x &&& 255).toUInt32.toUInt16.toUInt32.toInt32 := by rw [c255]; exact and255 x
theorem and_small {x : Int32} {P : Int32 → Prop} (k : Nat) (hk : k < 2147483648) (h : ∀ i : Nat, i ≤ k → P (Int32.ofNat i)) : P (x &&& Int32.ofNat k) := by
  obtain ⟨h1, h2⟩ := and_lt (x := x) k hk
  obtain ⟨e, -⟩ := i32_nat h1
  have := h (x &&& Int32.ofNat k).toBitVec.toNat (by omega)
  have e2 : Int32.ofNat (x &&& Int32.ofNat k).toBitVec.toNat = (x &&& Int32.ofNat k) := by
    apply Int32.toBitVec_inj.mp
    show BitVec.ofNat 32 _ = _
    rw [BitVec.ofNat_toNat]; simp
  rw [e2] at this
  exact this
theorem toInt_ofNat {a : Nat} (ha : a < 2147483648) : (Int32.ofNat a).toInt = a := Int32.toInt_ofNat_small (by omega)
theorem ofNat_lt {a b : Nat} (ha : a < 2147483648) (hb : b < 2147483648) : Int32.ofNat a < Int32.ofNat b ↔ a < b := by
  rw [Int32.lt_iff_toInt_lt, toInt_ofNat ha, toInt_ofNat hb]; omega
theorem ofNat_nn {a : Nat} (ha : a < 2147483648) : ¬ Int32.ofNat a < 0 := by
  rw [Int32.lt_iff_toInt_lt, toInt_ofNat ha]
  have z : (0 : Int32).toInt = 0 := rfl
  omega
theorem ofNat_clamp {a : Nat} (ha : a < 2147483648) : (Int32.ofNat a).toNatClampNeg = a := by
  show (Int32.ofNat a).toInt.toNat = a
  rw [toInt_ofNat ha]; rfl
theorem nn_ofNat {c : Int32} (h : ¬ c < 0) : ∃ m : Nat, m < 2147483648 ∧ c = Int32.ofNat m := by
  have hh : ¬ c < 0 := h
  have b := c.toBitVec.isLt
  have e : c.toInt = c.toBitVec.toInt := rfl
  rw [Int32.lt_iff_toInt_lt] at hh
  have z : (0 : Int32).toInt = 0 := rfl
  rw [BitVec.toInt_eq_toNat_cond] at e
  refine ⟨c.toBitVec.toNat, by split at e <;> omega, ?_⟩
  apply Int32.toBitVec_inj.mp
  show _ = BitVec.ofNat 32 _
  rw [BitVec.ofNat_toNat]; simp
theorem ofNat_succ (a : Nat) : Int32.ofNat a + Int32.ofInt 1 = Int32.ofNat (a + 1) := by
  apply Int32.toBitVec_inj.mp
  show BitVec.ofNat 32 a + BitVec.ofInt 32 1 = BitVec.ofNat 32 (a + 1)
  apply BitVec.eq_of_toNat_eq
  simp [BitVec.toNat_add, BitVec.toNat_ofNat]
theorem mod_ofNat {m d : Nat} (hm : m < 2147483648) (hd : d < 2147483648) (h0 : 0 < d) : Int32.ofNat m % Int32.ofNat d = Int32.ofNat (m % d) := by
  have hlt := Nat.mod_lt m h0
  apply Int32.toInt_inj.mp
  rw [Int32.toInt_mod, toInt_ofNat hm, toInt_ofNat hd, toInt_ofNat (by omega)]
  exact (Int.ofNat_tmod m d).symm
theorem ofNat_inj {a b : Nat} (ha : a < 2147483648) (hb : b < 2147483648) : Int32.ofNat a = Int32.ofNat b ↔ a = b := by
  rw [← Int32.toInt_inj, toInt_ofNat ha, toInt_ofNat hb]; omega
theorem ok8L (y : Int64) : ¬ (y &&& 255).toInt32.toUInt32.toUInt16.toUInt32.toInt32 < 0 ∧ ¬ (255 : Int32) < (y &&& 255).toInt32.toUInt32.toUInt16.toUInt32.toInt32 := by
  have b : (y.toBitVec &&& (255 : BitVec 64)).toNat ≤ 255 := by
    rw [BitVec.toNat_and]
    exact Nat.and_le_right
  have e : (y &&& 255).toInt32.toInt = ((y.toBitVec &&& (255 : BitVec 64)).signExtend 32).toInt := rfl
  rw [BitVec.signExtend_eq_setWidth_of_le _ (by decide)] at e
  rw [BitVec.toInt_eq_toNat_cond, BitVec.toNat_setWidth] at e
  have z : (0 : Int32).toInt = 0 := rfl
  have z' : (255 : Int32).toInt = 255 := rfl
  have h : ¬ (y &&& 255).toInt32 < 0 ∧ ¬ (255 : Int32) < (y &&& 255).toInt32 := by
    rw [Int32.lt_iff_toInt_lt, Int32.lt_iff_toInt_lt, z, z']
    split at e <;> omega
  rw [c16_of h.1 (to65 h.2)]
  exact h
end Own
namespace Own
open Jvm Jvm.ClassFile Sem Op Lib Jvm.Free Jvm.Stand Jvm.LawKit Jvm.RoadKit Bundle
section Strs
variable {X : Cx} {l : Launch} {R : Room} {Z : State} {a0 : Array Value} {EL : List (String × Nat)} {nw : Bool} {sf : List Addr} {h h' : Heap} {W : Nat} {x x' b : Addr} {cs ds : List Int32}
/-- at x stands a String that spells cs -/
def Str (Z : State) (h : Heap) (x : Addr) (cs : List Int32) : Prop :=
  Exa Z h x "java/lang/String" ∧ ∃ (t : Addr) (kb : ClassId) (cd N2 : Int32) (vs : List Value), Fld Z h x "java/lang/String" "value" "[B" (.ref t) ∧ Fld Z h x "java/lang/String" "coder" "B" (.int cd) ∧ Arv Z h t kb .byte N2 vs (.int 0) ∧ StrChars.Road.CodA cs cd N2 vs ∧ (∀ c ∈ cs, ¬ c < 0 ∧ ¬ (65535 : Int32) < c) ∧ cs.length ≤ 4000
theorem Str.ext (S : Str Z h x cs) (E : Ext h h') : Str Z h' x cs := by
  obtain ⟨E1, t, kb, cd, N2, vs, h1, h2, h3, r⟩ := S
  exact ⟨E1.ext E, t, kb, cd, N2, vs, h1.ext E, h2.ext E, h3.ext E, r⟩
theorem Str.exa (S : Str Z h x cs) : Exa Z h x "java/lang/String" := S.1
theorem Str.lt (S : Str Z h x cs) : x < h.size := S.1.lt
theorem up255 (q : ∀ c ∈ cs, ¬ c < 0 ∧ ¬ (255 : Int32) < c) : ∀ c ∈ cs, ¬ c < 0 ∧ ¬ (65535 : Int32) < c := fun c hc => ⟨(q c hc).1, fun u => (q c hc).2 (by rw [Int32.lt_iff_toInt_lt] at u ⊢; have e1 : (65535 : Int32).toInt = 65535 := rfl; have e2 : (255 : Int32).toInt = 255 := rfl; omega)⟩
theorem Str.of_lit {kb : ClassId} {z : Int32} {vs : List Value} {t : Addr} (E : Exa Z h x "java/lang/String") (C : Fld Z h x "java/lang/String" "coder" "B" (.int 0)) (V : Fld Z h x "java/lang/String" "value" "[B" (.ref t)) (A : Arv Z h t kb .byte z vs (.int 0)) (hz : z = Int32.ofNat cs.length) (hv : vs = cs.map fun c => Value.int (StrChars.lo8 c)) (hc : ∀ c ∈ cs, ¬ c < 0 ∧ ¬ (255 : Int32) < c) (hl : cs.length ≤ 4000) : Str Z h x cs :=
  ⟨E, t, kb, 0, z, vs, V, C, A, Or.inl ⟨rfl, hz, hv, fun c q => (hc c q).2⟩, up255 hc, hl⟩
/-- a String constant, read -/
theorem g_lit {y : MethodName} {bs : ByteArray} {ml : Nat} {rt : Option FieldType} {Q : Option Value → Heap → Prop} {kc ks k n pc pc' : Nat} {Ls : Array Slot} {st : List Value} (hnw : nw = false) {text : String} {ix : Nat} (cs : List Int32) (nn : Nat) (hd : decode bs pc = .ok (.ldc ix, 2)) (hp : pc + 2 = pc') (w : (Jvm.Cond.stringLink y.cls ix text).before a0 Z = true) (wS : ∀ a ∈ Bundle.stringAtoms, a.before a0 Z = true) (hm : (y.cls, ix) ∈ EL)
    (ht : (∀ c ∈ text.toList, c.toNat < 256) ∧ text.toList.map (fun c => Value.int (Jvm.Lit.byteI c.toNat.toUInt16)) = cs.map fun c => Value.int (StrChars.lo8 c)) (hc : ∀ c ∈ cs, ¬ c < 0 ∧ ¬ (255 : Int32) < c) (hz : ¬ Int32.ofNat cs.length < 0) (hl : (Int32.ofNat cs.length).toNatClampNeg = cs.length) (hcl : Nat.ble cs.length 4000 = true) (h4 : Nat.ble (4 * text.toList.length) nn = true) (hbig : Nat.ble nn 536870912 = true) (hk : Nat.ble (k + 2) R.cells = true) (hn : Nat.ble (n + (nn + 4)) R.slots = true)
    (G : ∀ h' a, Ext h h' → Str Z h' a cs → (∀ x ∈ sf, x ≠ a) → Go X R Z a0 EL nw y bs ml rt Q kc ks sf h' (k + 2) (n + (nn + 4)) (mkF X.m pc' Ls (.ref a :: st))) : Go X R Z a0 EL nw y bs ml rt Q kc ks sf h k n (mkF X.m pc Ls st) :=
  g_ldcS hnw (z := Int32.ofNat cs.length) hd hp w wS hm ht hz (by rw [hl, List.length_map]) h4 hbig hk hn fun h' a b kb E A1 A2 A3 A4 hne => G h' a E (Str.of_lit A1 A2 A3 A4 rfl rfl hc (ble hcl)) fun x hx => (hne x hx).1
theorem pay_new {kC : ClassId} {N z : Int32} {d v0 c0 : Value} {n : Nat} (hws : ∀ d ∈ StrChars.Road.words, d.before a0 Z = true) (wi : (Jvm.Cond.instantiable "java/lang/String" 4).before a0 Z = true) (S : Sta Z Z.heap "java/lang/String" "COMPACT_STRINGS" "Z" (.int z)) (hz : ¬ z = 0) (EZ : Ext Z.heap h) (hx0 : Z.heap.size ≤ x)
    (E : Exa Z h x "java/lang/String") (V : Fld Z h x "java/lang/String" "value" "[B" v0) (C : Fld Z h x "java/lang/String" "coder" "B" c0) (K : Arv Z h b kC .char N (cs.map Value.int) d) (hn : cs.length = n) (hN : N = Int32.ofNat n) (l0 : Nat.ble 1 n = true) (l2 : Nat.ble n 4000 = true) (hp : ∀ c ∈ cs, ¬ c < 0 ∧ ¬ (255 : Int32) < c) (hfr : Nat.ble 4 R.frames = true) (hlo : Nat.ble (W + 65) R.locals = true) :
    Pay l R ⟨"java/lang/String", "<init>", "([C)V"⟩ W #[.ref x, .ref b] Z a0 EL nw [x] h 1 n (fun v h' => v = none ∧ Keep h h' [x] ∧ Str Z h' x cs) :=
  Pay.of_back [x] (fun p e below s args len hZ => StrChars.Road.backV (n0 := Z.heap.size) hZ hws (kI := 4) wi hx0 EZ.1 E V C K (S.ext EZ) hz hn hN (ble l0) (ble l2) hp rfl (ble hfr) (ble hlo)) (fun y hy => ⟨hy, by cases List.mem_singleton.mp hy; exact hx0⟩)
    (fun v h' L q => by
      obtain ⟨e1, N1, K1, E1, C1, t, kb, -, -, -, V1, A1⟩ := q
      exact ⟨⟨e1, K1, E1, t, kb, 0, N, _, V1, C1, A1, by rw [hN]; exact StrChars.Road.codOf hn (fun c hc => (hp c hc).2), up255 hp, by rw [hn]; exact ble l2⟩, K1, N1⟩)
theorem Str.lat (T : Str Z h x cs) (hp : ∀ c ∈ cs, ¬ (255 : Int32) < c) : ∃ (t : Addr) (kb : ClassId) (N2 : Int32) (vs : List Value), Fld Z h x "java/lang/String" "value" "[B" (.ref t) ∧ Fld Z h x "java/lang/String" "coder" "B" (.int 0) ∧ Arv Z h t kb .byte N2 vs (.int 0) ∧ StrChars.Road.CodA cs 0 N2 vs ∧ (∀ c ∈ cs, ¬ c < 0 ∧ ¬ (65535 : Int32) < c) ∧ cs.length ≤ 4000 := by
  obtain ⟨E1, t, kb, cd, N2, vs, V, C, A, hc, hb, hl⟩ := T
  have e : cd = 0 := by
    rcases hc with q | ⟨-, -, -, c, q1, q2⟩
    · exact q.1
    · exact absurd q2 (hp c q1)
  subst e
  exact ⟨t, kb, N2, vs, V, C, A, hc, hb, hl⟩
end Strs
end Own
namespace Own
open Jvm Jvm.ClassFile Sem Op Lib Jvm.Free Jvm.Stand Jvm.LawKit Jvm.RoadKit Bundle
section Strs
variable {X : Cx} {l : Launch} {R : Room} {Z : State} {a0 : Array Value} {EL : List (String × Nat)} {nw : Bool} {sf : List Addr} {h h' : Heap} {W : Nat} {x x' b : Addr} {cs ds : List Int32}
theorem pay_eq {z : Int32} (heq : ∀ d ∈ StrChars.Road.wordsEq, d.before a0 Z = true) (wi : (Jvm.Cond.instantiable "java/lang/String" 4).before a0 Z = true) (S : Sta Z Z.heap "java/lang/String" "COMPACT_STRINGS" "Z" (.int z)) (hz : ¬ z = 0) (EZ : Ext Z.heap h) (T : Str Z h x cs) (T' : Str Z h x' ds) (hfr : Nat.ble 2 R.frames = true) (hlo : Nat.ble (W + 28) R.locals = true) :
    Pay l R ⟨"java/lang/String", "equals", "(Ljava/lang/Object;)Z"⟩ W #[.ref x, .ref x'] Z a0 EL nw sf h 0 0 (fun v h' => ((v = some (.int 1) ∧ cs = ds) ∨ (v = some (.int 0) ∧ ¬ cs = ds)) ∧ h' = h) := by
  obtain ⟨E1, t, kb, cd, N2, vs, V, C, A, hc, hb, hl⟩ := T
  obtain ⟨E1', t', kb', cd', N2', vs', V', C', A', hc', hb', hl'⟩ := T'
  exact Pay.pure (P := fun v => (v = some (.int 1) ∧ cs = ds) ∨ (v = some (.int 0) ∧ ¬ cs = ds)) fun p e below s args len hZ => StrChars.Road.eqW hZ heq (kI := 4) wi E1 V C A hc hb hl E1' V' C' A' hc' hb' hl' (S.ext EZ) hz (ble hfr) (ble hlo)
end Strs
end Own
theorem wk_LoggingIsVerbosePinLaw_18 {a0 : Array Value} {Z : State} (hw : ∀ d ∈ tables_1, d.before a0 Z = true) : (Jvm.Cond.constant "com/example/windrose/windrose/cli/LoggingIsVerbosePinLaw" (18 : Nat) (2147483647 : Int32)).before a0 Z = true := hw _ (List.mem_of_getElem? (i := 0) rfl)
theorem wa_char {a0 : Array Value} {Z : State} (hw : ∀ d ∈ tables_1, d.before a0 Z = true) : (Jvm.Cond.arrayClass Jvm.ClassFile.FieldType.char).before a0 Z = true := hw _ (List.mem_of_getElem? (i := 1) rfl)
theorem wl_LoggingIsVerbosePinLaw_19 {a0 : Array Value} {Z : State} (hw : ∀ d ∈ tables_1, d.before a0 Z = true) : (Jvm.Cond.methodLink "com/example/windrose/windrose/cli/LoggingIsVerbosePinLaw" (19 : Nat) ({ cls := "com/example/windrose/windrose/cli/LoggingIsVerbosePinLaw", name := "pick", desc := "(IIIII)C" } : Jvm.MethodName)).before a0 Z = true := hw _ (List.mem_of_getElem? (i := 2) rfl)
theorem ws_LoggingIsVerbosePinLaw_pick_lIIIIIrC {a0 : Array Value} {Z : State} (hw : ∀ d ∈ tables_1, d.before a0 Z = true) : (Jvm.Cond.static ({ cls := "com/example/windrose/windrose/cli/LoggingIsVerbosePinLaw", name := "pick", desc := "(IIIII)C" } : Jvm.MethodName)).before a0 Z = true := hw _ (List.mem_of_getElem? (i := 3) rfl)
theorem wi_LoggingIsVerbosePinLaw {a0 : Array Value} {Z : State} (hw : ∀ d ∈ tables_1, d.before a0 Z = true) : (Jvm.Cond.initialized "com/example/windrose/windrose/cli/LoggingIsVerbosePinLaw").before a0 Z = true := hw _ (List.mem_of_getElem? (i := 4) rfl)
theorem wb_LoggingIsVerbosePinLaw_pick_lIIIIIrC {a0 : Array Value} {Z : State} (hw : ∀ d ∈ tables_1, d.before a0 Z = true) : (Jvm.Cond.code ({ cls := "com/example/windrose/windrose/cli/LoggingIsVerbosePinLaw", name := "pick", desc := "(IIIII)C" } : Jvm.MethodName) method_3_code (5 : Nat) (Option.some Jvm.ClassFile.FieldType.char)).before a0 Z = true := hw _ (List.mem_of_getElem? (i := 5) rfl)
theorem wl_LoggingIsVerbosePinLaw_23 {a0 : Array Value} {Z : State} (hw : ∀ d ∈ tables_1, d.before a0 Z = true) : (Jvm.Cond.methodLink "com/example/windrose/windrose/cli/LoggingIsVerbosePinLaw" (23 : Nat) ({ cls := "com/example/windrose/windrose/cli/LoggingIsVerbosePinLaw", name := "make", desc := "(I[C)Ljava/lang/String;" } : Jvm.MethodName)).before a0 Z = true := hw _ (List.mem_of_getElem? (i := 6) rfl)
theorem ws_LoggingIsVerbosePinLaw_make_lIACrLjavalangString {a0 : Array Value} {Z : State} (hw : ∀ d ∈ tables_1, d.before a0 Z = true) : (Jvm.Cond.static ({ cls := "com/example/windrose/windrose/cli/LoggingIsVerbosePinLaw", name := "make", desc := "(I[C)Ljava/lang/String;" } : Jvm.MethodName)).before a0 Z = true := hw _ (List.mem_of_getElem? (i := 7) rfl)
theorem wb_LoggingIsVerbosePinLaw_make_lIACrLjavalangString {a0 : Array Value} {Z : State} (hw : ∀ d ∈ tables_1, d.before a0 Z = true) : (Jvm.Cond.code ({ cls := "com/example/windrose/windrose/cli/LoggingIsVerbosePinLaw", name := "make", desc := "(I[C)Ljava/lang/String;" } : Jvm.MethodName) method_4_code (2 : Nat) (Option.some (Jvm.ClassFile.FieldType.object "java/lang/String"))).before a0 Z = true := hw _ (List.mem_of_getElem? (i := 8) rfl)
theorem wc_LoggingIsVerbosePinLaw_13 {a0 : Array Value} {Z : State} (hw : ∀ d ∈ tables_1, d.before a0 Z = true) : (Jvm.Cond.classLink "com/example/windrose/windrose/cli/LoggingIsVerbosePinLaw" (13 : Nat) "java/lang/String").before a0 Z = true := hw _ (List.mem_of_getElem? (i := 9) rfl)
theorem wn_String {a0 : Array Value} {Z : State} (hw : ∀ d ∈ tables_1, d.before a0 Z = true) : (Jvm.Cond.instantiable "java/lang/String" (4 : Nat)).before a0 Z = true := hw _ (List.mem_of_getElem? (i := 10) rfl)
theorem wi_String {a0 : Array Value} {Z : State} (hw : ∀ d ∈ tables_1, d.before a0 Z = true) : (Jvm.Cond.initialized "java/lang/String").before a0 Z = true := hw _ (List.mem_of_getElem? (i := 11) rfl)
theorem wl_LoggingIsVerbosePinLaw_15 {a0 : Array Value} {Z : State} (hw : ∀ d ∈ tables_1, d.before a0 Z = true) : (Jvm.Cond.methodLink "com/example/windrose/windrose/cli/LoggingIsVerbosePinLaw" (15 : Nat) ({ cls := "java/lang/String", name := "<init>", desc := "([C)V" } : Jvm.MethodName)).before a0 Z = true := hw _ (List.mem_of_getElem? (i := 12) rfl)
theorem wm_String_init_lACrV {a0 : Array Value} {Z : State} (hw : ∀ d ∈ tables_1, d.before a0 Z = true) : (Jvm.Cond.instanceMethod ({ cls := "java/lang/String", name := "<init>", desc := "([C)V" } : Jvm.MethodName)).before a0 Z = true := hw _ (List.mem_of_getElem? (i := 13) rfl)
theorem wb_String_init_lACrV {a0 : Array Value} {Z : State} (hw : ∀ d ∈ tables_1, d.before a0 Z = true) : (Jvm.Cond.code ({ cls := "java/lang/String", name := "<init>", desc := "([C)V" } : Jvm.MethodName) jdk_42_method_3_code (2 : Nat) (Option.none : Option Jvm.ClassFile.FieldType)).before a0 Z = true := hw _ (List.mem_of_getElem? (i := 14) rfl)
theorem wl_String_27 {a0 : Array Value} {Z : State} (hw : ∀ d ∈ tables_1, d.before a0 Z = true) : (Jvm.Cond.methodLink "java/lang/String" (27 : Nat) ({ cls := "java/lang/String", name := "<init>", desc := "([CIILjava/lang/Void;)V" } : Jvm.MethodName)).before a0 Z = true := hw _ (List.mem_of_getElem? (i := 15) rfl)
theorem wm_String_init_lACIILjavalangVoidrV {a0 : Array Value} {Z : State} (hw : ∀ d ∈ tables_1, d.before a0 Z = true) : (Jvm.Cond.instanceMethod ({ cls := "java/lang/String", name := "<init>", desc := "([CIILjava/lang/Void;)V" } : Jvm.MethodName)).before a0 Z = true := hw _ (List.mem_of_getElem? (i := 16) rfl)
theorem wx_String_String {a0 : Array Value} {Z : State} (hw : ∀ d ∈ tables_1, d.before a0 Z = true) : (Jvm.Cond.castable "java/lang/String" "java/lang/String").before a0 Z = true := hw _ (List.mem_of_getElem? (i := 17) rfl)
theorem wb_String_init_lACIILjavalangVoidrV {a0 : Array Value} {Z : State} (hw : ∀ d ∈ tables_1, d.before a0 Z = true) : (Jvm.Cond.code ({ cls := "java/lang/String", name := "<init>", desc := "([CIILjava/lang/Void;)V" } : Jvm.MethodName) jdk_42_method_149_code (6 : Nat) (Option.none : Option Jvm.ClassFile.FieldType)).before a0 Z = true := hw _ (List.mem_of_getElem? (i := 18) rfl)
theorem wl_String_1 {a0 : Array Value} {Z : State} (hw : ∀ d ∈ tables_1, d.before a0 Z = true) : (Jvm.Cond.methodLink "java/lang/String" (1 : Nat) ({ cls := "java/lang/Object", name := "<init>", desc := "()V" } : Jvm.MethodName)).before a0 Z = true := hw _ (List.mem_of_getElem? (i := 19) rfl)
theorem wm_Object_init_lrV {a0 : Array Value} {Z : State} (hw : ∀ d ∈ tables_1, d.before a0 Z = true) : (Jvm.Cond.instanceMethod ({ cls := "java/lang/Object", name := "<init>", desc := "()V" } : Jvm.MethodName)).before a0 Z = true := hw _ (List.mem_of_getElem? (i := 20) rfl)
theorem wb_Object_init_lrV {a0 : Array Value} {Z : State} (hw : ∀ d ∈ tables_1, d.before a0 Z = true) : (Jvm.Cond.code ({ cls := "java/lang/Object", name := "<init>", desc := "()V" } : Jvm.MethodName) object_method_1_code (1 : Nat) (Option.none : Option Jvm.ClassFile.FieldType)).before a0 Z = true := hw _ (List.mem_of_getElem? (i := 21) rfl)
theorem wt_String_7 {a0 : Array Value} {Z : State} (hw : ∀ d ∈ tables_1, d.before a0 Z = true) : (Jvm.Cond.stringLink "java/lang/String" (7 : Nat) "").before a0 Z = true := hw _ (List.mem_of_getElem? (i := 22) rfl)
theorem wa_byte {a0 : Array Value} {Z : State} (hw : ∀ d ∈ tables_1, d.before a0 Z = true) : (Jvm.Cond.arrayClass Jvm.ClassFile.FieldType.byte).before a0 Z = true := hw _ (List.mem_of_getElem? (i := 23) rfl)
theorem wy_String_String_value {a0 : Array Value} {Z : State} (hw : ∀ d ∈ tables_1, d.before a0 Z = true) : (Jvm.Cond.laysFinal "java/lang/String" "java/lang/String" "value" "[B").before a0 Z = true := hw _ (List.mem_of_getElem? (i := 24) rfl)
theorem wy_String_String_coder {a0 : Array Value} {Z : State} (hw : ∀ d ∈ tables_1, d.before a0 Z = true) : (Jvm.Cond.laysFinal "java/lang/String" "java/lang/String" "coder" "B").before a0 Z = true := hw _ (List.mem_of_getElem? (i := 25) rfl)
theorem w26 {a0 : Array Value} {Z : State} (hw : ∀ d ∈ tables_1, d.before a0 Z = true) : (Jvm.Cond.soleField "java/lang/String" "value").before a0 Z = true := hw _ (List.mem_of_getElem? (i := 26) rfl)
theorem w27 {a0 : Array Value} {Z : State} (hw : ∀ d ∈ tables_1, d.before a0 Z = true) : (Jvm.Cond.soleField "java/lang/String" "coder").before a0 Z = true := hw _ (List.mem_of_getElem? (i := 27) rfl)
theorem wf_String_9 {a0 : Array Value} {Z : State} (hw : ∀ d ∈ tables_1, d.before a0 Z = true) : (Jvm.Cond.fieldLink "java/lang/String" (9 : Nat) "java/lang/String" "value" "[B").before a0 Z = true := hw _ (List.mem_of_getElem? (i := 28) rfl)
theorem wf_String_15 {a0 : Array Value} {Z : State} (hw : ∀ d ∈ tables_1, d.before a0 Z = true) : (Jvm.Cond.fieldLink "java/lang/String" (15 : Nat) "java/lang/String" "coder" "B").before a0 Z = true := hw _ (List.mem_of_getElem? (i := 29) rfl)
theorem wl_LoggingIsVerbosePinLaw_27 {a0 : Array Value} {Z : State} (hw : ∀ d ∈ tables_1, d.before a0 Z = true) : (Jvm.Cond.methodLink "com/example/windrose/windrose/cli/LoggingIsVerbosePinLaw" (27 : Nat) ({ cls := "com/example/windrose/windrose/cli/Logging", name := "isVerbose", desc := "(Ljava/lang/String;)Z" } : Jvm.MethodName)).before a0 Z = true := hw _ (List.mem_of_getElem? (i := 30) rfl)
theorem ws_Logging_isVerbose_lLjavalangStringrZ {a0 : Array Value} {Z : State} (hw : ∀ d ∈ tables_1, d.before a0 Z = true) : (Jvm.Cond.static ({ cls := "com/example/windrose/windrose/cli/Logging", name := "isVerbose", desc := "(Ljava/lang/String;)Z" } : Jvm.MethodName)).before a0 Z = true := hw _ (List.mem_of_getElem? (i := 31) rfl)
theorem wi_Logging {a0 : Array Value} {Z : State} (hw : ∀ d ∈ tables_1, d.before a0 Z = true) : (Jvm.Cond.initialized "com/example/windrose/windrose/cli/Logging").before a0 Z = true := hw _ (List.mem_of_getElem? (i := 32) rfl)
theorem wb_Logging_isVerbose_lLjavalangStringrZ {a0 : Array Value} {Z : State} (hw : ∀ d ∈ tables_1, d.before a0 Z = true) : (Jvm.Cond.code ({ cls := "com/example/windrose/windrose/cli/Logging", name := "isVerbose", desc := "(Ljava/lang/String;)Z" } : Jvm.MethodName) prog_1_method_2_code (1 : Nat) (Option.some Jvm.ClassFile.FieldType.boolean)).before a0 Z = true := hw _ (List.mem_of_getElem? (i := 33) rfl)
theorem wt_Logging_9 {a0 : Array Value} {Z : State} (hw : ∀ d ∈ tables_1, d.before a0 Z = true) : (Jvm.Cond.stringLink "com/example/windrose/windrose/cli/Logging" (9 : Nat) "--verbose").before a0 Z = true := hw _ (List.mem_of_getElem? (i := 34) rfl)
theorem wl_Logging_11 {a0 : Array Value} {Z : State} (hw : ∀ d ∈ tables_1, d.before a0 Z = true) : (Jvm.Cond.methodLink "com/example/windrose/windrose/cli/Logging" (11 : Nat) ({ cls := "java/lang/String", name := "equals", desc := "(Ljava/lang/Object;)Z" } : Jvm.MethodName)).before a0 Z = true := hw _ (List.mem_of_getElem? (i := 35) rfl)
theorem wd_String_equals_lLjavalangObjectrZ {a0 : Array Value} {Z : State} (hw : ∀ d ∈ tables_1, d.before a0 Z = true) : (Jvm.Cond.declares ({ cls := "java/lang/String", name := "equals", desc := "(Ljava/lang/Object;)Z" } : Jvm.MethodName)).before a0 Z = true := hw _ (List.mem_of_getElem? (i := 36) rfl)
theorem wm_String_equals_lLjavalangObjectrZ {a0 : Array Value} {Z : State} (hw : ∀ d ∈ tables_1, d.before a0 Z = true) : (Jvm.Cond.instanceMethod ({ cls := "java/lang/String", name := "equals", desc := "(Ljava/lang/Object;)Z" } : Jvm.MethodName)).before a0 Z = true := hw _ (List.mem_of_getElem? (i := 37) rfl)
theorem wv_String_String_equals_lLjavalangObjectrZ {a0 : Array Value} {Z : State} (hw : ∀ d ∈ tables_1, d.before a0 Z = true) : (Jvm.Cond.selects "java/lang/String" ({ cls := "java/lang/String", name := "equals", desc := "(Ljava/lang/Object;)Z" } : Jvm.MethodName) ({ cls := "java/lang/String", name := "equals", desc := "(Ljava/lang/Object;)Z" } : Jvm.MethodName)).before a0 Z = true := hw _ (List.mem_of_getElem? (i := 38) rfl)
theorem wb_String_equals_lLjavalangObjectrZ {a0 : Array Value} {Z : State} (hw : ∀ d ∈ tables_1, d.before a0 Z = true) : (Jvm.Cond.code ({ cls := "java/lang/String", name := "equals", desc := "(Ljava/lang/Object;)Z" } : Jvm.MethodName) jdk_42_method_66_code (3 : Nat) (Option.some Jvm.ClassFile.FieldType.boolean)).before a0 Z = true := hw _ (List.mem_of_getElem? (i := 39) rfl)
theorem wc_String_10 {a0 : Array Value} {Z : State} (hw : ∀ d ∈ tables_1, d.before a0 Z = true) : (Jvm.Cond.classLink "java/lang/String" (10 : Nat) "java/lang/String").before a0 Z = true := hw _ (List.mem_of_getElem? (i := 40) rfl)
theorem wf_String_38 {a0 : Array Value} {Z : State} (hw : ∀ d ∈ tables_1, d.before a0 Z = true) : (Jvm.Cond.fieldLink "java/lang/String" (38 : Nat) "java/lang/String" "COMPACT_STRINGS" "Z").before a0 Z = true := hw _ (List.mem_of_getElem? (i := 41) rfl)
theorem wl_String_541 {a0 : Array Value} {Z : State} (hw : ∀ d ∈ tables_1, d.before a0 Z = true) : (Jvm.Cond.methodLink "java/lang/String" (541 : Nat) ({ cls := "java/lang/StringLatin1", name := "equals", desc := "([B[B)Z" } : Jvm.MethodName)).before a0 Z = true := hw _ (List.mem_of_getElem? (i := 42) rfl)
theorem ws_StringLatin1_equals_lABABrZ {a0 : Array Value} {Z : State} (hw : ∀ d ∈ tables_1, d.before a0 Z = true) : (Jvm.Cond.static ({ cls := "java/lang/StringLatin1", name := "equals", desc := "([B[B)Z" } : Jvm.MethodName)).before a0 Z = true := hw _ (List.mem_of_getElem? (i := 43) rfl)
theorem wi_StringLatin1 {a0 : Array Value} {Z : State} (hw : ∀ d ∈ tables_1, d.before a0 Z = true) : (Jvm.Cond.initialized "java/lang/StringLatin1").before a0 Z = true := hw _ (List.mem_of_getElem? (i := 44) rfl)
theorem wb_StringLatin1_equals_lABABrZ {a0 : Array Value} {Z : State} (hw : ∀ d ∈ tables_1, d.before a0 Z = true) : (Jvm.Cond.code ({ cls := "java/lang/StringLatin1", name := "equals", desc := "([B[B)Z" } : Jvm.MethodName) jdk_43_method_13_code (3 : Nat) (Option.some Jvm.ClassFile.FieldType.boolean)).before a0 Z = true := hw _ (List.mem_of_getElem? (i := 45) rfl)
theorem wt_Logging_17 {a0 : Array Value} {Z : State} (hw : ∀ d ∈ tables_1, d.before a0 Z = true) : (Jvm.Cond.stringLink "com/example/windrose/windrose/cli/Logging" (17 : Nat) "-v").before a0 Z = true := hw _ (List.mem_of_getElem? (i := 46) rfl)
theorem wl_LoggingIsVerbosePinLaw_7 {a0 : Array Value} {Z : State} (hw : ∀ d ∈ tables_1, d.before a0 Z = true) : (Jvm.Cond.methodLink "com/example/windrose/windrose/cli/LoggingIsVerbosePinLaw" (7 : Nat) ({ cls := "com/example/windrose/windrose/cli/LoggingIsVerbosePinLaw", name := "tpl", desc := "(II)C" } : Jvm.MethodName)).before a0 Z = true := hw _ (List.mem_of_getElem? (i := 47) rfl)
theorem ws_LoggingIsVerbosePinLaw_tpl_lIIrC {a0 : Array Value} {Z : State} (hw : ∀ d ∈ tables_1, d.before a0 Z = true) : (Jvm.Cond.static ({ cls := "com/example/windrose/windrose/cli/LoggingIsVerbosePinLaw", name := "tpl", desc := "(II)C" } : Jvm.MethodName)).before a0 Z = true := hw _ (List.mem_of_getElem? (i := 48) rfl)
theorem wb_LoggingIsVerbosePinLaw_tpl_lIIrC {a0 : Array Value} {Z : State} (hw : ∀ d ∈ tables_1, d.before a0 Z = true) : (Jvm.Cond.code ({ cls := "com/example/windrose/windrose/cli/LoggingIsVerbosePinLaw", name := "tpl", desc := "(II)C" } : Jvm.MethodName) method_2_code (2 : Nat) (Option.some Jvm.ClassFile.FieldType.char)).before a0 Z = true := hw _ (List.mem_of_getElem? (i := 49) rfl)
theorem wl_String_177 {a0 : Array Value} {Z : State} (hw : ∀ d ∈ tables_1, d.before a0 Z = true) : (Jvm.Cond.methodLink "java/lang/String" (177 : Nat) ({ cls := "java/lang/StringUTF16", name := "compress", desc := "([CII)[B" } : Jvm.MethodName)).before a0 Z = true := hw _ (List.mem_of_getElem? (i := 50) rfl)
theorem ws_StringUTF16_compress_lACIIrAB {a0 : Array Value} {Z : State} (hw : ∀ d ∈ tables_1, d.before a0 Z = true) : (Jvm.Cond.static ({ cls := "java/lang/StringUTF16", name := "compress", desc := "([CII)[B" } : Jvm.MethodName)).before a0 Z = true := hw _ (List.mem_of_getElem? (i := 51) rfl)
theorem wi_StringUTF16 {a0 : Array Value} {Z : State} (hw : ∀ d ∈ tables_1, d.before a0 Z = true) : (Jvm.Cond.initialized "java/lang/StringUTF16").before a0 Z = true := hw _ (List.mem_of_getElem? (i := 52) rfl)
theorem wb_StringUTF16_compress_lACIIrAB {a0 : Array Value} {Z : State} (hw : ∀ d ∈ tables_1, d.before a0 Z = true) : (Jvm.Cond.code ({ cls := "java/lang/StringUTF16", name := "compress", desc := "([CII)[B" } : Jvm.MethodName) jdk_52_method_16_code (6 : Nat) (Option.some (Jvm.ClassFile.FieldType.array Jvm.ClassFile.FieldType.byte))).before a0 Z = true := hw _ (List.mem_of_getElem? (i := 53) rfl)
theorem wl_StringUTF16_115 {a0 : Array Value} {Z : State} (hw : ∀ d ∈ tables_1, d.before a0 Z = true) : (Jvm.Cond.methodLink "java/lang/StringUTF16" (115 : Nat) ({ cls := "java/lang/StringUTF16", name := "compress", desc := "([CI[BII)I" } : Jvm.MethodName)).before a0 Z = true := hw _ (List.mem_of_getElem? (i := 54) rfl)
theorem ws_StringUTF16_compress_lACIABIIrI {a0 : Array Value} {Z : State} (hw : ∀ d ∈ tables_1, d.before a0 Z = true) : (Jvm.Cond.static ({ cls := "java/lang/StringUTF16", name := "compress", desc := "([CI[BII)I" } : Jvm.MethodName)).before a0 Z = true := hw _ (List.mem_of_getElem? (i := 55) rfl)
theorem wb_StringUTF16_compress_lACIABIIrI {a0 : Array Value} {Z : State} (hw : ∀ d ∈ tables_1, d.before a0 Z = true) : (Jvm.Cond.code ({ cls := "java/lang/StringUTF16", name := "compress", desc := "([CI[BII)I" } : Jvm.MethodName) jdk_52_method_21_code (7 : Nat) (Option.some Jvm.ClassFile.FieldType.int)).before a0 Z = true := hw _ (List.mem_of_getElem? (i := 56) rfl)
theorem wl_String_47 {a0 : Array Value} {Z : State} (hw : ∀ d ∈ tables_1, d.before a0 Z = true) : (Jvm.Cond.methodLink "java/lang/String" (47 : Nat) ({ cls := "java/lang/StringUTF16", name := "coderFromArrayLen", desc := "([BI)B" } : Jvm.MethodName)).before a0 Z = true := hw _ (List.mem_of_getElem? (i := 57) rfl)
theorem ws_StringUTF16_coderFromArrayLen_lABIrB {a0 : Array Value} {Z : State} (hw : ∀ d ∈ tables_1, d.before a0 Z = true) : (Jvm.Cond.static ({ cls := "java/lang/StringUTF16", name := "coderFromArrayLen", desc := "([BI)B" } : Jvm.MethodName)).before a0 Z = true := hw _ (List.mem_of_getElem? (i := 58) rfl)
theorem wb_StringUTF16_coderFromArrayLen_lABIrB {a0 : Array Value} {Z : State} (hw : ∀ d ∈ tables_1, d.before a0 Z = true) : (Jvm.Cond.code ({ cls := "java/lang/StringUTF16", name := "coderFromArrayLen", desc := "([BI)B" } : Jvm.MethodName) jdk_52_method_15_code (2 : Nat) (Option.some Jvm.ClassFile.FieldType.byte)).before a0 Z = true := hw _ (List.mem_of_getElem? (i := 59) rfl)
theorem dm3_0 : decode method_3_code 0 = .ok (.iload_n 0, 1) := by decide +kernel
theorem dm3_1 : decode method_3_code 1 = .ok (.iload_n 1, 1) := by decide +kernel
theorem dm3_2 : decode method_3_code 2 = .ok (.iushr, 1) := by decide +kernel
theorem dm3_3 : decode method_3_code 3 = .ok (.iconst 1, 1) := by decide +kernel
theorem dm3_4 : decode method_3_code 4 = .ok (.iand, 1) := by decide +kernel
theorem dm3_5 : decode method_3_code 5 = .ok (.ifCond .eq 10, 3) := by decide +kernel
theorem dm3_8 : decode method_3_code 8 = .ok (.iload 4, 2) := by decide +kernel
theorem dm3_10 : decode method_3_code 10 = .ok (.iload_n 1, 1) := by decide +kernel
theorem dm3_11 : decode method_3_code 11 = .ok (.invokestatic 7, 3) := by decide +kernel
theorem dm3_14 : decode method_3_code 14 = .ok (.ireturn, 1) := by decide +kernel
theorem dm3_15 : decode method_3_code 15 = .ok (.iload_n 2, 1) := by decide +kernel
theorem dm3_16 : decode method_3_code 16 = .ok (.bipush 8, 2) := by decide +kernel
theorem dm3_18 : decode method_3_code 18 = .ok (.iload_n 3, 1) := by decide +kernel
theorem dm3_19 : decode method_3_code 19 = .ok (.imul, 1) := by decide +kernel
theorem dm3_20 : decode method_3_code 20 = .ok (.iushr, 1) := by decide +kernel
theorem dm3_21 : decode method_3_code 21 = .ok (.sipush 255, 3) := by decide +kernel
theorem dm3_24 : decode method_3_code 24 = .ok (.iand, 1) := by decide +kernel
theorem dm3_25 : decode method_3_code 25 = .ok (.i2c, 1) := by decide +kernel
theorem dm3_26 : decode method_3_code 26 = .ok (.ireturn, 1) := by decide +kernel
theorem dm4_0 : decode method_4_code 0 = .ok (.iload_n 0, 1) := by decide +kernel
theorem dm4_1 : decode method_4_code 1 = .ok (.ifCond .ne 14, 3) := by decide +kernel
theorem dm4_4 : decode method_4_code 4 = .ok (.new 13, 3) := by decide +kernel
theorem dm4_7 : decode method_4_code 7 = .ok (.dup, 1) := by decide +kernel
theorem dm4_8 : decode method_4_code 8 = .ok (.iconst 0, 1) := by decide +kernel
theorem dm4_9 : decode method_4_code 9 = .ok (.newarray .char, 2) := by decide +kernel
theorem dm4_11 : decode method_4_code 11 = .ok (.invokespecial 15, 3) := by decide +kernel
theorem dm4_14 : decode method_4_code 14 = .ok (.areturn, 1) := by decide +kernel
theorem dm4_15 : decode method_4_code 15 = .ok (.iload_n 0, 1) := by decide +kernel
theorem dm4_16 : decode method_4_code 16 = .ok (.iconst 1, 1) := by decide +kernel
theorem dm4_17 : decode method_4_code 17 = .ok (.if_icmp .ne 20, 3) := by decide +kernel
theorem dm4_20 : decode method_4_code 20 = .ok (.new 13, 3) := by decide +kernel
theorem dm4_23 : decode method_4_code 23 = .ok (.dup, 1) := by decide +kernel
theorem dm4_24 : decode method_4_code 24 = .ok (.iconst 1, 1) := by decide +kernel
theorem dm4_25 : decode method_4_code 25 = .ok (.newarray .char, 2) := by decide +kernel
theorem dm4_27 : decode method_4_code 27 = .ok (.dup, 1) := by decide +kernel
theorem dm4_28 : decode method_4_code 28 = .ok (.iconst 0, 1) := by decide +kernel
theorem dm4_29 : decode method_4_code 29 = .ok (.aload_n 1, 1) := by decide +kernel
theorem dm4_30 : decode method_4_code 30 = .ok (.iconst 0, 1) := by decide +kernel
theorem dm4_31 : decode method_4_code 31 = .ok (.caload, 1) := by decide +kernel
theorem dm4_32 : decode method_4_code 32 = .ok (.castore, 1) := by decide +kernel
theorem dm4_33 : decode method_4_code 33 = .ok (.invokespecial 15, 3) := by decide +kernel
theorem dm4_36 : decode method_4_code 36 = .ok (.areturn, 1) := by decide +kernel
theorem dm4_37 : decode method_4_code 37 = .ok (.iload_n 0, 1) := by decide +kernel
theorem dm4_38 : decode method_4_code 38 = .ok (.iconst 2, 1) := by decide +kernel
theorem dm4_39 : decode method_4_code 39 = .ok (.if_icmp .ne 26, 3) := by decide +kernel
theorem dm4_42 : decode method_4_code 42 = .ok (.new 13, 3) := by decide +kernel
theorem dm4_45 : decode method_4_code 45 = .ok (.dup, 1) := by decide +kernel
theorem dm4_46 : decode method_4_code 46 = .ok (.iconst 2, 1) := by decide +kernel
theorem dm4_47 : decode method_4_code 47 = .ok (.newarray .char, 2) := by decide +kernel
theorem dm4_49 : decode method_4_code 49 = .ok (.dup, 1) := by decide +kernel
theorem dm4_50 : decode method_4_code 50 = .ok (.iconst 0, 1) := by decide +kernel
theorem dm4_51 : decode method_4_code 51 = .ok (.aload_n 1, 1) := by decide +kernel
theorem dm4_52 : decode method_4_code 52 = .ok (.iconst 0, 1) := by decide +kernel
theorem dm4_53 : decode method_4_code 53 = .ok (.caload, 1) := by decide +kernel
theorem dm4_54 : decode method_4_code 54 = .ok (.castore, 1) := by decide +kernel
theorem dm4_55 : decode method_4_code 55 = .ok (.dup, 1) := by decide +kernel
theorem dm4_56 : decode method_4_code 56 = .ok (.iconst 1, 1) := by decide +kernel
theorem dm4_57 : decode method_4_code 57 = .ok (.aload_n 1, 1) := by decide +kernel
theorem dm4_58 : decode method_4_code 58 = .ok (.iconst 1, 1) := by decide +kernel
theorem dm4_59 : decode method_4_code 59 = .ok (.caload, 1) := by decide +kernel
theorem dm4_60 : decode method_4_code 60 = .ok (.castore, 1) := by decide +kernel
theorem dm4_61 : decode method_4_code 61 = .ok (.invokespecial 15, 3) := by decide +kernel
theorem dm4_64 : decode method_4_code 64 = .ok (.areturn, 1) := by decide +kernel
theorem dm4_65 : decode method_4_code 65 = .ok (.iload_n 0, 1) := by decide +kernel
theorem dm4_66 : decode method_4_code 66 = .ok (.iconst 3, 1) := by decide +kernel
theorem dm4_67 : decode method_4_code 67 = .ok (.if_icmp .ne 32, 3) := by decide +kernel
theorem dm4_70 : decode method_4_code 70 = .ok (.new 13, 3) := by decide +kernel
theorem dm4_73 : decode method_4_code 73 = .ok (.dup, 1) := by decide +kernel
theorem dm4_74 : decode method_4_code 74 = .ok (.iconst 3, 1) := by decide +kernel
theorem dm4_75 : decode method_4_code 75 = .ok (.newarray .char, 2) := by decide +kernel
theorem dm4_77 : decode method_4_code 77 = .ok (.dup, 1) := by decide +kernel
theorem dm4_78 : decode method_4_code 78 = .ok (.iconst 0, 1) := by decide +kernel
theorem dm4_79 : decode method_4_code 79 = .ok (.aload_n 1, 1) := by decide +kernel
theorem dm4_80 : decode method_4_code 80 = .ok (.iconst 0, 1) := by decide +kernel
theorem dm4_81 : decode method_4_code 81 = .ok (.caload, 1) := by decide +kernel
theorem dm4_82 : decode method_4_code 82 = .ok (.castore, 1) := by decide +kernel
theorem dm4_83 : decode method_4_code 83 = .ok (.dup, 1) := by decide +kernel
theorem dm4_84 : decode method_4_code 84 = .ok (.iconst 1, 1) := by decide +kernel
theorem dm4_85 : decode method_4_code 85 = .ok (.aload_n 1, 1) := by decide +kernel
theorem dm4_86 : decode method_4_code 86 = .ok (.iconst 1, 1) := by decide +kernel
theorem dm4_87 : decode method_4_code 87 = .ok (.caload, 1) := by decide +kernel
theorem dm4_88 : decode method_4_code 88 = .ok (.castore, 1) := by decide +kernel
theorem dm4_89 : decode method_4_code 89 = .ok (.dup, 1) := by decide +kernel
theorem dm4_90 : decode method_4_code 90 = .ok (.iconst 2, 1) := by decide +kernel
theorem dm4_91 : decode method_4_code 91 = .ok (.aload_n 1, 1) := by decide +kernel
theorem dm4_92 : decode method_4_code 92 = .ok (.iconst 2, 1) := by decide +kernel
theorem dm4_93 : decode method_4_code 93 = .ok (.caload, 1) := by decide +kernel
theorem dm4_94 : decode method_4_code 94 = .ok (.castore, 1) := by decide +kernel
theorem dm4_95 : decode method_4_code 95 = .ok (.invokespecial 15, 3) := by decide +kernel
theorem dm4_98 : decode method_4_code 98 = .ok (.areturn, 1) := by decide +kernel
theorem dm4_99 : decode method_4_code 99 = .ok (.iload_n 0, 1) := by decide +kernel
theorem dm4_100 : decode method_4_code 100 = .ok (.iconst 4, 1) := by decide +kernel
theorem dm4_101 : decode method_4_code 101 = .ok (.if_icmp .ne 38, 3) := by decide +kernel
theorem dm4_104 : decode method_4_code 104 = .ok (.new 13, 3) := by decide +kernel
theorem dm4_107 : decode method_4_code 107 = .ok (.dup, 1) := by decide +kernel
theorem dm4_108 : decode method_4_code 108 = .ok (.iconst 4, 1) := by decide +kernel
theorem dm4_109 : decode method_4_code 109 = .ok (.newarray .char, 2) := by decide +kernel
theorem dm4_111 : decode method_4_code 111 = .ok (.dup, 1) := by decide +kernel
theorem dm4_112 : decode method_4_code 112 = .ok (.iconst 0, 1) := by decide +kernel
theorem dm4_113 : decode method_4_code 113 = .ok (.aload_n 1, 1) := by decide +kernel
theorem dm4_114 : decode method_4_code 114 = .ok (.iconst 0, 1) := by decide +kernel
theorem dm4_115 : decode method_4_code 115 = .ok (.caload, 1) := by decide +kernel
theorem dm4_116 : decode method_4_code 116 = .ok (.castore, 1) := by decide +kernel
theorem dm4_117 : decode method_4_code 117 = .ok (.dup, 1) := by decide +kernel
theorem dm4_118 : decode method_4_code 118 = .ok (.iconst 1, 1) := by decide +kernel
theorem dm4_119 : decode method_4_code 119 = .ok (.aload_n 1, 1) := by decide +kernel
theorem dm4_120 : decode method_4_code 120 = .ok (.iconst 1, 1) := by decide +kernel
theorem dm4_121 : decode method_4_code 121 = .ok (.caload, 1) := by decide +kernel
theorem dm4_122 : decode method_4_code 122 = .ok (.castore, 1) := by decide +kernel
theorem dm4_123 : decode method_4_code 123 = .ok (.dup, 1) := by decide +kernel
theorem dm4_124 : decode method_4_code 124 = .ok (.iconst 2, 1) := by decide +kernel
theorem dm4_125 : decode method_4_code 125 = .ok (.aload_n 1, 1) := by decide +kernel
theorem dm4_126 : decode method_4_code 126 = .ok (.iconst 2, 1) := by decide +kernel
theorem dm4_127 : decode method_4_code 127 = .ok (.caload, 1) := by decide +kernel
theorem dm4_128 : decode method_4_code 128 = .ok (.castore, 1) := by decide +kernel
theorem dm4_129 : decode method_4_code 129 = .ok (.dup, 1) := by decide +kernel
theorem dm4_130 : decode method_4_code 130 = .ok (.iconst 3, 1) := by decide +kernel
theorem dm4_131 : decode method_4_code 131 = .ok (.aload_n 1, 1) := by decide +kernel
theorem dm4_132 : decode method_4_code 132 = .ok (.iconst 3, 1) := by decide +kernel
theorem dm4_133 : decode method_4_code 133 = .ok (.caload, 1) := by decide +kernel
theorem dm4_134 : decode method_4_code 134 = .ok (.castore, 1) := by decide +kernel
theorem dm4_135 : decode method_4_code 135 = .ok (.invokespecial 15, 3) := by decide +kernel
theorem dm4_138 : decode method_4_code 138 = .ok (.areturn, 1) := by decide +kernel
theorem dm4_139 : decode method_4_code 139 = .ok (.iload_n 0, 1) := by decide +kernel
theorem dm4_140 : decode method_4_code 140 = .ok (.iconst 5, 1) := by decide +kernel
theorem dm4_141 : decode method_4_code 141 = .ok (.if_icmp .ne 44, 3) := by decide +kernel
theorem dm4_144 : decode method_4_code 144 = .ok (.new 13, 3) := by decide +kernel
theorem dm4_147 : decode method_4_code 147 = .ok (.dup, 1) := by decide +kernel
theorem dm4_148 : decode method_4_code 148 = .ok (.iconst 5, 1) := by decide +kernel
theorem dm4_149 : decode method_4_code 149 = .ok (.newarray .char, 2) := by decide +kernel
theorem dm4_151 : decode method_4_code 151 = .ok (.dup, 1) := by decide +kernel
theorem dm4_152 : decode method_4_code 152 = .ok (.iconst 0, 1) := by decide +kernel
theorem dm4_153 : decode method_4_code 153 = .ok (.aload_n 1, 1) := by decide +kernel
theorem dm4_154 : decode method_4_code 154 = .ok (.iconst 0, 1) := by decide +kernel
theorem dm4_155 : decode method_4_code 155 = .ok (.caload, 1) := by decide +kernel
theorem dm4_156 : decode method_4_code 156 = .ok (.castore, 1) := by decide +kernel
theorem dm4_157 : decode method_4_code 157 = .ok (.dup, 1) := by decide +kernel
theorem dm4_158 : decode method_4_code 158 = .ok (.iconst 1, 1) := by decide +kernel
theorem dm4_159 : decode method_4_code 159 = .ok (.aload_n 1, 1) := by decide +kernel
theorem dm4_160 : decode method_4_code 160 = .ok (.iconst 1, 1) := by decide +kernel
theorem dm4_161 : decode method_4_code 161 = .ok (.caload, 1) := by decide +kernel
theorem dm4_162 : decode method_4_code 162 = .ok (.castore, 1) := by decide +kernel
theorem dm4_163 : decode method_4_code 163 = .ok (.dup, 1) := by decide +kernel
theorem dm4_164 : decode method_4_code 164 = .ok (.iconst 2, 1) := by decide +kernel
theorem dm4_165 : decode method_4_code 165 = .ok (.aload_n 1, 1) := by decide +kernel
theorem dm4_166 : decode method_4_code 166 = .ok (.iconst 2, 1) := by decide +kernel
theorem dm4_167 : decode method_4_code 167 = .ok (.caload, 1) := by decide +kernel
theorem dm4_168 : decode method_4_code 168 = .ok (.castore, 1) := by decide +kernel
theorem dm4_169 : decode method_4_code 169 = .ok (.dup, 1) := by decide +kernel
theorem dm4_170 : decode method_4_code 170 = .ok (.iconst 3, 1) := by decide +kernel
theorem dm4_171 : decode method_4_code 171 = .ok (.aload_n 1, 1) := by decide +kernel
theorem dm4_172 : decode method_4_code 172 = .ok (.iconst 3, 1) := by decide +kernel
theorem dm4_173 : decode method_4_code 173 = .ok (.caload, 1) := by decide +kernel
theorem dm4_174 : decode method_4_code 174 = .ok (.castore, 1) := by decide +kernel
theorem dm4_175 : decode method_4_code 175 = .ok (.dup, 1) := by decide +kernel
theorem dm4_176 : decode method_4_code 176 = .ok (.iconst 4, 1) := by decide +kernel
theorem dm4_177 : decode method_4_code 177 = .ok (.aload_n 1, 1) := by decide +kernel
theorem dm4_178 : decode method_4_code 178 = .ok (.iconst 4, 1) := by decide +kernel
theorem dm4_179 : decode method_4_code 179 = .ok (.caload, 1) := by decide +kernel
theorem dm4_180 : decode method_4_code 180 = .ok (.castore, 1) := by decide +kernel
theorem dm4_181 : decode method_4_code 181 = .ok (.invokespecial 15, 3) := by decide +kernel
theorem dm4_184 : decode method_4_code 184 = .ok (.areturn, 1) := by decide +kernel
theorem dm4_185 : decode method_4_code 185 = .ok (.iload_n 0, 1) := by decide +kernel
theorem dm4_186 : decode method_4_code 186 = .ok (.bipush 6, 2) := by decide +kernel
theorem dm4_188 : decode method_4_code 188 = .ok (.if_icmp .ne 51, 3) := by decide +kernel
theorem dm4_191 : decode method_4_code 191 = .ok (.new 13, 3) := by decide +kernel
theorem dm4_194 : decode method_4_code 194 = .ok (.dup, 1) := by decide +kernel
theorem dm4_195 : decode method_4_code 195 = .ok (.bipush 6, 2) := by decide +kernel
theorem dm4_197 : decode method_4_code 197 = .ok (.newarray .char, 2) := by decide +kernel
theorem dm4_199 : decode method_4_code 199 = .ok (.dup, 1) := by decide +kernel
theorem dm4_200 : decode method_4_code 200 = .ok (.iconst 0, 1) := by decide +kernel
theorem dm4_201 : decode method_4_code 201 = .ok (.aload_n 1, 1) := by decide +kernel
theorem dm4_202 : decode method_4_code 202 = .ok (.iconst 0, 1) := by decide +kernel
theorem dm4_203 : decode method_4_code 203 = .ok (.caload, 1) := by decide +kernel
theorem dm4_204 : decode method_4_code 204 = .ok (.castore, 1) := by decide +kernel
theorem dm4_205 : decode method_4_code 205 = .ok (.dup, 1) := by decide +kernel
theorem dm4_206 : decode method_4_code 206 = .ok (.iconst 1, 1) := by decide +kernel
theorem dm4_207 : decode method_4_code 207 = .ok (.aload_n 1, 1) := by decide +kernel
theorem dm4_208 : decode method_4_code 208 = .ok (.iconst 1, 1) := by decide +kernel
theorem dm4_209 : decode method_4_code 209 = .ok (.caload, 1) := by decide +kernel
theorem dm4_210 : decode method_4_code 210 = .ok (.castore, 1) := by decide +kernel
theorem dm4_211 : decode method_4_code 211 = .ok (.dup, 1) := by decide +kernel
theorem dm4_212 : decode method_4_code 212 = .ok (.iconst 2, 1) := by decide +kernel
theorem dm4_213 : decode method_4_code 213 = .ok (.aload_n 1, 1) := by decide +kernel
theorem dm4_214 : decode method_4_code 214 = .ok (.iconst 2, 1) := by decide +kernel
theorem dm4_215 : decode method_4_code 215 = .ok (.caload, 1) := by decide +kernel
theorem dm4_216 : decode method_4_code 216 = .ok (.castore, 1) := by decide +kernel
theorem dm4_217 : decode method_4_code 217 = .ok (.dup, 1) := by decide +kernel
theorem dm4_218 : decode method_4_code 218 = .ok (.iconst 3, 1) := by decide +kernel
theorem dm4_219 : decode method_4_code 219 = .ok (.aload_n 1, 1) := by decide +kernel
theorem dm4_220 : decode method_4_code 220 = .ok (.iconst 3, 1) := by decide +kernel
theorem dm4_221 : decode method_4_code 221 = .ok (.caload, 1) := by decide +kernel
theorem dm4_222 : decode method_4_code 222 = .ok (.castore, 1) := by decide +kernel
theorem dm4_223 : decode method_4_code 223 = .ok (.dup, 1) := by decide +kernel
theorem dm4_224 : decode method_4_code 224 = .ok (.iconst 4, 1) := by decide +kernel
theorem dm4_225 : decode method_4_code 225 = .ok (.aload_n 1, 1) := by decide +kernel
theorem dm4_226 : decode method_4_code 226 = .ok (.iconst 4, 1) := by decide +kernel
theorem dm4_227 : decode method_4_code 227 = .ok (.caload, 1) := by decide +kernel
theorem dm4_228 : decode method_4_code 228 = .ok (.castore, 1) := by decide +kernel
theorem dm4_229 : decode method_4_code 229 = .ok (.dup, 1) := by decide +kernel
theorem dm4_230 : decode method_4_code 230 = .ok (.iconst 5, 1) := by decide +kernel
theorem dm4_231 : decode method_4_code 231 = .ok (.aload_n 1, 1) := by decide +kernel
theorem dm4_232 : decode method_4_code 232 = .ok (.iconst 5, 1) := by decide +kernel
theorem dm4_233 : decode method_4_code 233 = .ok (.caload, 1) := by decide +kernel
theorem dm4_234 : decode method_4_code 234 = .ok (.castore, 1) := by decide +kernel
theorem dm4_235 : decode method_4_code 235 = .ok (.invokespecial 15, 3) := by decide +kernel
theorem dm4_238 : decode method_4_code 238 = .ok (.areturn, 1) := by decide +kernel
theorem dm4_239 : decode method_4_code 239 = .ok (.iload_n 0, 1) := by decide +kernel
theorem dm4_240 : decode method_4_code 240 = .ok (.bipush 7, 2) := by decide +kernel
theorem dm4_242 : decode method_4_code 242 = .ok (.if_icmp .ne 59, 3) := by decide +kernel
theorem dm4_245 : decode method_4_code 245 = .ok (.new 13, 3) := by decide +kernel
theorem dm4_248 : decode method_4_code 248 = .ok (.dup, 1) := by decide +kernel
theorem dm4_249 : decode method_4_code 249 = .ok (.bipush 7, 2) := by decide +kernel
theorem dm4_251 : decode method_4_code 251 = .ok (.newarray .char, 2) := by decide +kernel
theorem dm4_253 : decode method_4_code 253 = .ok (.dup, 1) := by decide +kernel
theorem dm4_254 : decode method_4_code 254 = .ok (.iconst 0, 1) := by decide +kernel
theorem dm4_255 : decode method_4_code 255 = .ok (.aload_n 1, 1) := by decide +kernel
theorem dm4_256 : decode method_4_code 256 = .ok (.iconst 0, 1) := by decide +kernel
theorem dm4_257 : decode method_4_code 257 = .ok (.caload, 1) := by decide +kernel
theorem dm4_258 : decode method_4_code 258 = .ok (.castore, 1) := by decide +kernel
theorem dm4_259 : decode method_4_code 259 = .ok (.dup, 1) := by decide +kernel
theorem dm4_260 : decode method_4_code 260 = .ok (.iconst 1, 1) := by decide +kernel
theorem dm4_261 : decode method_4_code 261 = .ok (.aload_n 1, 1) := by decide +kernel
theorem dm4_262 : decode method_4_code 262 = .ok (.iconst 1, 1) := by decide +kernel
theorem dm4_263 : decode method_4_code 263 = .ok (.caload, 1) := by decide +kernel
theorem dm4_264 : decode method_4_code 264 = .ok (.castore, 1) := by decide +kernel
theorem dm4_265 : decode method_4_code 265 = .ok (.dup, 1) := by decide +kernel
theorem dm4_266 : decode method_4_code 266 = .ok (.iconst 2, 1) := by decide +kernel
theorem dm4_267 : decode method_4_code 267 = .ok (.aload_n 1, 1) := by decide +kernel
theorem dm4_268 : decode method_4_code 268 = .ok (.iconst 2, 1) := by decide +kernel
theorem dm4_269 : decode method_4_code 269 = .ok (.caload, 1) := by decide +kernel
theorem dm4_270 : decode method_4_code 270 = .ok (.castore, 1) := by decide +kernel
theorem dm4_271 : decode method_4_code 271 = .ok (.dup, 1) := by decide +kernel
theorem dm4_272 : decode method_4_code 272 = .ok (.iconst 3, 1) := by decide +kernel
theorem dm4_273 : decode method_4_code 273 = .ok (.aload_n 1, 1) := by decide +kernel
theorem dm4_274 : decode method_4_code 274 = .ok (.iconst 3, 1) := by decide +kernel
theorem dm4_275 : decode method_4_code 275 = .ok (.caload, 1) := by decide +kernel
theorem dm4_276 : decode method_4_code 276 = .ok (.castore, 1) := by decide +kernel
theorem dm4_277 : decode method_4_code 277 = .ok (.dup, 1) := by decide +kernel
theorem dm4_278 : decode method_4_code 278 = .ok (.iconst 4, 1) := by decide +kernel
theorem dm4_279 : decode method_4_code 279 = .ok (.aload_n 1, 1) := by decide +kernel
theorem dm4_280 : decode method_4_code 280 = .ok (.iconst 4, 1) := by decide +kernel
theorem dm4_281 : decode method_4_code 281 = .ok (.caload, 1) := by decide +kernel
theorem dm4_282 : decode method_4_code 282 = .ok (.castore, 1) := by decide +kernel
theorem dm4_283 : decode method_4_code 283 = .ok (.dup, 1) := by decide +kernel
theorem dm4_284 : decode method_4_code 284 = .ok (.iconst 5, 1) := by decide +kernel
theorem dm4_285 : decode method_4_code 285 = .ok (.aload_n 1, 1) := by decide +kernel
theorem dm4_286 : decode method_4_code 286 = .ok (.iconst 5, 1) := by decide +kernel
theorem dm4_287 : decode method_4_code 287 = .ok (.caload, 1) := by decide +kernel
theorem dm4_288 : decode method_4_code 288 = .ok (.castore, 1) := by decide +kernel
theorem dm4_289 : decode method_4_code 289 = .ok (.dup, 1) := by decide +kernel
theorem dm4_290 : decode method_4_code 290 = .ok (.bipush 6, 2) := by decide +kernel
theorem dm4_292 : decode method_4_code 292 = .ok (.aload_n 1, 1) := by decide +kernel
theorem dm4_293 : decode method_4_code 293 = .ok (.bipush 6, 2) := by decide +kernel
theorem dm4_295 : decode method_4_code 295 = .ok (.caload, 1) := by decide +kernel
theorem dm4_296 : decode method_4_code 296 = .ok (.castore, 1) := by decide +kernel
theorem dm4_297 : decode method_4_code 297 = .ok (.invokespecial 15, 3) := by decide +kernel
theorem dm4_300 : decode method_4_code 300 = .ok (.areturn, 1) := by decide +kernel
theorem dm4_301 : decode method_4_code 301 = .ok (.iload_n 0, 1) := by decide +kernel
theorem dm4_302 : decode method_4_code 302 = .ok (.bipush 8, 2) := by decide +kernel
theorem dm4_304 : decode method_4_code 304 = .ok (.if_icmp .ne 67, 3) := by decide +kernel
theorem dm4_307 : decode method_4_code 307 = .ok (.new 13, 3) := by decide +kernel
theorem dm4_310 : decode method_4_code 310 = .ok (.dup, 1) := by decide +kernel
theorem dm4_311 : decode method_4_code 311 = .ok (.bipush 8, 2) := by decide +kernel
theorem dm4_313 : decode method_4_code 313 = .ok (.newarray .char, 2) := by decide +kernel
theorem dm4_315 : decode method_4_code 315 = .ok (.dup, 1) := by decide +kernel
theorem dm4_316 : decode method_4_code 316 = .ok (.iconst 0, 1) := by decide +kernel
theorem dm4_317 : decode method_4_code 317 = .ok (.aload_n 1, 1) := by decide +kernel
theorem dm4_318 : decode method_4_code 318 = .ok (.iconst 0, 1) := by decide +kernel
theorem dm4_319 : decode method_4_code 319 = .ok (.caload, 1) := by decide +kernel
theorem dm4_320 : decode method_4_code 320 = .ok (.castore, 1) := by decide +kernel
theorem dm4_321 : decode method_4_code 321 = .ok (.dup, 1) := by decide +kernel
theorem dm4_322 : decode method_4_code 322 = .ok (.iconst 1, 1) := by decide +kernel
theorem dm4_323 : decode method_4_code 323 = .ok (.aload_n 1, 1) := by decide +kernel
theorem dm4_324 : decode method_4_code 324 = .ok (.iconst 1, 1) := by decide +kernel
theorem dm4_325 : decode method_4_code 325 = .ok (.caload, 1) := by decide +kernel
theorem dm4_326 : decode method_4_code 326 = .ok (.castore, 1) := by decide +kernel
theorem dm4_327 : decode method_4_code 327 = .ok (.dup, 1) := by decide +kernel
theorem dm4_328 : decode method_4_code 328 = .ok (.iconst 2, 1) := by decide +kernel
theorem dm4_329 : decode method_4_code 329 = .ok (.aload_n 1, 1) := by decide +kernel
theorem dm4_330 : decode method_4_code 330 = .ok (.iconst 2, 1) := by decide +kernel
theorem dm4_331 : decode method_4_code 331 = .ok (.caload, 1) := by decide +kernel
theorem dm4_332 : decode method_4_code 332 = .ok (.castore, 1) := by decide +kernel
theorem dm4_333 : decode method_4_code 333 = .ok (.dup, 1) := by decide +kernel
theorem dm4_334 : decode method_4_code 334 = .ok (.iconst 3, 1) := by decide +kernel
theorem dm4_335 : decode method_4_code 335 = .ok (.aload_n 1, 1) := by decide +kernel
theorem dm4_336 : decode method_4_code 336 = .ok (.iconst 3, 1) := by decide +kernel
theorem dm4_337 : decode method_4_code 337 = .ok (.caload, 1) := by decide +kernel
theorem dm4_338 : decode method_4_code 338 = .ok (.castore, 1) := by decide +kernel
theorem dm4_339 : decode method_4_code 339 = .ok (.dup, 1) := by decide +kernel
theorem dm4_340 : decode method_4_code 340 = .ok (.iconst 4, 1) := by decide +kernel
theorem dm4_341 : decode method_4_code 341 = .ok (.aload_n 1, 1) := by decide +kernel
theorem dm4_342 : decode method_4_code 342 = .ok (.iconst 4, 1) := by decide +kernel
theorem dm4_343 : decode method_4_code 343 = .ok (.caload, 1) := by decide +kernel
theorem dm4_344 : decode method_4_code 344 = .ok (.castore, 1) := by decide +kernel
theorem dm4_345 : decode method_4_code 345 = .ok (.dup, 1) := by decide +kernel
theorem dm4_346 : decode method_4_code 346 = .ok (.iconst 5, 1) := by decide +kernel
theorem dm4_347 : decode method_4_code 347 = .ok (.aload_n 1, 1) := by decide +kernel
theorem dm4_348 : decode method_4_code 348 = .ok (.iconst 5, 1) := by decide +kernel
theorem dm4_349 : decode method_4_code 349 = .ok (.caload, 1) := by decide +kernel
theorem dm4_350 : decode method_4_code 350 = .ok (.castore, 1) := by decide +kernel
theorem dm4_351 : decode method_4_code 351 = .ok (.dup, 1) := by decide +kernel
theorem dm4_352 : decode method_4_code 352 = .ok (.bipush 6, 2) := by decide +kernel
theorem dm4_354 : decode method_4_code 354 = .ok (.aload_n 1, 1) := by decide +kernel
theorem dm4_355 : decode method_4_code 355 = .ok (.bipush 6, 2) := by decide +kernel
theorem dm4_357 : decode method_4_code 357 = .ok (.caload, 1) := by decide +kernel
theorem dm4_358 : decode method_4_code 358 = .ok (.castore, 1) := by decide +kernel
theorem dm4_359 : decode method_4_code 359 = .ok (.dup, 1) := by decide +kernel
theorem dm4_360 : decode method_4_code 360 = .ok (.bipush 7, 2) := by decide +kernel
theorem dm4_362 : decode method_4_code 362 = .ok (.aload_n 1, 1) := by decide +kernel
theorem dm4_363 : decode method_4_code 363 = .ok (.bipush 7, 2) := by decide +kernel
theorem dm4_365 : decode method_4_code 365 = .ok (.caload, 1) := by decide +kernel
theorem dm4_366 : decode method_4_code 366 = .ok (.castore, 1) := by decide +kernel
theorem dm4_367 : decode method_4_code 367 = .ok (.invokespecial 15, 3) := by decide +kernel
theorem dm4_370 : decode method_4_code 370 = .ok (.areturn, 1) := by decide +kernel
theorem dm4_371 : decode method_4_code 371 = .ok (.iload_n 0, 1) := by decide +kernel
theorem dm4_372 : decode method_4_code 372 = .ok (.bipush 9, 2) := by decide +kernel
theorem dm4_374 : decode method_4_code 374 = .ok (.if_icmp .ne 75, 3) := by decide +kernel
theorem dm4_377 : decode method_4_code 377 = .ok (.new 13, 3) := by decide +kernel
theorem dm4_380 : decode method_4_code 380 = .ok (.dup, 1) := by decide +kernel
theorem dm4_381 : decode method_4_code 381 = .ok (.bipush 9, 2) := by decide +kernel
theorem dm4_383 : decode method_4_code 383 = .ok (.newarray .char, 2) := by decide +kernel
theorem dm4_385 : decode method_4_code 385 = .ok (.dup, 1) := by decide +kernel
theorem dm4_386 : decode method_4_code 386 = .ok (.iconst 0, 1) := by decide +kernel
theorem dm4_387 : decode method_4_code 387 = .ok (.aload_n 1, 1) := by decide +kernel
theorem dm4_388 : decode method_4_code 388 = .ok (.iconst 0, 1) := by decide +kernel
theorem dm4_389 : decode method_4_code 389 = .ok (.caload, 1) := by decide +kernel
theorem dm4_390 : decode method_4_code 390 = .ok (.castore, 1) := by decide +kernel
theorem dm4_391 : decode method_4_code 391 = .ok (.dup, 1) := by decide +kernel
theorem dm4_392 : decode method_4_code 392 = .ok (.iconst 1, 1) := by decide +kernel
theorem dm4_393 : decode method_4_code 393 = .ok (.aload_n 1, 1) := by decide +kernel
theorem dm4_394 : decode method_4_code 394 = .ok (.iconst 1, 1) := by decide +kernel
theorem dm4_395 : decode method_4_code 395 = .ok (.caload, 1) := by decide +kernel
theorem dm4_396 : decode method_4_code 396 = .ok (.castore, 1) := by decide +kernel
theorem dm4_397 : decode method_4_code 397 = .ok (.dup, 1) := by decide +kernel
theorem dm4_398 : decode method_4_code 398 = .ok (.iconst 2, 1) := by decide +kernel
theorem dm4_399 : decode method_4_code 399 = .ok (.aload_n 1, 1) := by decide +kernel
theorem dm4_400 : decode method_4_code 400 = .ok (.iconst 2, 1) := by decide +kernel
theorem dm4_401 : decode method_4_code 401 = .ok (.caload, 1) := by decide +kernel
theorem dm4_402 : decode method_4_code 402 = .ok (.castore, 1) := by decide +kernel
theorem dm4_403 : decode method_4_code 403 = .ok (.dup, 1) := by decide +kernel
theorem dm4_404 : decode method_4_code 404 = .ok (.iconst 3, 1) := by decide +kernel
theorem dm4_405 : decode method_4_code 405 = .ok (.aload_n 1, 1) := by decide +kernel
theorem dm4_406 : decode method_4_code 406 = .ok (.iconst 3, 1) := by decide +kernel
theorem dm4_407 : decode method_4_code 407 = .ok (.caload, 1) := by decide +kernel
theorem dm4_408 : decode method_4_code 408 = .ok (.castore, 1) := by decide +kernel
theorem dm4_409 : decode method_4_code 409 = .ok (.dup, 1) := by decide +kernel
theorem dm4_410 : decode method_4_code 410 = .ok (.iconst 4, 1) := by decide +kernel
theorem dm4_411 : decode method_4_code 411 = .ok (.aload_n 1, 1) := by decide +kernel
theorem dm4_412 : decode method_4_code 412 = .ok (.iconst 4, 1) := by decide +kernel
theorem dm4_413 : decode method_4_code 413 = .ok (.caload, 1) := by decide +kernel
theorem dm4_414 : decode method_4_code 414 = .ok (.castore, 1) := by decide +kernel
theorem dm4_415 : decode method_4_code 415 = .ok (.dup, 1) := by decide +kernel
theorem dm4_416 : decode method_4_code 416 = .ok (.iconst 5, 1) := by decide +kernel
theorem dm4_417 : decode method_4_code 417 = .ok (.aload_n 1, 1) := by decide +kernel
theorem dm4_418 : decode method_4_code 418 = .ok (.iconst 5, 1) := by decide +kernel
theorem dm4_419 : decode method_4_code 419 = .ok (.caload, 1) := by decide +kernel
theorem dm4_420 : decode method_4_code 420 = .ok (.castore, 1) := by decide +kernel
theorem dm4_421 : decode method_4_code 421 = .ok (.dup, 1) := by decide +kernel
theorem dm4_422 : decode method_4_code 422 = .ok (.bipush 6, 2) := by decide +kernel
theorem dm4_424 : decode method_4_code 424 = .ok (.aload_n 1, 1) := by decide +kernel
theorem dm4_425 : decode method_4_code 425 = .ok (.bipush 6, 2) := by decide +kernel
theorem dm4_427 : decode method_4_code 427 = .ok (.caload, 1) := by decide +kernel
theorem dm4_428 : decode method_4_code 428 = .ok (.castore, 1) := by decide +kernel
theorem dm4_429 : decode method_4_code 429 = .ok (.dup, 1) := by decide +kernel
theorem dm4_430 : decode method_4_code 430 = .ok (.bipush 7, 2) := by decide +kernel
theorem dm4_432 : decode method_4_code 432 = .ok (.aload_n 1, 1) := by decide +kernel
theorem dm4_433 : decode method_4_code 433 = .ok (.bipush 7, 2) := by decide +kernel
theorem dm4_435 : decode method_4_code 435 = .ok (.caload, 1) := by decide +kernel
theorem dm4_436 : decode method_4_code 436 = .ok (.castore, 1) := by decide +kernel
theorem dm4_437 : decode method_4_code 437 = .ok (.dup, 1) := by decide +kernel
theorem dm4_438 : decode method_4_code 438 = .ok (.bipush 8, 2) := by decide +kernel
theorem dm4_440 : decode method_4_code 440 = .ok (.aload_n 1, 1) := by decide +kernel
theorem dm4_441 : decode method_4_code 441 = .ok (.bipush 8, 2) := by decide +kernel
theorem dm4_443 : decode method_4_code 443 = .ok (.caload, 1) := by decide +kernel
theorem dm4_444 : decode method_4_code 444 = .ok (.castore, 1) := by decide +kernel
theorem dm4_445 : decode method_4_code 445 = .ok (.invokespecial 15, 3) := by decide +kernel
theorem dm4_448 : decode method_4_code 448 = .ok (.areturn, 1) := by decide +kernel
theorem dm4_449 : decode method_4_code 449 = .ok (.new 13, 3) := by decide +kernel
theorem dm4_452 : decode method_4_code 452 = .ok (.dup, 1) := by decide +kernel
theorem dm4_453 : decode method_4_code 453 = .ok (.bipush 10, 2) := by decide +kernel
theorem dm4_455 : decode method_4_code 455 = .ok (.newarray .char, 2) := by decide +kernel
theorem dm4_457 : decode method_4_code 457 = .ok (.dup, 1) := by decide +kernel
theorem dm4_458 : decode method_4_code 458 = .ok (.iconst 0, 1) := by decide +kernel
theorem dm4_459 : decode method_4_code 459 = .ok (.aload_n 1, 1) := by decide +kernel
theorem dm4_460 : decode method_4_code 460 = .ok (.iconst 0, 1) := by decide +kernel
theorem dm4_461 : decode method_4_code 461 = .ok (.caload, 1) := by decide +kernel
theorem dm4_462 : decode method_4_code 462 = .ok (.castore, 1) := by decide +kernel
theorem dm4_463 : decode method_4_code 463 = .ok (.dup, 1) := by decide +kernel
theorem dm4_464 : decode method_4_code 464 = .ok (.iconst 1, 1) := by decide +kernel
theorem dm4_465 : decode method_4_code 465 = .ok (.aload_n 1, 1) := by decide +kernel
theorem dm4_466 : decode method_4_code 466 = .ok (.iconst 1, 1) := by decide +kernel
theorem dm4_467 : decode method_4_code 467 = .ok (.caload, 1) := by decide +kernel
theorem dm4_468 : decode method_4_code 468 = .ok (.castore, 1) := by decide +kernel
theorem dm4_469 : decode method_4_code 469 = .ok (.dup, 1) := by decide +kernel
theorem dm4_470 : decode method_4_code 470 = .ok (.iconst 2, 1) := by decide +kernel
theorem dm4_471 : decode method_4_code 471 = .ok (.aload_n 1, 1) := by decide +kernel
theorem dm4_472 : decode method_4_code 472 = .ok (.iconst 2, 1) := by decide +kernel
theorem dm4_473 : decode method_4_code 473 = .ok (.caload, 1) := by decide +kernel
theorem dm4_474 : decode method_4_code 474 = .ok (.castore, 1) := by decide +kernel
theorem dm4_475 : decode method_4_code 475 = .ok (.dup, 1) := by decide +kernel
theorem dm4_476 : decode method_4_code 476 = .ok (.iconst 3, 1) := by decide +kernel
theorem dm4_477 : decode method_4_code 477 = .ok (.aload_n 1, 1) := by decide +kernel
theorem dm4_478 : decode method_4_code 478 = .ok (.iconst 3, 1) := by decide +kernel
theorem dm4_479 : decode method_4_code 479 = .ok (.caload, 1) := by decide +kernel
theorem dm4_480 : decode method_4_code 480 = .ok (.castore, 1) := by decide +kernel
theorem dm4_481 : decode method_4_code 481 = .ok (.dup, 1) := by decide +kernel
theorem dm4_482 : decode method_4_code 482 = .ok (.iconst 4, 1) := by decide +kernel
theorem dm4_483 : decode method_4_code 483 = .ok (.aload_n 1, 1) := by decide +kernel
theorem dm4_484 : decode method_4_code 484 = .ok (.iconst 4, 1) := by decide +kernel
theorem dm4_485 : decode method_4_code 485 = .ok (.caload, 1) := by decide +kernel
theorem dm4_486 : decode method_4_code 486 = .ok (.castore, 1) := by decide +kernel
theorem dm4_487 : decode method_4_code 487 = .ok (.dup, 1) := by decide +kernel
theorem dm4_488 : decode method_4_code 488 = .ok (.iconst 5, 1) := by decide +kernel
theorem dm4_489 : decode method_4_code 489 = .ok (.aload_n 1, 1) := by decide +kernel
theorem dm4_490 : decode method_4_code 490 = .ok (.iconst 5, 1) := by decide +kernel
theorem dm4_491 : decode method_4_code 491 = .ok (.caload, 1) := by decide +kernel
theorem dm4_492 : decode method_4_code 492 = .ok (.castore, 1) := by decide +kernel
theorem dm4_493 : decode method_4_code 493 = .ok (.dup, 1) := by decide +kernel
theorem dm4_494 : decode method_4_code 494 = .ok (.bipush 6, 2) := by decide +kernel
theorem dm4_496 : decode method_4_code 496 = .ok (.aload_n 1, 1) := by decide +kernel
theorem dm4_497 : decode method_4_code 497 = .ok (.bipush 6, 2) := by decide +kernel
theorem dm4_499 : decode method_4_code 499 = .ok (.caload, 1) := by decide +kernel
theorem dm4_500 : decode method_4_code 500 = .ok (.castore, 1) := by decide +kernel
theorem dm4_501 : decode method_4_code 501 = .ok (.dup, 1) := by decide +kernel
theorem dm4_502 : decode method_4_code 502 = .ok (.bipush 7, 2) := by decide +kernel
theorem dm4_504 : decode method_4_code 504 = .ok (.aload_n 1, 1) := by decide +kernel
theorem dm4_505 : decode method_4_code 505 = .ok (.bipush 7, 2) := by decide +kernel
theorem dm4_507 : decode method_4_code 507 = .ok (.caload, 1) := by decide +kernel
theorem dm4_508 : decode method_4_code 508 = .ok (.castore, 1) := by decide +kernel
theorem dm4_509 : decode method_4_code 509 = .ok (.dup, 1) := by decide +kernel
theorem dm4_510 : decode method_4_code 510 = .ok (.bipush 8, 2) := by decide +kernel
theorem dm4_512 : decode method_4_code 512 = .ok (.aload_n 1, 1) := by decide +kernel
theorem dm4_513 : decode method_4_code 513 = .ok (.bipush 8, 2) := by decide +kernel
theorem dm4_515 : decode method_4_code 515 = .ok (.caload, 1) := by decide +kernel
theorem dm4_516 : decode method_4_code 516 = .ok (.castore, 1) := by decide +kernel
theorem dm4_517 : decode method_4_code 517 = .ok (.dup, 1) := by decide +kernel
theorem dm4_518 : decode method_4_code 518 = .ok (.bipush 9, 2) := by decide +kernel
theorem dm4_520 : decode method_4_code 520 = .ok (.aload_n 1, 1) := by decide +kernel
theorem dm4_521 : decode method_4_code 521 = .ok (.bipush 9, 2) := by decide +kernel
theorem dm4_523 : decode method_4_code 523 = .ok (.caload, 1) := by decide +kernel
theorem dm4_524 : decode method_4_code 524 = .ok (.castore, 1) := by decide +kernel
theorem dm4_525 : decode method_4_code 525 = .ok (.invokespecial 15, 3) := by decide +kernel
theorem dm4_528 : decode method_4_code 528 = .ok (.areturn, 1) := by decide +kernel
theorem dj42_3_0 : decode jdk_42_method_3_code 0 = .ok (.aload_n 0, 1) := by decide +kernel
theorem dj42_3_1 : decode jdk_42_method_3_code 1 = .ok (.aload_n 1, 1) := by decide +kernel
theorem dj42_3_2 : decode jdk_42_method_3_code 2 = .ok (.iconst 0, 1) := by decide +kernel
theorem dj42_3_3 : decode jdk_42_method_3_code 3 = .ok (.aload_n 1, 1) := by decide +kernel
theorem dj42_3_4 : decode jdk_42_method_3_code 4 = .ok (.arraylength, 1) := by decide +kernel
theorem dj42_3_5 : decode jdk_42_method_3_code 5 = .ok (.aconst_null, 1) := by decide +kernel
theorem dj42_3_6 : decode jdk_42_method_3_code 6 = .ok (.invokespecial 27, 3) := by decide +kernel
theorem dj42_3_9 : decode jdk_42_method_3_code 9 = .ok (.return_, 1) := by decide +kernel
theorem dj42_149_0 : decode jdk_42_method_149_code 0 = .ok (.aload_n 0, 1) := by decide +kernel
theorem dj42_149_1 : decode jdk_42_method_149_code 1 = .ok (.invokespecial 1, 3) := by decide +kernel
theorem dj42_149_4 : decode jdk_42_method_149_code 4 = .ok (.iload_n 3, 1) := by decide +kernel
theorem dj42_149_5 : decode jdk_42_method_149_code 5 = .ok (.ifCond .ne 22, 3) := by decide +kernel
theorem dj42_149_8 : decode jdk_42_method_149_code 8 = .ok (.aload_n 0, 1) := by decide +kernel
theorem dj42_149_9 : decode jdk_42_method_149_code 9 = .ok (.ldc 7, 2) := by decide +kernel
theorem dj42_149_11 : decode jdk_42_method_149_code 11 = .ok (.getfield 9, 3) := by decide +kernel
theorem dj42_149_14 : decode jdk_42_method_149_code 14 = .ok (.putfield 9, 3) := by decide +kernel
theorem dj42_149_17 : decode jdk_42_method_149_code 17 = .ok (.aload_n 0, 1) := by decide +kernel
theorem dj42_149_18 : decode jdk_42_method_149_code 18 = .ok (.ldc 7, 2) := by decide +kernel
theorem dj42_149_20 : decode jdk_42_method_149_code 20 = .ok (.getfield 15, 3) := by decide +kernel
theorem dj42_149_23 : decode jdk_42_method_149_code 23 = .ok (.putfield 15, 3) := by decide +kernel
theorem dj42_149_26 : decode jdk_42_method_149_code 26 = .ok (.return_, 1) := by decide +kernel
theorem dj42_149_27 : decode jdk_42_method_149_code 27 = .ok (.getstatic 38, 3) := by decide +kernel
theorem dj42_149_30 : decode jdk_42_method_149_code 30 = .ok (.ifCond .eq 28, 3) := by decide +kernel
theorem dj42_149_33 : decode jdk_42_method_149_code 33 = .ok (.aload_n 1, 1) := by decide +kernel
theorem dj42_149_34 : decode jdk_42_method_149_code 34 = .ok (.iload_n 2, 1) := by decide +kernel
theorem dj42_149_35 : decode jdk_42_method_149_code 35 = .ok (.iload_n 3, 1) := by decide +kernel
theorem dj42_149_36 : decode jdk_42_method_149_code 36 = .ok (.invokestatic 177, 3) := by decide +kernel
theorem dj42_149_39 : decode jdk_42_method_149_code 39 = .ok (.astore 5, 2) := by decide +kernel
theorem dj42_149_41 : decode jdk_42_method_149_code 41 = .ok (.aload_n 0, 1) := by decide +kernel
theorem dj42_149_42 : decode jdk_42_method_149_code 42 = .ok (.aload 5, 2) := by decide +kernel
theorem dj42_149_44 : decode jdk_42_method_149_code 44 = .ok (.iload_n 3, 1) := by decide +kernel
theorem dj42_149_45 : decode jdk_42_method_149_code 45 = .ok (.invokestatic 47, 3) := by decide +kernel
theorem dj42_149_48 : decode jdk_42_method_149_code 48 = .ok (.putfield 15, 3) := by decide +kernel
theorem dj42_149_51 : decode jdk_42_method_149_code 51 = .ok (.aload_n 0, 1) := by decide +kernel
theorem dj42_149_52 : decode jdk_42_method_149_code 52 = .ok (.aload 5, 2) := by decide +kernel
theorem dj42_149_54 : decode jdk_42_method_149_code 54 = .ok (.putfield 9, 3) := by decide +kernel
theorem dj42_149_57 : decode jdk_42_method_149_code 57 = .ok (.return_, 1) := by decide +kernel
theorem dj42_149_58 : decode jdk_42_method_149_code 58 = .ok (.aload_n 0, 1) := by decide +kernel
theorem dj42_149_59 : decode jdk_42_method_149_code 59 = .ok (.iconst 1, 1) := by decide +kernel
theorem dj42_149_60 : decode jdk_42_method_149_code 60 = .ok (.putfield 15, 3) := by decide +kernel
theorem dj42_149_63 : decode jdk_42_method_149_code 63 = .ok (.aload_n 0, 1) := by decide +kernel
theorem dj42_149_64 : decode jdk_42_method_149_code 64 = .ok (.aload_n 1, 1) := by decide +kernel
theorem dj42_149_65 : decode jdk_42_method_149_code 65 = .ok (.iload_n 2, 1) := by decide +kernel
theorem dj42_149_66 : decode jdk_42_method_149_code 66 = .ok (.iload_n 3, 1) := by decide +kernel
theorem dj42_149_67 : decode jdk_42_method_149_code 67 = .ok (.invokestatic 180, 3) := by decide +kernel
theorem dj42_149_70 : decode jdk_42_method_149_code 70 = .ok (.putfield 9, 3) := by decide +kernel
theorem dj42_149_73 : decode jdk_42_method_149_code 73 = .ok (.return_, 1) := by decide +kernel
theorem dobject_method_1_0 : decode object_method_1_code 0 = .ok (.return_, 1) := by decide +kernel
theorem dp1_2_0 : decode prog_1_method_2_code 0 = .ok (.aload_n 0, 1) := by decide +kernel
theorem dp1_2_1 : decode prog_1_method_2_code 1 = .ok (.ldc 9, 2) := by decide +kernel
theorem dp1_2_3 : decode prog_1_method_2_code 3 = .ok (.invokevirtual 11, 3) := by decide +kernel
theorem dp1_2_6 : decode prog_1_method_2_code 6 = .ok (.ifCond .ne 12, 3) := by decide +kernel
theorem dp1_2_9 : decode prog_1_method_2_code 9 = .ok (.aload_n 0, 1) := by decide +kernel
theorem dp1_2_10 : decode prog_1_method_2_code 10 = .ok (.ldc 17, 2) := by decide +kernel
theorem dp1_2_12 : decode prog_1_method_2_code 12 = .ok (.invokevirtual 11, 3) := by decide +kernel
theorem dp1_2_15 : decode prog_1_method_2_code 15 = .ok (.ifCond .eq 7, 3) := by decide +kernel
theorem dp1_2_18 : decode prog_1_method_2_code 18 = .ok (.iconst 1, 1) := by decide +kernel
theorem dp1_2_19 : decode prog_1_method_2_code 19 = .ok (.goto 4, 3) := by decide +kernel
theorem dp1_2_22 : decode prog_1_method_2_code 22 = .ok (.iconst 0, 1) := by decide +kernel
theorem dp1_2_23 : decode prog_1_method_2_code 23 = .ok (.ireturn, 1) := by decide +kernel
theorem dj42_66_0 : decode jdk_42_method_66_code 0 = .ok (.aload_n 0, 1) := by decide +kernel
theorem dj42_66_1 : decode jdk_42_method_66_code 1 = .ok (.aload_n 1, 1) := by decide +kernel
theorem dj42_66_2 : decode jdk_42_method_66_code 2 = .ok (.if_acmp .ne 5, 3) := by decide +kernel
theorem dj42_66_5 : decode jdk_42_method_66_code 5 = .ok (.iconst 1, 1) := by decide +kernel
theorem dj42_66_6 : decode jdk_42_method_66_code 6 = .ok (.ireturn, 1) := by decide +kernel
theorem dj42_66_7 : decode jdk_42_method_66_code 7 = .ok (.aload_n 1, 1) := by decide +kernel
theorem dj42_66_8 : decode jdk_42_method_66_code 8 = .ok (.instanceof 10, 3) := by decide +kernel
theorem dj42_66_11 : decode jdk_42_method_66_code 11 = .ok (.ifCond .eq 43, 3) := by decide +kernel
theorem dj42_66_14 : decode jdk_42_method_66_code 14 = .ok (.aload_n 1, 1) := by decide +kernel
theorem dj42_66_15 : decode jdk_42_method_66_code 15 = .ok (.checkcast 10, 3) := by decide +kernel
theorem dj42_66_18 : decode jdk_42_method_66_code 18 = .ok (.astore_n 2, 1) := by decide +kernel
theorem dj42_66_19 : decode jdk_42_method_66_code 19 = .ok (.getstatic 38, 3) := by decide +kernel
theorem dj42_66_22 : decode jdk_42_method_66_code 22 = .ok (.ifCond .eq 14, 3) := by decide +kernel
theorem dj42_66_25 : decode jdk_42_method_66_code 25 = .ok (.aload_n 0, 1) := by decide +kernel
theorem dj42_66_26 : decode jdk_42_method_66_code 26 = .ok (.getfield 15, 3) := by decide +kernel
theorem dj42_66_29 : decode jdk_42_method_66_code 29 = .ok (.aload_n 2, 1) := by decide +kernel
theorem dj42_66_30 : decode jdk_42_method_66_code 30 = .ok (.getfield 15, 3) := by decide +kernel
theorem dj42_66_33 : decode jdk_42_method_66_code 33 = .ok (.if_icmp .ne 21, 3) := by decide +kernel
theorem dj42_66_36 : decode jdk_42_method_66_code 36 = .ok (.aload_n 0, 1) := by decide +kernel
theorem dj42_66_37 : decode jdk_42_method_66_code 37 = .ok (.getfield 9, 3) := by decide +kernel
theorem dj42_66_40 : decode jdk_42_method_66_code 40 = .ok (.aload_n 2, 1) := by decide +kernel
theorem dj42_66_41 : decode jdk_42_method_66_code 41 = .ok (.getfield 9, 3) := by decide +kernel
theorem dj42_66_44 : decode jdk_42_method_66_code 44 = .ok (.invokestatic 541, 3) := by decide +kernel
theorem dj42_66_47 : decode jdk_42_method_66_code 47 = .ok (.ifCond .eq 7, 3) := by decide +kernel
theorem dj42_66_50 : decode jdk_42_method_66_code 50 = .ok (.iconst 1, 1) := by decide +kernel
theorem dj42_66_51 : decode jdk_42_method_66_code 51 = .ok (.goto 4, 3) := by decide +kernel
theorem dj42_66_54 : decode jdk_42_method_66_code 54 = .ok (.iconst 0, 1) := by decide +kernel
theorem dj42_66_55 : decode jdk_42_method_66_code 55 = .ok (.ireturn, 1) := by decide +kernel
theorem dj43_13_0 : decode jdk_43_method_13_code 0 = .ok (.aload_n 0, 1) := by decide +kernel
theorem dj43_13_1 : decode jdk_43_method_13_code 1 = .ok (.arraylength, 1) := by decide +kernel
theorem dj43_13_2 : decode jdk_43_method_13_code 2 = .ok (.aload_n 1, 1) := by decide +kernel
theorem dj43_13_3 : decode jdk_43_method_13_code 3 = .ok (.arraylength, 1) := by decide +kernel
theorem dj43_13_4 : decode jdk_43_method_13_code 4 = .ok (.if_icmp .ne 30, 3) := by decide +kernel
theorem dj43_13_7 : decode jdk_43_method_13_code 7 = .ok (.iconst 0, 1) := by decide +kernel
theorem dj43_13_8 : decode jdk_43_method_13_code 8 = .ok (.istore_n 2, 1) := by decide +kernel
theorem dj43_13_9 : decode jdk_43_method_13_code 9 = .ok (.iload_n 2, 1) := by decide +kernel
theorem dj43_13_10 : decode jdk_43_method_13_code 10 = .ok (.aload_n 0, 1) := by decide +kernel
theorem dj43_13_11 : decode jdk_43_method_13_code 11 = .ok (.arraylength, 1) := by decide +kernel
theorem dj43_13_12 : decode jdk_43_method_13_code 12 = .ok (.if_icmp .ge 20, 3) := by decide +kernel
theorem dj43_13_15 : decode jdk_43_method_13_code 15 = .ok (.aload_n 0, 1) := by decide +kernel
theorem dj43_13_16 : decode jdk_43_method_13_code 16 = .ok (.iload_n 2, 1) := by decide +kernel
theorem dj43_13_17 : decode jdk_43_method_13_code 17 = .ok (.baload, 1) := by decide +kernel
theorem dj43_13_18 : decode jdk_43_method_13_code 18 = .ok (.aload_n 1, 1) := by decide +kernel
theorem dj43_13_19 : decode jdk_43_method_13_code 19 = .ok (.iload_n 2, 1) := by decide +kernel
theorem dj43_13_20 : decode jdk_43_method_13_code 20 = .ok (.baload, 1) := by decide +kernel
theorem dj43_13_21 : decode jdk_43_method_13_code 21 = .ok (.if_icmp .eq 5, 3) := by decide +kernel
theorem dj43_13_24 : decode jdk_43_method_13_code 24 = .ok (.iconst 0, 1) := by decide +kernel
theorem dj43_13_25 : decode jdk_43_method_13_code 25 = .ok (.ireturn, 1) := by decide +kernel
theorem dj43_13_26 : decode jdk_43_method_13_code 26 = .ok (.iinc 2 1, 3) := by decide +kernel
theorem dj43_13_29 : decode jdk_43_method_13_code 29 = .ok (.goto (-20), 3) := by decide +kernel
theorem dj43_13_32 : decode jdk_43_method_13_code 32 = .ok (.iconst 1, 1) := by decide +kernel
theorem dj43_13_33 : decode jdk_43_method_13_code 33 = .ok (.ireturn, 1) := by decide +kernel
theorem dj43_13_34 : decode jdk_43_method_13_code 34 = .ok (.iconst 0, 1) := by decide +kernel
theorem dj43_13_35 : decode jdk_43_method_13_code 35 = .ok (.ireturn, 1) := by decide +kernel
theorem dm2_0 : decode method_2_code 0 = .ok (.iload_n 0, 1) := by decide +kernel
theorem dm2_1 : decode method_2_code 1 = .ok (.iconst 2, 1) := by decide +kernel
theorem dm2_2 : decode method_2_code 2 = .ok (.if_icmp .ne 21, 3) := by decide +kernel
theorem dm2_5 : decode method_2_code 5 = .ok (.iload_n 1, 1) := by decide +kernel
theorem dm2_6 : decode method_2_code 6 = .ok (.ifCond .ne 6, 3) := by decide +kernel
theorem dm2_9 : decode method_2_code 9 = .ok (.bipush 45, 2) := by decide +kernel
theorem dm2_11 : decode method_2_code 11 = .ok (.ireturn, 1) := by decide +kernel
theorem dm2_12 : decode method_2_code 12 = .ok (.iload_n 1, 1) := by decide +kernel
theorem dm2_13 : decode method_2_code 13 = .ok (.iconst 1, 1) := by decide +kernel
theorem dm2_14 : decode method_2_code 14 = .ok (.if_icmp .ne 6, 3) := by decide +kernel
theorem dm2_17 : decode method_2_code 17 = .ok (.bipush 118, 2) := by decide +kernel
theorem dm2_19 : decode method_2_code 19 = .ok (.ireturn, 1) := by decide +kernel
theorem dm2_20 : decode method_2_code 20 = .ok (.bipush 120, 2) := by decide +kernel
theorem dm2_22 : decode method_2_code 22 = .ok (.ireturn, 1) := by decide +kernel
theorem dm2_23 : decode method_2_code 23 = .ok (.iload_n 1, 1) := by decide +kernel
theorem dm2_24 : decode method_2_code 24 = .ok (.ifCond .eq 8, 3) := by decide +kernel
theorem dm2_27 : decode method_2_code 27 = .ok (.iload_n 1, 1) := by decide +kernel
theorem dm2_28 : decode method_2_code 28 = .ok (.iconst 1, 1) := by decide +kernel
theorem dm2_29 : decode method_2_code 29 = .ok (.if_icmp .ne 6, 3) := by decide +kernel
theorem dm2_32 : decode method_2_code 32 = .ok (.bipush 45, 2) := by decide +kernel
theorem dm2_34 : decode method_2_code 34 = .ok (.ireturn, 1) := by decide +kernel
theorem dm2_35 : decode method_2_code 35 = .ok (.iload_n 1, 1) := by decide +kernel
theorem dm2_36 : decode method_2_code 36 = .ok (.iconst 2, 1) := by decide +kernel
theorem dm2_37 : decode method_2_code 37 = .ok (.if_icmp .ne 6, 3) := by decide +kernel
theorem dm2_40 : decode method_2_code 40 = .ok (.bipush 118, 2) := by decide +kernel
theorem dm2_42 : decode method_2_code 42 = .ok (.ireturn, 1) := by decide +kernel
theorem dm2_43 : decode method_2_code 43 = .ok (.iload_n 1, 1) := by decide +kernel
theorem dm2_44 : decode method_2_code 44 = .ok (.iconst 3, 1) := by decide +kernel
theorem dm2_45 : decode method_2_code 45 = .ok (.if_icmp .ne 6, 3) := by decide +kernel
theorem dm2_48 : decode method_2_code 48 = .ok (.bipush 101, 2) := by decide +kernel
theorem dm2_50 : decode method_2_code 50 = .ok (.ireturn, 1) := by decide +kernel
theorem dm2_51 : decode method_2_code 51 = .ok (.iload_n 1, 1) := by decide +kernel
theorem dm2_52 : decode method_2_code 52 = .ok (.iconst 4, 1) := by decide +kernel
theorem dm2_53 : decode method_2_code 53 = .ok (.if_icmp .ne 6, 3) := by decide +kernel
theorem dm2_56 : decode method_2_code 56 = .ok (.bipush 114, 2) := by decide +kernel
theorem dm2_58 : decode method_2_code 58 = .ok (.ireturn, 1) := by decide +kernel
theorem dm2_59 : decode method_2_code 59 = .ok (.iload_n 1, 1) := by decide +kernel
theorem dm2_60 : decode method_2_code 60 = .ok (.iconst 5, 1) := by decide +kernel
theorem dm2_61 : decode method_2_code 61 = .ok (.if_icmp .ne 6, 3) := by decide +kernel
theorem dm2_64 : decode method_2_code 64 = .ok (.bipush 98, 2) := by decide +kernel
theorem dm2_66 : decode method_2_code 66 = .ok (.ireturn, 1) := by decide +kernel
theorem dm2_67 : decode method_2_code 67 = .ok (.iload_n 1, 1) := by decide +kernel
theorem dm2_68 : decode method_2_code 68 = .ok (.bipush 6, 2) := by decide +kernel
theorem dm2_70 : decode method_2_code 70 = .ok (.if_icmp .ne 6, 3) := by decide +kernel
theorem dm2_73 : decode method_2_code 73 = .ok (.bipush 111, 2) := by decide +kernel
theorem dm2_75 : decode method_2_code 75 = .ok (.ireturn, 1) := by decide +kernel
theorem dm2_76 : decode method_2_code 76 = .ok (.iload_n 1, 1) := by decide +kernel
theorem dm2_77 : decode method_2_code 77 = .ok (.bipush 7, 2) := by decide +kernel
theorem dm2_79 : decode method_2_code 79 = .ok (.if_icmp .ne 6, 3) := by decide +kernel
theorem dm2_82 : decode method_2_code 82 = .ok (.bipush 115, 2) := by decide +kernel
theorem dm2_84 : decode method_2_code 84 = .ok (.ireturn, 1) := by decide +kernel
theorem dm2_85 : decode method_2_code 85 = .ok (.iload_n 1, 1) := by decide +kernel
theorem dm2_86 : decode method_2_code 86 = .ok (.bipush 8, 2) := by decide +kernel
theorem dm2_88 : decode method_2_code 88 = .ok (.if_icmp .ne 6, 3) := by decide +kernel
theorem dm2_91 : decode method_2_code 91 = .ok (.bipush 101, 2) := by decide +kernel
theorem dm2_93 : decode method_2_code 93 = .ok (.ireturn, 1) := by decide +kernel
theorem dm2_94 : decode method_2_code 94 = .ok (.bipush 120, 2) := by decide +kernel
theorem dm2_96 : decode method_2_code 96 = .ok (.ireturn, 1) := by decide +kernel
theorem dj52_16_0 : decode jdk_52_method_16_code 0 = .ok (.iload_n 2, 1) := by decide +kernel
theorem dj52_16_1 : decode jdk_52_method_16_code 1 = .ok (.newarray .byte, 2) := by decide +kernel
theorem dj52_16_3 : decode jdk_52_method_16_code 3 = .ok (.astore_n 3, 1) := by decide +kernel
theorem dj52_16_4 : decode jdk_52_method_16_code 4 = .ok (.aload_n 0, 1) := by decide +kernel
theorem dj52_16_5 : decode jdk_52_method_16_code 5 = .ok (.iload_n 1, 1) := by decide +kernel
theorem dj52_16_6 : decode jdk_52_method_16_code 6 = .ok (.aload_n 3, 1) := by decide +kernel
theorem dj52_16_7 : decode jdk_52_method_16_code 7 = .ok (.iconst 0, 1) := by decide +kernel
theorem dj52_16_8 : decode jdk_52_method_16_code 8 = .ok (.iload_n 2, 1) := by decide +kernel
theorem dj52_16_9 : decode jdk_52_method_16_code 9 = .ok (.invokestatic 115, 3) := by decide +kernel
theorem dj52_16_12 : decode jdk_52_method_16_code 12 = .ok (.istore 4, 2) := by decide +kernel
theorem dj52_16_14 : decode jdk_52_method_16_code 14 = .ok (.iload 4, 2) := by decide +kernel
theorem dj52_16_16 : decode jdk_52_method_16_code 16 = .ok (.iload_n 2, 1) := by decide +kernel
theorem dj52_16_17 : decode jdk_52_method_16_code 17 = .ok (.if_icmp .eq 40, 3) := by decide +kernel
theorem dj52_16_20 : decode jdk_52_method_16_code 20 = .ok (.aload_n 0, 1) := by decide +kernel
theorem dj52_16_21 : decode jdk_52_method_16_code 21 = .ok (.iload_n 1, 1) := by decide +kernel
theorem dj52_16_22 : decode jdk_52_method_16_code 22 = .ok (.iload_n 2, 1) := by decide +kernel
theorem dj52_16_23 : decode jdk_52_method_16_code 23 = .ok (.invokestatic 119, 3) := by decide +kernel
theorem dj52_16_26 : decode jdk_52_method_16_code 26 = .ok (.astore 5, 2) := by decide +kernel
theorem dj52_16_28 : decode jdk_52_method_16_code 28 = .ok (.aload 5, 2) := by decide +kernel
theorem dj52_16_30 : decode jdk_52_method_16_code 30 = .ok (.iload 4, 2) := by decide +kernel
theorem dj52_16_32 : decode jdk_52_method_16_code 32 = .ok (.invokestatic 71, 3) := by decide +kernel
theorem dj52_16_35 : decode jdk_52_method_16_code 35 = .ok (.sipush 255, 3) := by decide +kernel
theorem dj52_16_38 : decode jdk_52_method_16_code 38 = .ok (.if_icmp .gt 16, 3) := by decide +kernel
theorem dj52_16_41 : decode jdk_52_method_16_code 41 = .ok (.aload 5, 2) := by decide +kernel
theorem dj52_16_43 : decode jdk_52_method_16_code 43 = .ok (.iconst 0, 1) := by decide +kernel
theorem dj52_16_44 : decode jdk_52_method_16_code 44 = .ok (.aload_n 3, 1) := by decide +kernel
theorem dj52_16_45 : decode jdk_52_method_16_code 45 = .ok (.iconst 0, 1) := by decide +kernel
theorem dj52_16_46 : decode jdk_52_method_16_code 46 = .ok (.iload_n 2, 1) := by decide +kernel
theorem dj52_16_47 : decode jdk_52_method_16_code 47 = .ok (.invokestatic 123, 3) := by decide +kernel
theorem dj52_16_50 : decode jdk_52_method_16_code 50 = .ok (.iload_n 2, 1) := by decide +kernel
theorem dj52_16_51 : decode jdk_52_method_16_code 51 = .ok (.if_icmp .eq 6, 3) := by decide +kernel
theorem dj52_16_54 : decode jdk_52_method_16_code 54 = .ok (.aload 5, 2) := by decide +kernel
theorem dj52_16_56 : decode jdk_52_method_16_code 56 = .ok (.areturn, 1) := by decide +kernel
theorem dj52_16_57 : decode jdk_52_method_16_code 57 = .ok (.aload_n 3, 1) := by decide +kernel
theorem dj52_16_58 : decode jdk_52_method_16_code 58 = .ok (.areturn, 1) := by decide +kernel
theorem dj52_21_0 : decode jdk_52_method_21_code 0 = .ok (.iconst 0, 1) := by decide +kernel
theorem dj52_21_1 : decode jdk_52_method_21_code 1 = .ok (.istore 5, 2) := by decide +kernel
theorem dj52_21_3 : decode jdk_52_method_21_code 3 = .ok (.iload 5, 2) := by decide +kernel
theorem dj52_21_5 : decode jdk_52_method_21_code 5 = .ok (.iload 4, 2) := by decide +kernel
theorem dj52_21_7 : decode jdk_52_method_21_code 7 = .ok (.if_icmp .ge 37, 3) := by decide +kernel
theorem dj52_21_10 : decode jdk_52_method_21_code 10 = .ok (.aload_n 0, 1) := by decide +kernel
theorem dj52_21_11 : decode jdk_52_method_21_code 11 = .ok (.iload_n 1, 1) := by decide +kernel
theorem dj52_21_12 : decode jdk_52_method_21_code 12 = .ok (.caload, 1) := by decide +kernel
theorem dj52_21_13 : decode jdk_52_method_21_code 13 = .ok (.istore 6, 2) := by decide +kernel
theorem dj52_21_15 : decode jdk_52_method_21_code 15 = .ok (.iload 6, 2) := by decide +kernel
theorem dj52_21_17 : decode jdk_52_method_21_code 17 = .ok (.sipush 255, 3) := by decide +kernel
theorem dj52_21_20 : decode jdk_52_method_21_code 20 = .ok (.if_icmp .le 6, 3) := by decide +kernel
theorem dj52_21_23 : decode jdk_52_method_21_code 23 = .ok (.iload 5, 2) := by decide +kernel
theorem dj52_21_25 : decode jdk_52_method_21_code 25 = .ok (.ireturn, 1) := by decide +kernel
theorem dj52_21_26 : decode jdk_52_method_21_code 26 = .ok (.aload_n 2, 1) := by decide +kernel
theorem dj52_21_27 : decode jdk_52_method_21_code 27 = .ok (.iload_n 3, 1) := by decide +kernel
theorem dj52_21_28 : decode jdk_52_method_21_code 28 = .ok (.iload 6, 2) := by decide +kernel
theorem dj52_21_30 : decode jdk_52_method_21_code 30 = .ok (.i2b, 1) := by decide +kernel
theorem dj52_21_31 : decode jdk_52_method_21_code 31 = .ok (.bastore, 1) := by decide +kernel
theorem dj52_21_32 : decode jdk_52_method_21_code 32 = .ok (.iinc 1 1, 3) := by decide +kernel
theorem dj52_21_35 : decode jdk_52_method_21_code 35 = .ok (.iinc 3 1, 3) := by decide +kernel
theorem dj52_21_38 : decode jdk_52_method_21_code 38 = .ok (.iinc 5 1, 3) := by decide +kernel
theorem dj52_21_41 : decode jdk_52_method_21_code 41 = .ok (.goto (-38), 3) := by decide +kernel
theorem dj52_21_44 : decode jdk_52_method_21_code 44 = .ok (.iload 4, 2) := by decide +kernel
theorem dj52_21_46 : decode jdk_52_method_21_code 46 = .ok (.ireturn, 1) := by decide +kernel
theorem dj52_15_0 : decode jdk_52_method_15_code 0 = .ok (.iload_n 1, 1) := by decide +kernel
theorem dj52_15_1 : decode jdk_52_method_15_code 1 = .ok (.aload_n 0, 1) := by decide +kernel
theorem dj52_15_2 : decode jdk_52_method_15_code 2 = .ok (.arraylength, 1) := by decide +kernel
theorem dj52_15_3 : decode jdk_52_method_15_code 3 = .ok (.isub, 1) := by decide +kernel
theorem dj52_15_4 : decode jdk_52_method_15_code 4 = .ok (.bipush 31, 2) := by decide +kernel
theorem dj52_15_6 : decode jdk_52_method_15_code 6 = .ok (.iushr, 1) := by decide +kernel
theorem dj52_15_7 : decode jdk_52_method_15_code 7 = .ok (.i2b, 1) := by decide +kernel
theorem dj52_15_8 : decode jdk_52_method_15_code 8 = .ok (.ireturn, 1) := by decide +kernel
theorem pd_lIIIIIrC : parseMethodDescriptor "(IIIII)C" = some ⟨[.int, .int, .int, .int, .int], some .char⟩ := by decide +kernel
theorem pd_lIACrLjavalangString : parseMethodDescriptor "(I[C)Ljava/lang/String;" = some ⟨[.int, (.array .char)], some (.object "java/lang/String")⟩ := by decide +kernel
theorem pd_lACrV : parseMethodDescriptor "([C)V" = some ⟨[(.array .char)], none⟩ := by decide +kernel
theorem pd_lACIILjavalangVoidrV : parseMethodDescriptor "([CIILjava/lang/Void;)V" = some ⟨[(.array .char), .int, .int, (.object "java/lang/Void")], none⟩ := by decide +kernel
theorem pd_lrV : parseMethodDescriptor "()V" = some ⟨[], none⟩ := by decide +kernel
theorem pd_lLjavalangStringrZ : parseMethodDescriptor "(Ljava/lang/String;)Z" = some ⟨[(.object "java/lang/String")], some .boolean⟩ := by decide +kernel
theorem pd_lLjavalangObjectrZ : parseMethodDescriptor "(Ljava/lang/Object;)Z" = some ⟨[(.object "java/lang/Object")], some .boolean⟩ := by decide +kernel
theorem pd_lABABrZ : parseMethodDescriptor "([B[B)Z" = some ⟨[(.array .byte), (.array .byte)], some .boolean⟩ := by decide +kernel
theorem pd_lIIrC : parseMethodDescriptor "(II)C" = some ⟨[.int, .int], some .char⟩ := by decide +kernel
theorem pd_lACIIrAB : parseMethodDescriptor "([CII)[B" = some ⟨[(.array .char), .int, .int], some (.array .byte)⟩ := by decide +kernel
theorem pd_lACIABIIrI : parseMethodDescriptor "([CI[BII)I" = some ⟨[(.array .char), .int, (.array .byte), .int, .int], some .int⟩ := by decide +kernel
theorem pd_lABIrB : parseMethodDescriptor "([BI)B" = some ⟨[(.array .byte), .int], some .byte⟩ := by decide +kernel
open Own
set_option maxHeartbeats 40000000
set_option maxRecDepth 65536
theorem own_new {a0 : Array Value} {Z : State} (hw : ∀ d ∈ tables_1, d.before a0 Z = true) : ∀ d ∈ StrChars.Road.words, d.before a0 Z = true := fun d hd => hw d ((by decide +kernel : ∀ d ∈ StrChars.Road.words, d ∈ tables_1) d hd)
theorem own_eq {a0 : Array Value} {Z : State} (hw : ∀ d ∈ tables_1, d.before a0 Z = true) : ∀ d ∈ StrChars.Road.wordsEq, d.before a0 Z = true := fun d hd => hw d ((by decide +kernel : ∀ d ∈ StrChars.Road.wordsEq, d ∈ tables_1) d hd)
/-! new String(new char[0]), walked: the constant "" is loaded twice -/
section New0
variable {l : Launch} {R : Room} {Z : State} {a0 : Array Value} {EL : List (String × Nat)} {h : Heap} {W : Nat}
abbrev yI4 : MethodName := ⟨"java/lang/String", "<init>", "([CIILjava/lang/Void;)V"⟩
abbrev yI1 : MethodName := ⟨"java/lang/String", "<init>", "([C)V"⟩
theorem own_atoms (hw : ∀ d ∈ tables_1, d.before a0 Z = true) : ∀ a ∈ Bundle.stringAtoms, a.before a0 Z = true := fun d hd => hw d ((by decide +kernel : ∀ d ∈ Bundle.stringAtoms, d ∈ tables_1) d hd)
theorem met_I4z (hw : ∀ d ∈ tables_1, d.before a0 Z = true) (hm : ("java/lang/String", 7) ∈ EL) {x b : Addr} {v0 c0 : Value} (hx : Z.heap.size ≤ x) (E : Exa Z h x "java/lang/String") (V : Fld Z h x "java/lang/String" "value" "[B" v0) (C : Fld Z h x "java/lang/String" "coder" "B" c0) :
    MetW [] l yI4 jdk_42_method_149_code 6 none (Rm 1 4 8 12) #[.ref x, .ref b, .int 0, .int 0, .null] Z a0 EL false [x] h (fun v h' => v = none ∧ Keep h h' [x] ∧ Str Z h' x []) := by
  refine MetW.of (plainFor_of_name (by first | (simp [plainName, overriddenIn]; done) | decide +kernel)) fun X hX => ?_
  show Go X _ _ _ _ _ _ _ _ _ _ _ _ _ _ _ _ (mkF X.m 0 #[.val (.ref x), .val (.ref b), .val (.int 0), .val (.int 0), .val .null, .unset] [])
  have ne : RoadKit.slotOf Z "java/lang/String" "coder" "B" ≠ RoadKit.slotOf Z "java/lang/String" "value" "[B" := slot_ne (Or.inr (wy_String_String_coder hw)) (Or.inr (wy_String_String_value hw)) (by decide) (t := .byte) (t' := .array .byte) (by decide) (by decide)
  refine g_aloadN (pc' := 1) dj42_149_0 rfl rfl rfl ?_
  refine g_objinit (pc' := 4) dj42_149_1 rfl (wl_String_1 hw) (wm_Object_init_lrV hw) (wb_Object_init_lrV hw) rfl rfl rfl ?_
  refine g_iloadN (pc' := 5) dj42_149_4 rfl rfl ?_
  refine g_ifne (pc' := 8) (pc2 := 27) dj42_149_5 rfl (by decide) rfl (fun c5 => ?_) (fun c5 => absurd rfl c5)
  refine g_aloadN (pc' := 9) dj42_149_8 rfl rfl rfl ?_
  refine g_lit (pc' := 11) rfl [] 0 dj42_149_9 rfl (wt_String_7 hw) (own_atoms hw) hm ⟨by decide, rfl⟩ (by decide) (by decide) (by decide) rfl rfl rfl rfl rfl fun h9 a9 E9 T9 n9 => ?_
  have hxa9 : x ≠ a9 := n9 x (List.mem_cons_self ..)
  obtain ⟨t, kb, N2, vs, V9, C9, A9, hcod, -, -⟩ := T9.lat (fun c hc => nomatch hc)
  refine g_getfield (pc' := 14) dj42_149_11 rfl (wf_String_9 hw) V9 ?_
  refine g_putfield (pc' := 17) dj42_149_14 rfl (wf_String_9 hw) (V.ext E9) (E.ext E9) (Or.inr ⟨wy_String_String_value hw, rfl, rfl⟩) (wn_String hw) (ty := .array .byte) (by decide) rfl rfl hx (List.mem_cons_self ..) fun h14 W14 => ?_
  refine g_aloadN (pc' := 18) dj42_149_17 rfl rfl rfl ?_
  refine g_lit (pc' := 20) rfl [] 0 dj42_149_18 rfl (wt_String_7 hw) (own_atoms hw) hm ⟨by decide, rfl⟩ (by decide) (by decide) (by decide) rfl rfl rfl rfl rfl fun h18 a18 E18 T18 n18 => ?_
  obtain ⟨t', kb', N2', vs', V18, C18, A18, -, -, -⟩ := T18.lat (fun c hc => nomatch hc)
  refine g_getfield (pc' := 23) dj42_149_20 rfl (wf_String_15 hw) C18 ?_
  refine g_putfield (pc' := 26) dj42_149_23 rfl (wf_String_15 hw) (((C.ext E9).other W14 (Or.inr ne)).ext E18) (((E.ext E9).wr W14).ext E18) (Or.inr ⟨wy_String_String_coder hw, rfl, rfl⟩) (wn_String hw) (ty := .byte) (by decide) rfl rfl hx (List.mem_cons_self ..) fun h23 W23 => ?_
  have hxt : x ≠ t := (E.ext E9).neArv A9 (wn_String hw)
  have Ex : Exa Z h23 x "java/lang/String" := (((E.ext E9).wr W14).ext E18).wr W23
  have Vx : Fld Z h23 x "java/lang/String" "value" "[B" (.ref t) := (((V.ext E9).same W14).ext E18).other W23 (Or.inr ne.symm)
  have Cx : Fld Z h23 x "java/lang/String" "coder" "B" (.int 0) := (((C.ext E9).other W14 (Or.inr ne)).ext E18).same W23
  have Ax : Arv Z h23 t kb .byte N2 vs (.int 0) := (((A9.other W14 hxt.symm).ext E18).other W23 hxt.symm)
  exact g_return dj42_149_26 rfl rfl rfl ⟨rfl, ((((Keep.refl h [x]).ext E9).wr W14 (Or.inl (List.mem_cons_self ..))).ext E18).wr W23 (Or.inl (List.mem_cons_self ..)), Ex, t, kb, 0, N2, vs, Vx, Cx, Ax, hcod, (fun c hc => nomatch hc), Nat.zero_le _⟩
theorem met_I1z (hw : ∀ d ∈ tables_1, d.before a0 Z = true) (hm : ("java/lang/String", 7) ∈ EL) {x b : Addr} {kC : ClassId} {d v0 c0 : Value} {vs : List Value} (hx : Z.heap.size ≤ x) (E : Exa Z h x "java/lang/String") (V : Fld Z h x "java/lang/String" "value" "[B" v0) (C : Fld Z h x "java/lang/String" "coder" "B" c0) (K : Arv Z h b kC .char 0 vs d) :
    MetW [] l yI1 jdk_42_method_3_code 2 none (Rm 2 4 8 29) #[.ref x, .ref b] Z a0 EL false [x] h (fun v h' => v = none ∧ Keep h h' [x] ∧ Str Z h' x []) := by
  refine MetW.of (plainFor_of_name (by first | (simp [plainName, overriddenIn]; done) | decide +kernel)) fun X hX => ?_
  show Go X _ _ _ _ _ _ _ _ _ _ _ _ _ _ _ _ (mkF X.m 0 #[.val (.ref x), .val (.ref b)] [])
  refine g_aloadN (pc' := 1) dj42_3_0 rfl rfl rfl ?_
  refine g_aloadN (pc' := 2) dj42_3_1 rfl rfl rfl ?_
  refine g_iconst (pc' := 3) (w := 0) dj42_3_2 rfl (by decide) ?_
  refine g_aloadN (pc' := 4) dj42_3_3 rfl rfl rfl ?_
  refine g_arraylength (pc' := 5) dj42_3_4 rfl K ?_
  refine g_aconst_null (pc' := 6) dj42_3_5 rfl ?_
  refine g_invokespecial (pc' := 9) [x] [_, _, _, _] dj42_3_6 rfl rfl (wl_String_27 hw) (wm_String_init_lACIILjavalangVoidrV hw) (wb_String_init_lACIILjavalangVoidrV hw) (by decide) (Pay.of_met (met_I4z hw hm (b := b) hx E V C) (wb_String_init_lACIILjavalangVoidrV hw) (wi_String hw) rfl rfl) pd_lACIILjavalangVoidrV rfl rfl rfl rfl rfl (fun _ q => q) fun v6 h6 q6 l6 => ?_
  obtain ⟨rfl, K6, T6⟩ := q6
  exact g_return dj42_3_9 rfl rfl rfl ⟨rfl, K6, T6⟩
theorem pay_new0 (hw : ∀ d ∈ tables_1, d.before a0 Z = true) (hm : ("java/lang/String", 7) ∈ EL) {x b : Addr} {kC : ClassId} {d v0 c0 : Value} {vs : List Value} (hx : Z.heap.size ≤ x) (E : Exa Z h x "java/lang/String") (V : Fld Z h x "java/lang/String" "value" "[B" v0) (C : Fld Z h x "java/lang/String" "coder" "B" c0) (K : Arv Z h b kC .char 0 vs d) (hf : Nat.ble 3 R.frames = true) (hl : Nat.ble (W + 42) R.locals = true) :
    Pay l R yI1 W #[.ref x, .ref b] Z a0 EL false [x] h 4 8 (fun v h' => v = none ∧ Keep h h' [x] ∧ Str Z h' x []) := Pay.of_met (met_I1z hw hm hx E V C K) (wb_String_init_lACrV hw) (wi_String hw) hf (by exact hl)
end New0
abbrev CL : String := "com/example/windrose/windrose/cli/LoggingIsVerbosePinLaw"
abbrev yTpl : MethodName := ⟨"com/example/windrose/windrose/cli/LoggingIsVerbosePinLaw", "tpl", "(II)C"⟩
abbrev yPick : MethodName := ⟨"com/example/windrose/windrose/cli/LoggingIsVerbosePinLaw", "pick", "(IIIII)C"⟩
abbrev yMake : MethodName := ⟨"com/example/windrose/windrose/cli/LoggingIsVerbosePinLaw", "make", "(I[C)Ljava/lang/String;"⟩
abbrev yVerb : MethodName := ⟨"com/example/windrose/windrose/cli/Logging", "isVerbose", "(Ljava/lang/String;)Z"⟩
abbrev lv : List Int32 := [45, 45, 118, 101, 114, 98, 111, 115, 101]
abbrev sv : List Int32 := [45, 118]
abbrev ok (c : Int32) : Prop := ¬ c < 0 ∧ ¬ (255 : Int32) < c
section Law
variable {l : Launch} {Z : State} {a0 : Array Value} {h : Heap} {z : Int32}
theorem met_tpl (n i : Int32) : MetW [] l yTpl method_2_code 2 (some .char) (Rm 0 0 0 0) #[.int n, .int i] Z a0 consts_1 false [] h (fun v h' => ∃ c, v = some (.int c) ∧ ok c ∧ h' = h) := by
  refine MetW.of (plainFor_of_name (by first | (simp [plainName, overriddenIn]; done) | decide +kernel)) fun X hX => Go.old fun EZ => ?_
  show Go X _ _ _ _ _ _ _ _ _ _ _ _ _ _ _ _ (mkF X.m 0 #[.val (.int n), .val (.int i)] [])
  refine g_iloadN (pc' := 1) dm2_0 rfl rfl ?_
  refine g_iconst (pc' := 2) (w := 2) dm2_1 rfl (by decide) ?_
  refine g_icmpne (pc' := 5) (pc2 := 23) dm2_2 rfl (by decide) rfl (fun c2 => ?_) (fun c2 => ?_)
  · refine g_iloadN (pc' := 6) dm2_5 rfl rfl ?_
    refine g_ifne (pc' := 9) (pc2 := 12) dm2_6 rfl (by decide) rfl (fun c6 => ?_) (fun c6 => ?_)
    · refine g_bipush (pc' := 11) (w := 45) dm2_9 rfl (by decide) ?_
      refine g_ireturn (t := .char) dm2_11 rfl (by simp) rfl rfl rfl (⟨_, rfl, by decide, rfl⟩)
    · refine g_iloadN (pc' := 13) dm2_12 rfl rfl ?_
      refine g_iconst (pc' := 14) (w := 1) dm2_13 rfl (by decide) ?_
      refine g_icmpne (pc' := 17) (pc2 := 20) dm2_14 rfl (by decide) rfl (fun c14 => ?_) (fun c14 => ?_)
      · refine g_bipush (pc' := 19) (w := 118) dm2_17 rfl (by decide) ?_
        refine g_ireturn (t := .char) dm2_19 rfl (by simp) rfl rfl rfl (⟨_, rfl, by decide, rfl⟩)
      · refine g_bipush (pc' := 22) (w := 120) dm2_20 rfl (by decide) ?_
        refine g_ireturn (t := .char) dm2_22 rfl (by simp) rfl rfl rfl (⟨_, rfl, by decide, rfl⟩)
  · refine g_iloadN (pc' := 24) dm2_23 rfl rfl ?_
    refine g_ifeq (pc' := 27) (pc2 := 32) dm2_24 rfl (by decide) rfl (fun c24 => ?_) (fun c24 => ?_)
    · refine g_iloadN (pc' := 28) dm2_27 rfl rfl ?_
      refine g_iconst (pc' := 29) (w := 1) dm2_28 rfl (by decide) ?_
      refine g_icmpne (pc' := 32) (pc2 := 35) dm2_29 rfl (by decide) rfl (fun c29 => ?_) (fun c29 => ?_)
      · refine g_bipush (pc' := 34) (w := 45) dm2_32 rfl (by decide) ?_
        refine g_ireturn (t := .char) dm2_34 rfl (by simp) rfl rfl rfl (⟨_, rfl, by decide, rfl⟩)
      · refine g_iloadN (pc' := 36) dm2_35 rfl rfl ?_
        refine g_iconst (pc' := 37) (w := 2) dm2_36 rfl (by decide) ?_
        refine g_icmpne (pc' := 40) (pc2 := 43) dm2_37 rfl (by decide) rfl (fun c37 => ?_) (fun c37 => ?_)
        · refine g_bipush (pc' := 42) (w := 118) dm2_40 rfl (by decide) ?_
          refine g_ireturn (t := .char) dm2_42 rfl (by simp) rfl rfl rfl (⟨_, rfl, by decide, rfl⟩)
        · refine g_iloadN (pc' := 44) dm2_43 rfl rfl ?_
          refine g_iconst (pc' := 45) (w := 3) dm2_44 rfl (by decide) ?_
          refine g_icmpne (pc' := 48) (pc2 := 51) dm2_45 rfl (by decide) rfl (fun c45 => ?_) (fun c45 => ?_)
          · refine g_bipush (pc' := 50) (w := 101) dm2_48 rfl (by decide) ?_
            refine g_ireturn (t := .char) dm2_50 rfl (by simp) rfl rfl rfl (⟨_, rfl, by decide, rfl⟩)
          · refine g_iloadN (pc' := 52) dm2_51 rfl rfl ?_
            refine g_iconst (pc' := 53) (w := 4) dm2_52 rfl (by decide) ?_
            refine g_icmpne (pc' := 56) (pc2 := 59) dm2_53 rfl (by decide) rfl (fun c53 => ?_) (fun c53 => ?_)
            · refine g_bipush (pc' := 58) (w := 114) dm2_56 rfl (by decide) ?_
              refine g_ireturn (t := .char) dm2_58 rfl (by simp) rfl rfl rfl (⟨_, rfl, by decide, rfl⟩)
            · refine g_iloadN (pc' := 60) dm2_59 rfl rfl ?_
              refine g_iconst (pc' := 61) (w := 5) dm2_60 rfl (by decide) ?_
              refine g_icmpne (pc' := 64) (pc2 := 67) dm2_61 rfl (by decide) rfl (fun c61 => ?_) (fun c61 => ?_)
              · refine g_bipush (pc' := 66) (w := 98) dm2_64 rfl (by decide) ?_
                refine g_ireturn (t := .char) dm2_66 rfl (by simp) rfl rfl rfl (⟨_, rfl, by decide, rfl⟩)
              · refine g_iloadN (pc' := 68) dm2_67 rfl rfl ?_
                refine g_bipush (pc' := 70) (w := 6) dm2_68 rfl (by decide) ?_
                refine g_icmpne (pc' := 73) (pc2 := 76) dm2_70 rfl (by decide) rfl (fun c70 => ?_) (fun c70 => ?_)
                · refine g_bipush (pc' := 75) (w := 111) dm2_73 rfl (by decide) ?_
                  refine g_ireturn (t := .char) dm2_75 rfl (by simp) rfl rfl rfl (⟨_, rfl, by decide, rfl⟩)
                · refine g_iloadN (pc' := 77) dm2_76 rfl rfl ?_
                  refine g_bipush (pc' := 79) (w := 7) dm2_77 rfl (by decide) ?_
                  refine g_icmpne (pc' := 82) (pc2 := 85) dm2_79 rfl (by decide) rfl (fun c79 => ?_) (fun c79 => ?_)
                  · refine g_bipush (pc' := 84) (w := 115) dm2_82 rfl (by decide) ?_
                    refine g_ireturn (t := .char) dm2_84 rfl (by simp) rfl rfl rfl (⟨_, rfl, by decide, rfl⟩)
                  · refine g_iloadN (pc' := 86) dm2_85 rfl rfl ?_
                    refine g_bipush (pc' := 88) (w := 8) dm2_86 rfl (by decide) ?_
                    refine g_icmpne (pc' := 91) (pc2 := 94) dm2_88 rfl (by decide) rfl (fun c88 => ?_) (fun c88 => ?_)
                    · refine g_bipush (pc' := 93) (w := 101) dm2_91 rfl (by decide) ?_
                      refine g_ireturn (t := .char) dm2_93 rfl (by simp) rfl rfl rfl (⟨_, rfl, by decide, rfl⟩)
                    · refine g_bipush (pc' := 96) (w := 120) dm2_94 rfl (by decide) ?_
                      refine g_ireturn (t := .char) dm2_96 rfl (by simp) rfl rfl rfl (⟨_, rfl, by decide, rfl⟩)
    · refine g_bipush (pc' := 34) (w := 45) dm2_32 rfl (by decide) ?_
      refine g_ireturn (t := .char) dm2_34 rfl (by simp) rfl rfl rfl (⟨_, rfl, by decide, rfl⟩)
theorem met_pick (hw : ∀ d ∈ tables_1, d.before a0 Z = true) (keep i word k n : Int32) : MetW [] l yPick method_3_code 5 (some .char) (Rm 1 0 0 13) #[.int keep, .int i, .int word, .int k, .int n] Z a0 consts_1 false [] h (fun v h' => ∃ c, v = some (.int c) ∧ ok c ∧ h' = h) := by
  refine MetW.of (plainFor_of_name (by first | (simp [plainName, overriddenIn]; done) | decide +kernel)) fun X hX => Go.old fun EZ => ?_
  show Go X _ _ _ _ _ _ _ _ _ _ _ _ _ _ _ _ (mkF X.m 0 #[.val (.int keep), .val (.int i), .val (.int word), .val (.int k), .val (.int n)] [])
  refine g_iloadN (pc' := 1) dm3_0 rfl rfl ?_
  refine g_iloadN (pc' := 2) dm3_1 rfl rfl ?_
  refine g_iushr (pc' := 3) dm3_2 rfl ?_
  refine g_iconst (pc' := 4) (w := 1) dm3_3 rfl (by decide) ?_
  refine g_iand (pc' := 5) dm3_4 rfl ?_
  refine g_ifeq (pc' := 8) (pc2 := 15) dm3_5 rfl (by decide) rfl (fun c5 => ?_) (fun c5 => ?_)
  · refine g_iload (pc' := 10) dm3_8 rfl rfl ?_
    refine g_iloadN (pc' := 11) dm3_10 rfl rfl ?_
    refine g_invokestatic (pc' := 14) [] [_, _] dm3_11 rfl (wl_LoggingIsVerbosePinLaw_7 hw) (ws_LoggingIsVerbosePinLaw_tpl_lIIrC hw) (wi_LoggingIsVerbosePinLaw hw) (wb_LoggingIsVerbosePinLaw_tpl_lIIrC hw) (by decide) (Pay.of_met (met_tpl n i) (wb_LoggingIsVerbosePinLaw_tpl_lIIrC hw) (wi_LoggingIsVerbosePinLaw hw) rfl rfl) pd_lIIrC rfl rfl rfl rfl rfl (fun _ q => nomatch q) fun v11 h11 q11 l11 => ?_
    obtain ⟨c, rfl, o, rfl⟩ := q11
    refine g_ireturn (t := .char) dm3_14 rfl (by simp) (congrArg Value.int (nar8 o)) rfl rfl (⟨c, rfl, o, rfl⟩)
  · refine g_iloadN (pc' := 16) dm3_15 rfl rfl ?_
    refine g_bipush (pc' := 18) (w := 8) dm3_16 rfl (by decide) ?_
    refine g_iloadN (pc' := 19) dm3_18 rfl rfl ?_
    refine g_imul (pc' := 20) dm3_19 rfl ?_
    refine g_iushr (pc' := 21) dm3_20 rfl ?_
    refine g_sipush (pc' := 24) (w := 255) dm3_21 rfl (by decide) ?_
    refine g_iand (pc' := 25) dm3_24 rfl ?_
    refine g_i2c (pc' := 26) dm3_25 rfl ?_
    refine g_ireturn (t := .char) dm3_26 rfl (by simp) (congrArg Value.int (nar8 (ok8 _))) rfl rfl (⟨_, rfl, ok8 _, rfl⟩)
theorem met_make (hw : ∀ d ∈ tables_1, d.before a0 Z = true) (S : Sta Z Z.heap "java/lang/String" "COMPACT_STRINGS" "Z" (.int z)) (hz : ¬ z = 0) {t0 t1 t2 t3 t4 t5 t6 t7 t8 t9 : Int32} (o0 : ok t0) (o1 : ok t1) (o2 : ok t2) (o3 : ok t3) (o4 : ok t4) (o5 : ok t5) (o6 : ok t6) (o7 : ok t7) (o8 : ok t8) (o9 : ok t9) {j : Nat} (hj : j < 11) {arr : Addr} {kA : ClassId} {d : Value} (AT : Arv Z h arr kA .char 10 [.int t0, .int t1, .int t2, .int t3, .int t4, .int t5, .int t6, .int t7, .int t8, .int t9] d) :
    MetW [] l yMake method_4_code 2 (some (.object "java/lang/String")) (Rm 4 6 24 66) #[.int (Int32.ofNat j), .ref arr] Z a0 consts_1 false [] h (fun v h' => ∃ a, v = some (.ref a) ∧ Ext h h' ∧ Str Z h' a (List.take j ([t0, t1, t2, t3, t4, t5, t6, t7, t8, t9] : List Int32))) := by
  refine MetW.of (plainFor_of_name (by first | (simp [plainName, overriddenIn]; done) | decide +kernel)) fun X hX => Go.old fun EZ => ?_
  show Go X _ _ _ _ _ _ _ _ _ _ _ _ _ _ _ _ (mkF X.m 0 #[.val (.int (Int32.ofNat j)), .val (.ref arr)] [])
  refine g_iloadN (pc' := 1) dm4_0 rfl rfl ?_
  refine g_ifne (pc' := 4) (pc2 := 15) dm4_1 rfl (by decide) rfl (fun c1 => ?_) (fun c1 => ?_)
  · have e : j = 0 := (ofNat_inj (by omega) (by omega)).mp c1
    subst e
    refine g_new (pc' := 7) dm4_4 rfl (wc_LoggingIsVerbosePinLaw_13 hw) (wn_String hw) (wi_String hw) rfl rfl fun h4 a4 e4 E4 A4 D4 => ?_
    refine g_dup (pc' := 8) dm4_7 rfl rfl ?_
    refine g_iconst (pc' := 9) (w := 0) dm4_8 rfl (by decide) ?_
    refine g_newarray (pc' := 11) (cap := 0) dm4_9 rfl (wa_char hw) (by decide) (by decide) rfl rfl rfl fun h9 a9 k9 e9 E9 A9 => ?_
    have t4 : a4 < h4.size := A4.lt
    have u4 : h.size ≤ h4.size := E4.1
    have z4 : Z.heap.size ≤ h.size := (EZ).1
    have y4 : a4 ≠ a9 := Nat.ne_of_lt (by omega)
    have F4_9 : Ext h h9 := (ext_trans E4 E9)
    refine g_invokespecial (pc' := 14) [a4] [_] dm4_11 rfl rfl (wl_LoggingIsVerbosePinLaw_15 hw) (wm_String_init_lACrV hw) (wb_String_init_lACrV hw) (by decide) (pay_new0 hw (by decide) (by omega) ((A4).ext E9) ((D4 (Or.inr (wy_String_String_value hw)) (ty := .array .byte) (by decide)).ext E9) ((D4 (Or.inr (wy_String_String_coder hw)) (ty := .byte) (by decide)).ext E9) A9 rfl rfl) pd_lACrV rfl rfl rfl rfl rfl (fun _ q => by cases List.mem_singleton.mp q; simp) fun v11 h11 q11 l11 => ?_
    obtain ⟨rfl, K11, T4⟩ := q11
    have F4 : Ext h h11 := ext_keep F4_9 K11 (allS (by omega) all0)
    refine g_areturn dm4_14 rfl rfl rfl rfl rfl rfl (⟨a4, rfl, F4, T4⟩)
  · refine g_iloadN (pc' := 16) dm4_15 rfl rfl ?_
    refine g_iconst (pc' := 17) (w := 1) dm4_16 rfl (by decide) ?_
    refine g_icmpne (pc' := 20) (pc2 := 37) dm4_17 rfl (by decide) rfl (fun c17 => ?_) (fun c17 => ?_)
    · have e : j = 1 := (ofNat_inj (by omega) (by omega)).mp c17
      subst e
      refine g_new (pc' := 23) dm4_20 rfl (wc_LoggingIsVerbosePinLaw_13 hw) (wn_String hw) (wi_String hw) rfl rfl fun h20 a20 e20 E20 A20 D20 => ?_
      refine g_dup (pc' := 24) dm4_23 rfl rfl ?_
      refine g_iconst (pc' := 25) (w := 1) dm4_24 rfl (by decide) ?_
      refine g_newarray (pc' := 27) (cap := 1) dm4_25 rfl (wa_char hw) (by decide) (by decide) rfl rfl rfl fun h25 a25 k25 e25 E25 A25 => ?_
      have t20 : a20 < h20.size := A20.lt
      have u20 : h.size ≤ h20.size := E20.1
      have z20 : Z.heap.size ≤ h.size := (EZ).1
      have y20 : a20 ≠ a25 := Nat.ne_of_lt (by omega)
      have F20_25 : Ext h h25 := (ext_trans E20 E25)
      refine g_dup (pc' := 28) dm4_27 rfl rfl ?_
      refine g_iconst (pc' := 29) (w := 0) dm4_28 rfl (by decide) ?_
      refine g_aloadN (pc' := 30) dm4_29 rfl rfl rfl ?_
      refine g_iconst (pc' := 31) (w := 0) dm4_30 rfl (by decide) ?_
      refine g_caload (pc' := 32) dm4_31 rfl (AT.ext F20_25) (by decide) rfl ?_
      refine g_castoreX (pc' := 33) (i := 0) dm4_32 rfl (nar8 o0) A25 (by omega) (by decide) (by decide) (ble rfl) fun h32 K32 A32 => ?_
      have F20_32 : Ext h h32 := ext_keep F20_25 K32 (allS (by omega) all0)
      refine g_invokespecial (pc' := 36) [a20] [_] dm4_33 rfl rfl (wl_LoggingIsVerbosePinLaw_15 hw) (wm_String_init_lACrV hw) (wb_String_init_lACrV hw) (by decide) (pay_new (cs := [t0]) (n := 1) (own_new hw) (wn_String hw) S hz (ext_trans (EZ) F20_32) (by omega) (((A20).ext E25).keep K32) (((D20 (Or.inr (wy_String_String_value hw)) (ty := .array .byte) (by decide)).ext E25).keep K32 (ninS y20 nin0)) (((D20 (Or.inr (wy_String_String_coder hw)) (ty := .byte) (by decide)).ext E25).keep K32 (ninS y20 nin0)) A32 rfl rfl rfl rfl (inS o0 (in0)) rfl rfl) pd_lACrV rfl rfl rfl rfl rfl (fun _ q => by cases List.mem_singleton.mp q; simp) fun v33 h33 q33 l33 => ?_
      obtain ⟨rfl, K33, T20⟩ := q33
      have F20 : Ext h h33 := ext_keep F20_32 K33 (allS (by omega) all0)
      refine g_areturn dm4_36 rfl rfl rfl rfl rfl rfl (⟨a20, rfl, F20, T20⟩)
    · refine g_iloadN (pc' := 38) dm4_37 rfl rfl ?_
      refine g_iconst (pc' := 39) (w := 2) dm4_38 rfl (by decide) ?_
      refine g_icmpne (pc' := 42) (pc2 := 65) dm4_39 rfl (by decide) rfl (fun c39 => ?_) (fun c39 => ?_)
      · have e : j = 2 := (ofNat_inj (by omega) (by omega)).mp c39
        subst e
        refine g_new (pc' := 45) dm4_42 rfl (wc_LoggingIsVerbosePinLaw_13 hw) (wn_String hw) (wi_String hw) rfl rfl fun h42 a42 e42 E42 A42 D42 => ?_
        refine g_dup (pc' := 46) dm4_45 rfl rfl ?_
        refine g_iconst (pc' := 47) (w := 2) dm4_46 rfl (by decide) ?_
        refine g_newarray (pc' := 49) (cap := 2) dm4_47 rfl (wa_char hw) (by decide) (by decide) rfl rfl rfl fun h47 a47 k47 e47 E47 A47 => ?_
        have t42 : a42 < h42.size := A42.lt
        have u42 : h.size ≤ h42.size := E42.1
        have z42 : Z.heap.size ≤ h.size := (EZ).1
        have y42 : a42 ≠ a47 := Nat.ne_of_lt (by omega)
        have F42_47 : Ext h h47 := (ext_trans E42 E47)
        refine g_dup (pc' := 50) dm4_49 rfl rfl ?_
        refine g_iconst (pc' := 51) (w := 0) dm4_50 rfl (by decide) ?_
        refine g_aloadN (pc' := 52) dm4_51 rfl rfl rfl ?_
        refine g_iconst (pc' := 53) (w := 0) dm4_52 rfl (by decide) ?_
        refine g_caload (pc' := 54) dm4_53 rfl (AT.ext F42_47) (by decide) rfl ?_
        refine g_castoreX (pc' := 55) (i := 0) dm4_54 rfl (nar8 o0) A47 (by omega) (by decide) (by decide) (ble rfl) fun h54 K54 A54 => ?_
        have F42_54 : Ext h h54 := ext_keep F42_47 K54 (allS (by omega) all0)
        refine g_dup (pc' := 56) dm4_55 rfl rfl ?_
        refine g_iconst (pc' := 57) (w := 1) dm4_56 rfl (by decide) ?_
        refine g_aloadN (pc' := 58) dm4_57 rfl rfl rfl ?_
        refine g_iconst (pc' := 59) (w := 1) dm4_58 rfl (by decide) ?_
        refine g_caload (pc' := 60) dm4_59 rfl (AT.ext F42_54) (by decide) rfl ?_
        refine g_castoreX (pc' := 61) (i := 1) dm4_60 rfl (nar8 o1) A54 (by omega) (by decide) (by decide) (ble rfl) fun h60 K60 A60 => ?_
        have F42_60 : Ext h h60 := ext_keep F42_54 K60 (allS (by omega) all0)
        refine g_invokespecial (pc' := 64) [a42] [_] dm4_61 rfl rfl (wl_LoggingIsVerbosePinLaw_15 hw) (wm_String_init_lACrV hw) (wb_String_init_lACrV hw) (by decide) (pay_new (cs := [t0, t1]) (n := 2) (own_new hw) (wn_String hw) S hz (ext_trans (EZ) F42_60) (by omega) ((((A42).ext E47).keep K54).keep K60) ((((D42 (Or.inr (wy_String_String_value hw)) (ty := .array .byte) (by decide)).ext E47).keep K54 (ninS y42 nin0)).keep K60 (ninS y42 nin0)) ((((D42 (Or.inr (wy_String_String_coder hw)) (ty := .byte) (by decide)).ext E47).keep K54 (ninS y42 nin0)).keep K60 (ninS y42 nin0)) A60 rfl rfl rfl rfl (inS o0 (inS o1 (in0))) rfl rfl) pd_lACrV rfl rfl rfl rfl rfl (fun _ q => by cases List.mem_singleton.mp q; simp) fun v61 h61 q61 l61 => ?_
        obtain ⟨rfl, K61, T42⟩ := q61
        have F42 : Ext h h61 := ext_keep F42_60 K61 (allS (by omega) all0)
        refine g_areturn dm4_64 rfl rfl rfl rfl rfl rfl (⟨a42, rfl, F42, T42⟩)
      · refine g_iloadN (pc' := 66) dm4_65 rfl rfl ?_
        refine g_iconst (pc' := 67) (w := 3) dm4_66 rfl (by decide) ?_
        refine g_icmpne (pc' := 70) (pc2 := 99) dm4_67 rfl (by decide) rfl (fun c67 => ?_) (fun c67 => ?_)
        · have e : j = 3 := (ofNat_inj (by omega) (by omega)).mp c67
          subst e
          refine g_new (pc' := 73) dm4_70 rfl (wc_LoggingIsVerbosePinLaw_13 hw) (wn_String hw) (wi_String hw) rfl rfl fun h70 a70 e70 E70 A70 D70 => ?_
          refine g_dup (pc' := 74) dm4_73 rfl rfl ?_
          refine g_iconst (pc' := 75) (w := 3) dm4_74 rfl (by decide) ?_
          refine g_newarray (pc' := 77) (cap := 3) dm4_75 rfl (wa_char hw) (by decide) (by decide) rfl rfl rfl fun h75 a75 k75 e75 E75 A75 => ?_
          have t70 : a70 < h70.size := A70.lt
          have u70 : h.size ≤ h70.size := E70.1
          have z70 : Z.heap.size ≤ h.size := (EZ).1
          have y70 : a70 ≠ a75 := Nat.ne_of_lt (by omega)
          have F70_75 : Ext h h75 := (ext_trans E70 E75)
          refine g_dup (pc' := 78) dm4_77 rfl rfl ?_
          refine g_iconst (pc' := 79) (w := 0) dm4_78 rfl (by decide) ?_
          refine g_aloadN (pc' := 80) dm4_79 rfl rfl rfl ?_
          refine g_iconst (pc' := 81) (w := 0) dm4_80 rfl (by decide) ?_
          refine g_caload (pc' := 82) dm4_81 rfl (AT.ext F70_75) (by decide) rfl ?_
          refine g_castoreX (pc' := 83) (i := 0) dm4_82 rfl (nar8 o0) A75 (by omega) (by decide) (by decide) (ble rfl) fun h82 K82 A82 => ?_
          have F70_82 : Ext h h82 := ext_keep F70_75 K82 (allS (by omega) all0)
          refine g_dup (pc' := 84) dm4_83 rfl rfl ?_
          refine g_iconst (pc' := 85) (w := 1) dm4_84 rfl (by decide) ?_
          refine g_aloadN (pc' := 86) dm4_85 rfl rfl rfl ?_
          refine g_iconst (pc' := 87) (w := 1) dm4_86 rfl (by decide) ?_
          refine g_caload (pc' := 88) dm4_87 rfl (AT.ext F70_82) (by decide) rfl ?_
          refine g_castoreX (pc' := 89) (i := 1) dm4_88 rfl (nar8 o1) A82 (by omega) (by decide) (by decide) (ble rfl) fun h88 K88 A88 => ?_
          have F70_88 : Ext h h88 := ext_keep F70_82 K88 (allS (by omega) all0)
          refine g_dup (pc' := 90) dm4_89 rfl rfl ?_
          refine g_iconst (pc' := 91) (w := 2) dm4_90 rfl (by decide) ?_
          refine g_aloadN (pc' := 92) dm4_91 rfl rfl rfl ?_
          refine g_iconst (pc' := 93) (w := 2) dm4_92 rfl (by decide) ?_
          refine g_caload (pc' := 94) dm4_93 rfl (AT.ext F70_88) (by decide) rfl ?_
          refine g_castoreX (pc' := 95) (i := 2) dm4_94 rfl (nar8 o2) A88 (by omega) (by decide) (by decide) (ble rfl) fun h94 K94 A94 => ?_
          have F70_94 : Ext h h94 := ext_keep F70_88 K94 (allS (by omega) all0)
          refine g_invokespecial (pc' := 98) [a70] [_] dm4_95 rfl rfl (wl_LoggingIsVerbosePinLaw_15 hw) (wm_String_init_lACrV hw) (wb_String_init_lACrV hw) (by decide) (pay_new (cs := [t0, t1, t2]) (n := 3) (own_new hw) (wn_String hw) S hz (ext_trans (EZ) F70_94) (by omega) (((((A70).ext E75).keep K82).keep K88).keep K94) (((((D70 (Or.inr (wy_String_String_value hw)) (ty := .array .byte) (by decide)).ext E75).keep K82 (ninS y70 nin0)).keep K88 (ninS y70 nin0)).keep K94 (ninS y70 nin0)) (((((D70 (Or.inr (wy_String_String_coder hw)) (ty := .byte) (by decide)).ext E75).keep K82 (ninS y70 nin0)).keep K88 (ninS y70 nin0)).keep K94 (ninS y70 nin0)) A94 rfl rfl rfl rfl (inS o0 (inS o1 (inS o2 (in0)))) rfl rfl) pd_lACrV rfl rfl rfl rfl rfl (fun _ q => by cases List.mem_singleton.mp q; simp) fun v95 h95 q95 l95 => ?_
          obtain ⟨rfl, K95, T70⟩ := q95
          have F70 : Ext h h95 := ext_keep F70_94 K95 (allS (by omega) all0)
          refine g_areturn dm4_98 rfl rfl rfl rfl rfl rfl (⟨a70, rfl, F70, T70⟩)
        · refine g_iloadN (pc' := 100) dm4_99 rfl rfl ?_
          refine g_iconst (pc' := 101) (w := 4) dm4_100 rfl (by decide) ?_
          refine g_icmpne (pc' := 104) (pc2 := 139) dm4_101 rfl (by decide) rfl (fun c101 => ?_) (fun c101 => ?_)
          · have e : j = 4 := (ofNat_inj (by omega) (by omega)).mp c101
            subst e
            refine g_new (pc' := 107) dm4_104 rfl (wc_LoggingIsVerbosePinLaw_13 hw) (wn_String hw) (wi_String hw) rfl rfl fun h104 a104 e104 E104 A104 D104 => ?_
            refine g_dup (pc' := 108) dm4_107 rfl rfl ?_
            refine g_iconst (pc' := 109) (w := 4) dm4_108 rfl (by decide) ?_
            refine g_newarray (pc' := 111) (cap := 4) dm4_109 rfl (wa_char hw) (by decide) (by decide) rfl rfl rfl fun h109 a109 k109 e109 E109 A109 => ?_
            have t104 : a104 < h104.size := A104.lt
            have u104 : h.size ≤ h104.size := E104.1
            have z104 : Z.heap.size ≤ h.size := (EZ).1
            have y104 : a104 ≠ a109 := Nat.ne_of_lt (by omega)
            have F104_109 : Ext h h109 := (ext_trans E104 E109)
            refine g_dup (pc' := 112) dm4_111 rfl rfl ?_
            refine g_iconst (pc' := 113) (w := 0) dm4_112 rfl (by decide) ?_
            refine g_aloadN (pc' := 114) dm4_113 rfl rfl rfl ?_
            refine g_iconst (pc' := 115) (w := 0) dm4_114 rfl (by decide) ?_
            refine g_caload (pc' := 116) dm4_115 rfl (AT.ext F104_109) (by decide) rfl ?_
            refine g_castoreX (pc' := 117) (i := 0) dm4_116 rfl (nar8 o0) A109 (by omega) (by decide) (by decide) (ble rfl) fun h116 K116 A116 => ?_
            have F104_116 : Ext h h116 := ext_keep F104_109 K116 (allS (by omega) all0)
            refine g_dup (pc' := 118) dm4_117 rfl rfl ?_
            refine g_iconst (pc' := 119) (w := 1) dm4_118 rfl (by decide) ?_
            refine g_aloadN (pc' := 120) dm4_119 rfl rfl rfl ?_
            refine g_iconst (pc' := 121) (w := 1) dm4_120 rfl (by decide) ?_
            refine g_caload (pc' := 122) dm4_121 rfl (AT.ext F104_116) (by decide) rfl ?_
            refine g_castoreX (pc' := 123) (i := 1) dm4_122 rfl (nar8 o1) A116 (by omega) (by decide) (by decide) (ble rfl) fun h122 K122 A122 => ?_
            have F104_122 : Ext h h122 := ext_keep F104_116 K122 (allS (by omega) all0)
            refine g_dup (pc' := 124) dm4_123 rfl rfl ?_
            refine g_iconst (pc' := 125) (w := 2) dm4_124 rfl (by decide) ?_
            refine g_aloadN (pc' := 126) dm4_125 rfl rfl rfl ?_
            refine g_iconst (pc' := 127) (w := 2) dm4_126 rfl (by decide) ?_
            refine g_caload (pc' := 128) dm4_127 rfl (AT.ext F104_122) (by decide) rfl ?_
            refine g_castoreX (pc' := 129) (i := 2) dm4_128 rfl (nar8 o2) A122 (by omega) (by decide) (by decide) (ble rfl) fun h128 K128 A128 => ?_
            have F104_128 : Ext h h128 := ext_keep F104_122 K128 (allS (by omega) all0)
            refine g_dup (pc' := 130) dm4_129 rfl rfl ?_
            refine g_iconst (pc' := 131) (w := 3) dm4_130 rfl (by decide) ?_
            refine g_aloadN (pc' := 132) dm4_131 rfl rfl rfl ?_
            refine g_iconst (pc' := 133) (w := 3) dm4_132 rfl (by decide) ?_
            refine g_caload (pc' := 134) dm4_133 rfl (AT.ext F104_128) (by decide) rfl ?_
            refine g_castoreX (pc' := 135) (i := 3) dm4_134 rfl (nar8 o3) A128 (by omega) (by decide) (by decide) (ble rfl) fun h134 K134 A134 => ?_
            have F104_134 : Ext h h134 := ext_keep F104_128 K134 (allS (by omega) all0)
            refine g_invokespecial (pc' := 138) [a104] [_] dm4_135 rfl rfl (wl_LoggingIsVerbosePinLaw_15 hw) (wm_String_init_lACrV hw) (wb_String_init_lACrV hw) (by decide) (pay_new (cs := [t0, t1, t2, t3]) (n := 4) (own_new hw) (wn_String hw) S hz (ext_trans (EZ) F104_134) (by omega) ((((((A104).ext E109).keep K116).keep K122).keep K128).keep K134) ((((((D104 (Or.inr (wy_String_String_value hw)) (ty := .array .byte) (by decide)).ext E109).keep K116 (ninS y104 nin0)).keep K122 (ninS y104 nin0)).keep K128 (ninS y104 nin0)).keep K134 (ninS y104 nin0)) ((((((D104 (Or.inr (wy_String_String_coder hw)) (ty := .byte) (by decide)).ext E109).keep K116 (ninS y104 nin0)).keep K122 (ninS y104 nin0)).keep K128 (ninS y104 nin0)).keep K134 (ninS y104 nin0)) A134 rfl rfl rfl rfl (inS o0 (inS o1 (inS o2 (inS o3 (in0))))) rfl rfl) pd_lACrV rfl rfl rfl rfl rfl (fun _ q => by cases List.mem_singleton.mp q; simp) fun v135 h135 q135 l135 => ?_
            obtain ⟨rfl, K135, T104⟩ := q135
            have F104 : Ext h h135 := ext_keep F104_134 K135 (allS (by omega) all0)
            refine g_areturn dm4_138 rfl rfl rfl rfl rfl rfl (⟨a104, rfl, F104, T104⟩)
          · refine g_iloadN (pc' := 140) dm4_139 rfl rfl ?_
            refine g_iconst (pc' := 141) (w := 5) dm4_140 rfl (by decide) ?_
            refine g_icmpne (pc' := 144) (pc2 := 185) dm4_141 rfl (by decide) rfl (fun c141 => ?_) (fun c141 => ?_)
            · have e : j = 5 := (ofNat_inj (by omega) (by omega)).mp c141
              subst e
              refine g_new (pc' := 147) dm4_144 rfl (wc_LoggingIsVerbosePinLaw_13 hw) (wn_String hw) (wi_String hw) rfl rfl fun h144 a144 e144 E144 A144 D144 => ?_
              refine g_dup (pc' := 148) dm4_147 rfl rfl ?_
              refine g_iconst (pc' := 149) (w := 5) dm4_148 rfl (by decide) ?_
              refine g_newarray (pc' := 151) (cap := 5) dm4_149 rfl (wa_char hw) (by decide) (by decide) rfl rfl rfl fun h149 a149 k149 e149 E149 A149 => ?_
              have t144 : a144 < h144.size := A144.lt
              have u144 : h.size ≤ h144.size := E144.1
              have z144 : Z.heap.size ≤ h.size := (EZ).1
              have y144 : a144 ≠ a149 := Nat.ne_of_lt (by omega)
              have F144_149 : Ext h h149 := (ext_trans E144 E149)
              refine g_dup (pc' := 152) dm4_151 rfl rfl ?_
              refine g_iconst (pc' := 153) (w := 0) dm4_152 rfl (by decide) ?_
              refine g_aloadN (pc' := 154) dm4_153 rfl rfl rfl ?_
              refine g_iconst (pc' := 155) (w := 0) dm4_154 rfl (by decide) ?_
              refine g_caload (pc' := 156) dm4_155 rfl (AT.ext F144_149) (by decide) rfl ?_
              refine g_castoreX (pc' := 157) (i := 0) dm4_156 rfl (nar8 o0) A149 (by omega) (by decide) (by decide) (ble rfl) fun h156 K156 A156 => ?_
              have F144_156 : Ext h h156 := ext_keep F144_149 K156 (allS (by omega) all0)
              refine g_dup (pc' := 158) dm4_157 rfl rfl ?_
              refine g_iconst (pc' := 159) (w := 1) dm4_158 rfl (by decide) ?_
              refine g_aloadN (pc' := 160) dm4_159 rfl rfl rfl ?_
              refine g_iconst (pc' := 161) (w := 1) dm4_160 rfl (by decide) ?_
              refine g_caload (pc' := 162) dm4_161 rfl (AT.ext F144_156) (by decide) rfl ?_
              refine g_castoreX (pc' := 163) (i := 1) dm4_162 rfl (nar8 o1) A156 (by omega) (by decide) (by decide) (ble rfl) fun h162 K162 A162 => ?_
              have F144_162 : Ext h h162 := ext_keep F144_156 K162 (allS (by omega) all0)
              refine g_dup (pc' := 164) dm4_163 rfl rfl ?_
              refine g_iconst (pc' := 165) (w := 2) dm4_164 rfl (by decide) ?_
              refine g_aloadN (pc' := 166) dm4_165 rfl rfl rfl ?_
              refine g_iconst (pc' := 167) (w := 2) dm4_166 rfl (by decide) ?_
              refine g_caload (pc' := 168) dm4_167 rfl (AT.ext F144_162) (by decide) rfl ?_
              refine g_castoreX (pc' := 169) (i := 2) dm4_168 rfl (nar8 o2) A162 (by omega) (by decide) (by decide) (ble rfl) fun h168 K168 A168 => ?_
              have F144_168 : Ext h h168 := ext_keep F144_162 K168 (allS (by omega) all0)
              refine g_dup (pc' := 170) dm4_169 rfl rfl ?_
              refine g_iconst (pc' := 171) (w := 3) dm4_170 rfl (by decide) ?_
              refine g_aloadN (pc' := 172) dm4_171 rfl rfl rfl ?_
              refine g_iconst (pc' := 173) (w := 3) dm4_172 rfl (by decide) ?_
              refine g_caload (pc' := 174) dm4_173 rfl (AT.ext F144_168) (by decide) rfl ?_
              refine g_castoreX (pc' := 175) (i := 3) dm4_174 rfl (nar8 o3) A168 (by omega) (by decide) (by decide) (ble rfl) fun h174 K174 A174 => ?_
              have F144_174 : Ext h h174 := ext_keep F144_168 K174 (allS (by omega) all0)
              refine g_dup (pc' := 176) dm4_175 rfl rfl ?_
              refine g_iconst (pc' := 177) (w := 4) dm4_176 rfl (by decide) ?_
              refine g_aloadN (pc' := 178) dm4_177 rfl rfl rfl ?_
              refine g_iconst (pc' := 179) (w := 4) dm4_178 rfl (by decide) ?_
              refine g_caload (pc' := 180) dm4_179 rfl (AT.ext F144_174) (by decide) rfl ?_
              refine g_castoreX (pc' := 181) (i := 4) dm4_180 rfl (nar8 o4) A174 (by omega) (by decide) (by decide) (ble rfl) fun h180 K180 A180 => ?_
              have F144_180 : Ext h h180 := ext_keep F144_174 K180 (allS (by omega) all0)
              refine g_invokespecial (pc' := 184) [a144] [_] dm4_181 rfl rfl (wl_LoggingIsVerbosePinLaw_15 hw) (wm_String_init_lACrV hw) (wb_String_init_lACrV hw) (by decide) (pay_new (cs := [t0, t1, t2, t3, t4]) (n := 5) (own_new hw) (wn_String hw) S hz (ext_trans (EZ) F144_180) (by omega) (((((((A144).ext E149).keep K156).keep K162).keep K168).keep K174).keep K180) (((((((D144 (Or.inr (wy_String_String_value hw)) (ty := .array .byte) (by decide)).ext E149).keep K156 (ninS y144 nin0)).keep K162 (ninS y144 nin0)).keep K168 (ninS y144 nin0)).keep K174 (ninS y144 nin0)).keep K180 (ninS y144 nin0)) (((((((D144 (Or.inr (wy_String_String_coder hw)) (ty := .byte) (by decide)).ext E149).keep K156 (ninS y144 nin0)).keep K162 (ninS y144 nin0)).keep K168 (ninS y144 nin0)).keep K174 (ninS y144 nin0)).keep K180 (ninS y144 nin0)) A180 rfl rfl rfl rfl (inS o0 (inS o1 (inS o2 (inS o3 (inS o4 (in0)))))) rfl rfl) pd_lACrV rfl rfl rfl rfl rfl (fun _ q => by cases List.mem_singleton.mp q; simp) fun v181 h181 q181 l181 => ?_
              obtain ⟨rfl, K181, T144⟩ := q181
              have F144 : Ext h h181 := ext_keep F144_180 K181 (allS (by omega) all0)
              refine g_areturn dm4_184 rfl rfl rfl rfl rfl rfl (⟨a144, rfl, F144, T144⟩)
            · refine g_iloadN (pc' := 186) dm4_185 rfl rfl ?_
              refine g_bipush (pc' := 188) (w := 6) dm4_186 rfl (by decide) ?_
              refine g_icmpne (pc' := 191) (pc2 := 239) dm4_188 rfl (by decide) rfl (fun c188 => ?_) (fun c188 => ?_)
              · have e : j = 6 := (ofNat_inj (by omega) (by omega)).mp c188
                subst e
                refine g_new (pc' := 194) dm4_191 rfl (wc_LoggingIsVerbosePinLaw_13 hw) (wn_String hw) (wi_String hw) rfl rfl fun h191 a191 e191 E191 A191 D191 => ?_
                refine g_dup (pc' := 195) dm4_194 rfl rfl ?_
                refine g_bipush (pc' := 197) (w := 6) dm4_195 rfl (by decide) ?_
                refine g_newarray (pc' := 199) (cap := 6) dm4_197 rfl (wa_char hw) (by decide) (by decide) rfl rfl rfl fun h197 a197 k197 e197 E197 A197 => ?_
                have t191 : a191 < h191.size := A191.lt
                have u191 : h.size ≤ h191.size := E191.1
                have z191 : Z.heap.size ≤ h.size := (EZ).1
                have y191 : a191 ≠ a197 := Nat.ne_of_lt (by omega)
                have F191_197 : Ext h h197 := (ext_trans E191 E197)
                refine g_dup (pc' := 200) dm4_199 rfl rfl ?_
                refine g_iconst (pc' := 201) (w := 0) dm4_200 rfl (by decide) ?_
                refine g_aloadN (pc' := 202) dm4_201 rfl rfl rfl ?_
                refine g_iconst (pc' := 203) (w := 0) dm4_202 rfl (by decide) ?_
                refine g_caload (pc' := 204) dm4_203 rfl (AT.ext F191_197) (by decide) rfl ?_
                refine g_castoreX (pc' := 205) (i := 0) dm4_204 rfl (nar8 o0) A197 (by omega) (by decide) (by decide) (ble rfl) fun h204 K204 A204 => ?_
                have F191_204 : Ext h h204 := ext_keep F191_197 K204 (allS (by omega) all0)
                refine g_dup (pc' := 206) dm4_205 rfl rfl ?_
                refine g_iconst (pc' := 207) (w := 1) dm4_206 rfl (by decide) ?_
                refine g_aloadN (pc' := 208) dm4_207 rfl rfl rfl ?_
                refine g_iconst (pc' := 209) (w := 1) dm4_208 rfl (by decide) ?_
                refine g_caload (pc' := 210) dm4_209 rfl (AT.ext F191_204) (by decide) rfl ?_
                refine g_castoreX (pc' := 211) (i := 1) dm4_210 rfl (nar8 o1) A204 (by omega) (by decide) (by decide) (ble rfl) fun h210 K210 A210 => ?_
                have F191_210 : Ext h h210 := ext_keep F191_204 K210 (allS (by omega) all0)
                refine g_dup (pc' := 212) dm4_211 rfl rfl ?_
                refine g_iconst (pc' := 213) (w := 2) dm4_212 rfl (by decide) ?_
                refine g_aloadN (pc' := 214) dm4_213 rfl rfl rfl ?_
                refine g_iconst (pc' := 215) (w := 2) dm4_214 rfl (by decide) ?_
                refine g_caload (pc' := 216) dm4_215 rfl (AT.ext F191_210) (by decide) rfl ?_
                refine g_castoreX (pc' := 217) (i := 2) dm4_216 rfl (nar8 o2) A210 (by omega) (by decide) (by decide) (ble rfl) fun h216 K216 A216 => ?_
                have F191_216 : Ext h h216 := ext_keep F191_210 K216 (allS (by omega) all0)
                refine g_dup (pc' := 218) dm4_217 rfl rfl ?_
                refine g_iconst (pc' := 219) (w := 3) dm4_218 rfl (by decide) ?_
                refine g_aloadN (pc' := 220) dm4_219 rfl rfl rfl ?_
                refine g_iconst (pc' := 221) (w := 3) dm4_220 rfl (by decide) ?_
                refine g_caload (pc' := 222) dm4_221 rfl (AT.ext F191_216) (by decide) rfl ?_
                refine g_castoreX (pc' := 223) (i := 3) dm4_222 rfl (nar8 o3) A216 (by omega) (by decide) (by decide) (ble rfl) fun h222 K222 A222 => ?_
                have F191_222 : Ext h h222 := ext_keep F191_216 K222 (allS (by omega) all0)
                refine g_dup (pc' := 224) dm4_223 rfl rfl ?_
                refine g_iconst (pc' := 225) (w := 4) dm4_224 rfl (by decide) ?_
                refine g_aloadN (pc' := 226) dm4_225 rfl rfl rfl ?_
                refine g_iconst (pc' := 227) (w := 4) dm4_226 rfl (by decide) ?_
                refine g_caload (pc' := 228) dm4_227 rfl (AT.ext F191_222) (by decide) rfl ?_
                refine g_castoreX (pc' := 229) (i := 4) dm4_228 rfl (nar8 o4) A222 (by omega) (by decide) (by decide) (ble rfl) fun h228 K228 A228 => ?_
                have F191_228 : Ext h h228 := ext_keep F191_222 K228 (allS (by omega) all0)
                refine g_dup (pc' := 230) dm4_229 rfl rfl ?_
                refine g_iconst (pc' := 231) (w := 5) dm4_230 rfl (by decide) ?_
                refine g_aloadN (pc' := 232) dm4_231 rfl rfl rfl ?_
                refine g_iconst (pc' := 233) (w := 5) dm4_232 rfl (by decide) ?_
                refine g_caload (pc' := 234) dm4_233 rfl (AT.ext F191_228) (by decide) rfl ?_
                refine g_castoreX (pc' := 235) (i := 5) dm4_234 rfl (nar8 o5) A228 (by omega) (by decide) (by decide) (ble rfl) fun h234 K234 A234 => ?_
                have F191_234 : Ext h h234 := ext_keep F191_228 K234 (allS (by omega) all0)
                refine g_invokespecial (pc' := 238) [a191] [_] dm4_235 rfl rfl (wl_LoggingIsVerbosePinLaw_15 hw) (wm_String_init_lACrV hw) (wb_String_init_lACrV hw) (by decide) (pay_new (cs := [t0, t1, t2, t3, t4, t5]) (n := 6) (own_new hw) (wn_String hw) S hz (ext_trans (EZ) F191_234) (by omega) ((((((((A191).ext E197).keep K204).keep K210).keep K216).keep K222).keep K228).keep K234) ((((((((D191 (Or.inr (wy_String_String_value hw)) (ty := .array .byte) (by decide)).ext E197).keep K204 (ninS y191 nin0)).keep K210 (ninS y191 nin0)).keep K216 (ninS y191 nin0)).keep K222 (ninS y191 nin0)).keep K228 (ninS y191 nin0)).keep K234 (ninS y191 nin0)) ((((((((D191 (Or.inr (wy_String_String_coder hw)) (ty := .byte) (by decide)).ext E197).keep K204 (ninS y191 nin0)).keep K210 (ninS y191 nin0)).keep K216 (ninS y191 nin0)).keep K222 (ninS y191 nin0)).keep K228 (ninS y191 nin0)).keep K234 (ninS y191 nin0)) A234 rfl rfl rfl rfl (inS o0 (inS o1 (inS o2 (inS o3 (inS o4 (inS o5 (in0))))))) rfl rfl) pd_lACrV rfl rfl rfl rfl rfl (fun _ q => by cases List.mem_singleton.mp q; simp) fun v235 h235 q235 l235 => ?_
                obtain ⟨rfl, K235, T191⟩ := q235
                have F191 : Ext h h235 := ext_keep F191_234 K235 (allS (by omega) all0)
                refine g_areturn dm4_238 rfl rfl rfl rfl rfl rfl (⟨a191, rfl, F191, T191⟩)
              · refine g_iloadN (pc' := 240) dm4_239 rfl rfl ?_
                refine g_bipush (pc' := 242) (w := 7) dm4_240 rfl (by decide) ?_
                refine g_icmpne (pc' := 245) (pc2 := 301) dm4_242 rfl (by decide) rfl (fun c242 => ?_) (fun c242 => ?_)
                · have e : j = 7 := (ofNat_inj (by omega) (by omega)).mp c242
                  subst e
                  refine g_new (pc' := 248) dm4_245 rfl (wc_LoggingIsVerbosePinLaw_13 hw) (wn_String hw) (wi_String hw) rfl rfl fun h245 a245 e245 E245 A245 D245 => ?_
                  refine g_dup (pc' := 249) dm4_248 rfl rfl ?_
                  refine g_bipush (pc' := 251) (w := 7) dm4_249 rfl (by decide) ?_
                  refine g_newarray (pc' := 253) (cap := 7) dm4_251 rfl (wa_char hw) (by decide) (by decide) rfl rfl rfl fun h251 a251 k251 e251 E251 A251 => ?_
                  have t245 : a245 < h245.size := A245.lt
                  have u245 : h.size ≤ h245.size := E245.1
                  have z245 : Z.heap.size ≤ h.size := (EZ).1
                  have y245 : a245 ≠ a251 := Nat.ne_of_lt (by omega)
                  have F245_251 : Ext h h251 := (ext_trans E245 E251)
                  refine g_dup (pc' := 254) dm4_253 rfl rfl ?_
                  refine g_iconst (pc' := 255) (w := 0) dm4_254 rfl (by decide) ?_
                  refine g_aloadN (pc' := 256) dm4_255 rfl rfl rfl ?_
                  refine g_iconst (pc' := 257) (w := 0) dm4_256 rfl (by decide) ?_
                  refine g_caload (pc' := 258) dm4_257 rfl (AT.ext F245_251) (by decide) rfl ?_
                  refine g_castoreX (pc' := 259) (i := 0) dm4_258 rfl (nar8 o0) A251 (by omega) (by decide) (by decide) (ble rfl) fun h258 K258 A258 => ?_
                  have F245_258 : Ext h h258 := ext_keep F245_251 K258 (allS (by omega) all0)
                  refine g_dup (pc' := 260) dm4_259 rfl rfl ?_
                  refine g_iconst (pc' := 261) (w := 1) dm4_260 rfl (by decide) ?_
                  refine g_aloadN (pc' := 262) dm4_261 rfl rfl rfl ?_
                  refine g_iconst (pc' := 263) (w := 1) dm4_262 rfl (by decide) ?_
                  refine g_caload (pc' := 264) dm4_263 rfl (AT.ext F245_258) (by decide) rfl ?_
                  refine g_castoreX (pc' := 265) (i := 1) dm4_264 rfl (nar8 o1) A258 (by omega) (by decide) (by decide) (ble rfl) fun h264 K264 A264 => ?_
                  have F245_264 : Ext h h264 := ext_keep F245_258 K264 (allS (by omega) all0)
                  refine g_dup (pc' := 266) dm4_265 rfl rfl ?_
                  refine g_iconst (pc' := 267) (w := 2) dm4_266 rfl (by decide) ?_
                  refine g_aloadN (pc' := 268) dm4_267 rfl rfl rfl ?_
                  refine g_iconst (pc' := 269) (w := 2) dm4_268 rfl (by decide) ?_
                  refine g_caload (pc' := 270) dm4_269 rfl (AT.ext F245_264) (by decide) rfl ?_
                  refine g_castoreX (pc' := 271) (i := 2) dm4_270 rfl (nar8 o2) A264 (by omega) (by decide) (by decide) (ble rfl) fun h270 K270 A270 => ?_
                  have F245_270 : Ext h h270 := ext_keep F245_264 K270 (allS (by omega) all0)
                  refine g_dup (pc' := 272) dm4_271 rfl rfl ?_
                  refine g_iconst (pc' := 273) (w := 3) dm4_272 rfl (by decide) ?_
                  refine g_aloadN (pc' := 274) dm4_273 rfl rfl rfl ?_
                  refine g_iconst (pc' := 275) (w := 3) dm4_274 rfl (by decide) ?_
                  refine g_caload (pc' := 276) dm4_275 rfl (AT.ext F245_270) (by decide) rfl ?_
                  refine g_castoreX (pc' := 277) (i := 3) dm4_276 rfl (nar8 o3) A270 (by omega) (by decide) (by decide) (ble rfl) fun h276 K276 A276 => ?_
                  have F245_276 : Ext h h276 := ext_keep F245_270 K276 (allS (by omega) all0)
                  refine g_dup (pc' := 278) dm4_277 rfl rfl ?_
                  refine g_iconst (pc' := 279) (w := 4) dm4_278 rfl (by decide) ?_
                  refine g_aloadN (pc' := 280) dm4_279 rfl rfl rfl ?_
                  refine g_iconst (pc' := 281) (w := 4) dm4_280 rfl (by decide) ?_
                  refine g_caload (pc' := 282) dm4_281 rfl (AT.ext F245_276) (by decide) rfl ?_
                  refine g_castoreX (pc' := 283) (i := 4) dm4_282 rfl (nar8 o4) A276 (by omega) (by decide) (by decide) (ble rfl) fun h282 K282 A282 => ?_
                  have F245_282 : Ext h h282 := ext_keep F245_276 K282 (allS (by omega) all0)
                  refine g_dup (pc' := 284) dm4_283 rfl rfl ?_
                  refine g_iconst (pc' := 285) (w := 5) dm4_284 rfl (by decide) ?_
                  refine g_aloadN (pc' := 286) dm4_285 rfl rfl rfl ?_
                  refine g_iconst (pc' := 287) (w := 5) dm4_286 rfl (by decide) ?_
                  refine g_caload (pc' := 288) dm4_287 rfl (AT.ext F245_282) (by decide) rfl ?_
                  refine g_castoreX (pc' := 289) (i := 5) dm4_288 rfl (nar8 o5) A282 (by omega) (by decide) (by decide) (ble rfl) fun h288 K288 A288 => ?_
                  have F245_288 : Ext h h288 := ext_keep F245_282 K288 (allS (by omega) all0)
                  refine g_dup (pc' := 290) dm4_289 rfl rfl ?_
                  refine g_bipush (pc' := 292) (w := 6) dm4_290 rfl (by decide) ?_
                  refine g_aloadN (pc' := 293) dm4_292 rfl rfl rfl ?_
                  refine g_bipush (pc' := 295) (w := 6) dm4_293 rfl (by decide) ?_
                  refine g_caload (pc' := 296) dm4_295 rfl (AT.ext F245_288) (by decide) rfl ?_
                  refine g_castoreX (pc' := 297) (i := 6) dm4_296 rfl (nar8 o6) A288 (by omega) (by decide) (by decide) (ble rfl) fun h296 K296 A296 => ?_
                  have F245_296 : Ext h h296 := ext_keep F245_288 K296 (allS (by omega) all0)
                  refine g_invokespecial (pc' := 300) [a245] [_] dm4_297 rfl rfl (wl_LoggingIsVerbosePinLaw_15 hw) (wm_String_init_lACrV hw) (wb_String_init_lACrV hw) (by decide) (pay_new (cs := [t0, t1, t2, t3, t4, t5, t6]) (n := 7) (own_new hw) (wn_String hw) S hz (ext_trans (EZ) F245_296) (by omega) (((((((((A245).ext E251).keep K258).keep K264).keep K270).keep K276).keep K282).keep K288).keep K296) (((((((((D245 (Or.inr (wy_String_String_value hw)) (ty := .array .byte) (by decide)).ext E251).keep K258 (ninS y245 nin0)).keep K264 (ninS y245 nin0)).keep K270 (ninS y245 nin0)).keep K276 (ninS y245 nin0)).keep K282 (ninS y245 nin0)).keep K288 (ninS y245 nin0)).keep K296 (ninS y245 nin0)) (((((((((D245 (Or.inr (wy_String_String_coder hw)) (ty := .byte) (by decide)).ext E251).keep K258 (ninS y245 nin0)).keep K264 (ninS y245 nin0)).keep K270 (ninS y245 nin0)).keep K276 (ninS y245 nin0)).keep K282 (ninS y245 nin0)).keep K288 (ninS y245 nin0)).keep K296 (ninS y245 nin0)) A296 rfl rfl rfl rfl (inS o0 (inS o1 (inS o2 (inS o3 (inS o4 (inS o5 (inS o6 (in0)))))))) rfl rfl) pd_lACrV rfl rfl rfl rfl rfl (fun _ q => by cases List.mem_singleton.mp q; simp) fun v297 h297 q297 l297 => ?_
                  obtain ⟨rfl, K297, T245⟩ := q297
                  have F245 : Ext h h297 := ext_keep F245_296 K297 (allS (by omega) all0)
                  refine g_areturn dm4_300 rfl rfl rfl rfl rfl rfl (⟨a245, rfl, F245, T245⟩)
                · refine g_iloadN (pc' := 302) dm4_301 rfl rfl ?_
                  refine g_bipush (pc' := 304) (w := 8) dm4_302 rfl (by decide) ?_
                  refine g_icmpne (pc' := 307) (pc2 := 371) dm4_304 rfl (by decide) rfl (fun c304 => ?_) (fun c304 => ?_)
                  · have e : j = 8 := (ofNat_inj (by omega) (by omega)).mp c304
                    subst e
                    refine g_new (pc' := 310) dm4_307 rfl (wc_LoggingIsVerbosePinLaw_13 hw) (wn_String hw) (wi_String hw) rfl rfl fun h307 a307 e307 E307 A307 D307 => ?_
                    refine g_dup (pc' := 311) dm4_310 rfl rfl ?_
                    refine g_bipush (pc' := 313) (w := 8) dm4_311 rfl (by decide) ?_
                    refine g_newarray (pc' := 315) (cap := 8) dm4_313 rfl (wa_char hw) (by decide) (by decide) rfl rfl rfl fun h313 a313 k313 e313 E313 A313 => ?_
                    have t307 : a307 < h307.size := A307.lt
                    have u307 : h.size ≤ h307.size := E307.1
                    have z307 : Z.heap.size ≤ h.size := (EZ).1
                    have y307 : a307 ≠ a313 := Nat.ne_of_lt (by omega)
                    have F307_313 : Ext h h313 := (ext_trans E307 E313)
                    refine g_dup (pc' := 316) dm4_315 rfl rfl ?_
                    refine g_iconst (pc' := 317) (w := 0) dm4_316 rfl (by decide) ?_
                    refine g_aloadN (pc' := 318) dm4_317 rfl rfl rfl ?_
                    refine g_iconst (pc' := 319) (w := 0) dm4_318 rfl (by decide) ?_
                    refine g_caload (pc' := 320) dm4_319 rfl (AT.ext F307_313) (by decide) rfl ?_
                    refine g_castoreX (pc' := 321) (i := 0) dm4_320 rfl (nar8 o0) A313 (by omega) (by decide) (by decide) (ble rfl) fun h320 K320 A320 => ?_
                    have F307_320 : Ext h h320 := ext_keep F307_313 K320 (allS (by omega) all0)
                    refine g_dup (pc' := 322) dm4_321 rfl rfl ?_
                    refine g_iconst (pc' := 323) (w := 1) dm4_322 rfl (by decide) ?_
                    refine g_aloadN (pc' := 324) dm4_323 rfl rfl rfl ?_
                    refine g_iconst (pc' := 325) (w := 1) dm4_324 rfl (by decide) ?_
                    refine g_caload (pc' := 326) dm4_325 rfl (AT.ext F307_320) (by decide) rfl ?_
                    refine g_castoreX (pc' := 327) (i := 1) dm4_326 rfl (nar8 o1) A320 (by omega) (by decide) (by decide) (ble rfl) fun h326 K326 A326 => ?_
                    have F307_326 : Ext h h326 := ext_keep F307_320 K326 (allS (by omega) all0)
                    refine g_dup (pc' := 328) dm4_327 rfl rfl ?_
                    refine g_iconst (pc' := 329) (w := 2) dm4_328 rfl (by decide) ?_
                    refine g_aloadN (pc' := 330) dm4_329 rfl rfl rfl ?_
                    refine g_iconst (pc' := 331) (w := 2) dm4_330 rfl (by decide) ?_
                    refine g_caload (pc' := 332) dm4_331 rfl (AT.ext F307_326) (by decide) rfl ?_
                    refine g_castoreX (pc' := 333) (i := 2) dm4_332 rfl (nar8 o2) A326 (by omega) (by decide) (by decide) (ble rfl) fun h332 K332 A332 => ?_
                    have F307_332 : Ext h h332 := ext_keep F307_326 K332 (allS (by omega) all0)
                    refine g_dup (pc' := 334) dm4_333 rfl rfl ?_
                    refine g_iconst (pc' := 335) (w := 3) dm4_334 rfl (by decide) ?_
                    refine g_aloadN (pc' := 336) dm4_335 rfl rfl rfl ?_
                    refine g_iconst (pc' := 337) (w := 3) dm4_336 rfl (by decide) ?_
                    refine g_caload (pc' := 338) dm4_337 rfl (AT.ext F307_332) (by decide) rfl ?_
                    refine g_castoreX (pc' := 339) (i := 3) dm4_338 rfl (nar8 o3) A332 (by omega) (by decide) (by decide) (ble rfl) fun h338 K338 A338 => ?_
                    have F307_338 : Ext h h338 := ext_keep F307_332 K338 (allS (by omega) all0)
                    refine g_dup (pc' := 340) dm4_339 rfl rfl ?_
                    refine g_iconst (pc' := 341) (w := 4) dm4_340 rfl (by decide) ?_
                    refine g_aloadN (pc' := 342) dm4_341 rfl rfl rfl ?_
                    refine g_iconst (pc' := 343) (w := 4) dm4_342 rfl (by decide) ?_
                    refine g_caload (pc' := 344) dm4_343 rfl (AT.ext F307_338) (by decide) rfl ?_
                    refine g_castoreX (pc' := 345) (i := 4) dm4_344 rfl (nar8 o4) A338 (by omega) (by decide) (by decide) (ble rfl) fun h344 K344 A344 => ?_
                    have F307_344 : Ext h h344 := ext_keep F307_338 K344 (allS (by omega) all0)
                    refine g_dup (pc' := 346) dm4_345 rfl rfl ?_
                    refine g_iconst (pc' := 347) (w := 5) dm4_346 rfl (by decide) ?_
                    refine g_aloadN (pc' := 348) dm4_347 rfl rfl rfl ?_
                    refine g_iconst (pc' := 349) (w := 5) dm4_348 rfl (by decide) ?_
                    refine g_caload (pc' := 350) dm4_349 rfl (AT.ext F307_344) (by decide) rfl ?_
                    refine g_castoreX (pc' := 351) (i := 5) dm4_350 rfl (nar8 o5) A344 (by omega) (by decide) (by decide) (ble rfl) fun h350 K350 A350 => ?_
                    have F307_350 : Ext h h350 := ext_keep F307_344 K350 (allS (by omega) all0)
                    refine g_dup (pc' := 352) dm4_351 rfl rfl ?_
                    refine g_bipush (pc' := 354) (w := 6) dm4_352 rfl (by decide) ?_
                    refine g_aloadN (pc' := 355) dm4_354 rfl rfl rfl ?_
                    refine g_bipush (pc' := 357) (w := 6) dm4_355 rfl (by decide) ?_
                    refine g_caload (pc' := 358) dm4_357 rfl (AT.ext F307_350) (by decide) rfl ?_
                    refine g_castoreX (pc' := 359) (i := 6) dm4_358 rfl (nar8 o6) A350 (by omega) (by decide) (by decide) (ble rfl) fun h358 K358 A358 => ?_
                    have F307_358 : Ext h h358 := ext_keep F307_350 K358 (allS (by omega) all0)
                    refine g_dup (pc' := 360) dm4_359 rfl rfl ?_
                    refine g_bipush (pc' := 362) (w := 7) dm4_360 rfl (by decide) ?_
                    refine g_aloadN (pc' := 363) dm4_362 rfl rfl rfl ?_
                    refine g_bipush (pc' := 365) (w := 7) dm4_363 rfl (by decide) ?_
                    refine g_caload (pc' := 366) dm4_365 rfl (AT.ext F307_358) (by decide) rfl ?_
                    refine g_castoreX (pc' := 367) (i := 7) dm4_366 rfl (nar8 o7) A358 (by omega) (by decide) (by decide) (ble rfl) fun h366 K366 A366 => ?_
                    have F307_366 : Ext h h366 := ext_keep F307_358 K366 (allS (by omega) all0)
                    refine g_invokespecial (pc' := 370) [a307] [_] dm4_367 rfl rfl (wl_LoggingIsVerbosePinLaw_15 hw) (wm_String_init_lACrV hw) (wb_String_init_lACrV hw) (by decide) (pay_new (cs := [t0, t1, t2, t3, t4, t5, t6, t7]) (n := 8) (own_new hw) (wn_String hw) S hz (ext_trans (EZ) F307_366) (by omega) ((((((((((A307).ext E313).keep K320).keep K326).keep K332).keep K338).keep K344).keep K350).keep K358).keep K366) ((((((((((D307 (Or.inr (wy_String_String_value hw)) (ty := .array .byte) (by decide)).ext E313).keep K320 (ninS y307 nin0)).keep K326 (ninS y307 nin0)).keep K332 (ninS y307 nin0)).keep K338 (ninS y307 nin0)).keep K344 (ninS y307 nin0)).keep K350 (ninS y307 nin0)).keep K358 (ninS y307 nin0)).keep K366 (ninS y307 nin0)) ((((((((((D307 (Or.inr (wy_String_String_coder hw)) (ty := .byte) (by decide)).ext E313).keep K320 (ninS y307 nin0)).keep K326 (ninS y307 nin0)).keep K332 (ninS y307 nin0)).keep K338 (ninS y307 nin0)).keep K344 (ninS y307 nin0)).keep K350 (ninS y307 nin0)).keep K358 (ninS y307 nin0)).keep K366 (ninS y307 nin0)) A366 rfl rfl rfl rfl (inS o0 (inS o1 (inS o2 (inS o3 (inS o4 (inS o5 (inS o6 (inS o7 (in0))))))))) rfl rfl) pd_lACrV rfl rfl rfl rfl rfl (fun _ q => by cases List.mem_singleton.mp q; simp) fun v367 h367 q367 l367 => ?_
                    obtain ⟨rfl, K367, T307⟩ := q367
                    have F307 : Ext h h367 := ext_keep F307_366 K367 (allS (by omega) all0)
                    refine g_areturn dm4_370 rfl rfl rfl rfl rfl rfl (⟨a307, rfl, F307, T307⟩)
                  · refine g_iloadN (pc' := 372) dm4_371 rfl rfl ?_
                    refine g_bipush (pc' := 374) (w := 9) dm4_372 rfl (by decide) ?_
                    refine g_icmpne (pc' := 377) (pc2 := 449) dm4_374 rfl (by decide) rfl (fun c374 => ?_) (fun c374 => ?_)
                    · have e : j = 9 := (ofNat_inj (by omega) (by omega)).mp c374
                      subst e
                      refine g_new (pc' := 380) dm4_377 rfl (wc_LoggingIsVerbosePinLaw_13 hw) (wn_String hw) (wi_String hw) rfl rfl fun h377 a377 e377 E377 A377 D377 => ?_
                      refine g_dup (pc' := 381) dm4_380 rfl rfl ?_
                      refine g_bipush (pc' := 383) (w := 9) dm4_381 rfl (by decide) ?_
                      refine g_newarray (pc' := 385) (cap := 9) dm4_383 rfl (wa_char hw) (by decide) (by decide) rfl rfl rfl fun h383 a383 k383 e383 E383 A383 => ?_
                      have t377 : a377 < h377.size := A377.lt
                      have u377 : h.size ≤ h377.size := E377.1
                      have z377 : Z.heap.size ≤ h.size := (EZ).1
                      have y377 : a377 ≠ a383 := Nat.ne_of_lt (by omega)
                      have F377_383 : Ext h h383 := (ext_trans E377 E383)
                      refine g_dup (pc' := 386) dm4_385 rfl rfl ?_
                      refine g_iconst (pc' := 387) (w := 0) dm4_386 rfl (by decide) ?_
                      refine g_aloadN (pc' := 388) dm4_387 rfl rfl rfl ?_
                      refine g_iconst (pc' := 389) (w := 0) dm4_388 rfl (by decide) ?_
                      refine g_caload (pc' := 390) dm4_389 rfl (AT.ext F377_383) (by decide) rfl ?_
                      refine g_castoreX (pc' := 391) (i := 0) dm4_390 rfl (nar8 o0) A383 (by omega) (by decide) (by decide) (ble rfl) fun h390 K390 A390 => ?_
                      have F377_390 : Ext h h390 := ext_keep F377_383 K390 (allS (by omega) all0)
                      refine g_dup (pc' := 392) dm4_391 rfl rfl ?_
                      refine g_iconst (pc' := 393) (w := 1) dm4_392 rfl (by decide) ?_
                      refine g_aloadN (pc' := 394) dm4_393 rfl rfl rfl ?_
                      refine g_iconst (pc' := 395) (w := 1) dm4_394 rfl (by decide) ?_
                      refine g_caload (pc' := 396) dm4_395 rfl (AT.ext F377_390) (by decide) rfl ?_
                      refine g_castoreX (pc' := 397) (i := 1) dm4_396 rfl (nar8 o1) A390 (by omega) (by decide) (by decide) (ble rfl) fun h396 K396 A396 => ?_
                      have F377_396 : Ext h h396 := ext_keep F377_390 K396 (allS (by omega) all0)
                      refine g_dup (pc' := 398) dm4_397 rfl rfl ?_
                      refine g_iconst (pc' := 399) (w := 2) dm4_398 rfl (by decide) ?_
                      refine g_aloadN (pc' := 400) dm4_399 rfl rfl rfl ?_
                      refine g_iconst (pc' := 401) (w := 2) dm4_400 rfl (by decide) ?_
                      refine g_caload (pc' := 402) dm4_401 rfl (AT.ext F377_396) (by decide) rfl ?_
                      refine g_castoreX (pc' := 403) (i := 2) dm4_402 rfl (nar8 o2) A396 (by omega) (by decide) (by decide) (ble rfl) fun h402 K402 A402 => ?_
                      have F377_402 : Ext h h402 := ext_keep F377_396 K402 (allS (by omega) all0)
                      refine g_dup (pc' := 404) dm4_403 rfl rfl ?_
                      refine g_iconst (pc' := 405) (w := 3) dm4_404 rfl (by decide) ?_
                      refine g_aloadN (pc' := 406) dm4_405 rfl rfl rfl ?_
                      refine g_iconst (pc' := 407) (w := 3) dm4_406 rfl (by decide) ?_
                      refine g_caload (pc' := 408) dm4_407 rfl (AT.ext F377_402) (by decide) rfl ?_
                      refine g_castoreX (pc' := 409) (i := 3) dm4_408 rfl (nar8 o3) A402 (by omega) (by decide) (by decide) (ble rfl) fun h408 K408 A408 => ?_
                      have F377_408 : Ext h h408 := ext_keep F377_402 K408 (allS (by omega) all0)
                      refine g_dup (pc' := 410) dm4_409 rfl rfl ?_
                      refine g_iconst (pc' := 411) (w := 4) dm4_410 rfl (by decide) ?_
                      refine g_aloadN (pc' := 412) dm4_411 rfl rfl rfl ?_
                      refine g_iconst (pc' := 413) (w := 4) dm4_412 rfl (by decide) ?_
                      refine g_caload (pc' := 414) dm4_413 rfl (AT.ext F377_408) (by decide) rfl ?_
                      refine g_castoreX (pc' := 415) (i := 4) dm4_414 rfl (nar8 o4) A408 (by omega) (by decide) (by decide) (ble rfl) fun h414 K414 A414 => ?_
                      have F377_414 : Ext h h414 := ext_keep F377_408 K414 (allS (by omega) all0)
                      refine g_dup (pc' := 416) dm4_415 rfl rfl ?_
                      refine g_iconst (pc' := 417) (w := 5) dm4_416 rfl (by decide) ?_
                      refine g_aloadN (pc' := 418) dm4_417 rfl rfl rfl ?_
                      refine g_iconst (pc' := 419) (w := 5) dm4_418 rfl (by decide) ?_
                      refine g_caload (pc' := 420) dm4_419 rfl (AT.ext F377_414) (by decide) rfl ?_
                      refine g_castoreX (pc' := 421) (i := 5) dm4_420 rfl (nar8 o5) A414 (by omega) (by decide) (by decide) (ble rfl) fun h420 K420 A420 => ?_
                      have F377_420 : Ext h h420 := ext_keep F377_414 K420 (allS (by omega) all0)
                      refine g_dup (pc' := 422) dm4_421 rfl rfl ?_
                      refine g_bipush (pc' := 424) (w := 6) dm4_422 rfl (by decide) ?_
                      refine g_aloadN (pc' := 425) dm4_424 rfl rfl rfl ?_
                      refine g_bipush (pc' := 427) (w := 6) dm4_425 rfl (by decide) ?_
                      refine g_caload (pc' := 428) dm4_427 rfl (AT.ext F377_420) (by decide) rfl ?_
                      refine g_castoreX (pc' := 429) (i := 6) dm4_428 rfl (nar8 o6) A420 (by omega) (by decide) (by decide) (ble rfl) fun h428 K428 A428 => ?_
                      have F377_428 : Ext h h428 := ext_keep F377_420 K428 (allS (by omega) all0)
                      refine g_dup (pc' := 430) dm4_429 rfl rfl ?_
                      refine g_bipush (pc' := 432) (w := 7) dm4_430 rfl (by decide) ?_
                      refine g_aloadN (pc' := 433) dm4_432 rfl rfl rfl ?_
                      refine g_bipush (pc' := 435) (w := 7) dm4_433 rfl (by decide) ?_
                      refine g_caload (pc' := 436) dm4_435 rfl (AT.ext F377_428) (by decide) rfl ?_
                      refine g_castoreX (pc' := 437) (i := 7) dm4_436 rfl (nar8 o7) A428 (by omega) (by decide) (by decide) (ble rfl) fun h436 K436 A436 => ?_
                      have F377_436 : Ext h h436 := ext_keep F377_428 K436 (allS (by omega) all0)
                      refine g_dup (pc' := 438) dm4_437 rfl rfl ?_
                      refine g_bipush (pc' := 440) (w := 8) dm4_438 rfl (by decide) ?_
                      refine g_aloadN (pc' := 441) dm4_440 rfl rfl rfl ?_
                      refine g_bipush (pc' := 443) (w := 8) dm4_441 rfl (by decide) ?_
                      refine g_caload (pc' := 444) dm4_443 rfl (AT.ext F377_436) (by decide) rfl ?_
                      refine g_castoreX (pc' := 445) (i := 8) dm4_444 rfl (nar8 o8) A436 (by omega) (by decide) (by decide) (ble rfl) fun h444 K444 A444 => ?_
                      have F377_444 : Ext h h444 := ext_keep F377_436 K444 (allS (by omega) all0)
                      refine g_invokespecial (pc' := 448) [a377] [_] dm4_445 rfl rfl (wl_LoggingIsVerbosePinLaw_15 hw) (wm_String_init_lACrV hw) (wb_String_init_lACrV hw) (by decide) (pay_new (cs := [t0, t1, t2, t3, t4, t5, t6, t7, t8]) (n := 9) (own_new hw) (wn_String hw) S hz (ext_trans (EZ) F377_444) (by omega) (((((((((((A377).ext E383).keep K390).keep K396).keep K402).keep K408).keep K414).keep K420).keep K428).keep K436).keep K444) (((((((((((D377 (Or.inr (wy_String_String_value hw)) (ty := .array .byte) (by decide)).ext E383).keep K390 (ninS y377 nin0)).keep K396 (ninS y377 nin0)).keep K402 (ninS y377 nin0)).keep K408 (ninS y377 nin0)).keep K414 (ninS y377 nin0)).keep K420 (ninS y377 nin0)).keep K428 (ninS y377 nin0)).keep K436 (ninS y377 nin0)).keep K444 (ninS y377 nin0)) (((((((((((D377 (Or.inr (wy_String_String_coder hw)) (ty := .byte) (by decide)).ext E383).keep K390 (ninS y377 nin0)).keep K396 (ninS y377 nin0)).keep K402 (ninS y377 nin0)).keep K408 (ninS y377 nin0)).keep K414 (ninS y377 nin0)).keep K420 (ninS y377 nin0)).keep K428 (ninS y377 nin0)).keep K436 (ninS y377 nin0)).keep K444 (ninS y377 nin0)) A444 rfl rfl rfl rfl (inS o0 (inS o1 (inS o2 (inS o3 (inS o4 (inS o5 (inS o6 (inS o7 (inS o8 (in0)))))))))) rfl rfl) pd_lACrV rfl rfl rfl rfl rfl (fun _ q => by cases List.mem_singleton.mp q; simp) fun v445 h445 q445 l445 => ?_
                      obtain ⟨rfl, K445, T377⟩ := q445
                      have F377 : Ext h h445 := ext_keep F377_444 K445 (allS (by omega) all0)
                      refine g_areturn dm4_448 rfl rfl rfl rfl rfl rfl (⟨a377, rfl, F377, T377⟩)
                    · have e : j = 10 := by
                        rcases j with _ | _ | _ | _ | _ | _ | _ | _ | _ | _ | _ | j
                        all_goals first | rfl | omega | (exfalso; first | exact c1 rfl | exact c17 rfl | exact c39 rfl | exact c67 rfl | exact c101 rfl | exact c141 rfl | exact c188 rfl | exact c242 rfl | exact c304 rfl | exact c374 rfl)
                      subst e
                      refine g_new (pc' := 452) dm4_449 rfl (wc_LoggingIsVerbosePinLaw_13 hw) (wn_String hw) (wi_String hw) rfl rfl fun h449 a449 e449 E449 A449 D449 => ?_
                      refine g_dup (pc' := 453) dm4_452 rfl rfl ?_
                      refine g_bipush (pc' := 455) (w := 10) dm4_453 rfl (by decide) ?_
                      refine g_newarray (pc' := 457) (cap := 10) dm4_455 rfl (wa_char hw) (by decide) (by decide) rfl rfl rfl fun h455 a455 k455 e455 E455 A455 => ?_
                      have t449 : a449 < h449.size := A449.lt
                      have u449 : h.size ≤ h449.size := E449.1
                      have z449 : Z.heap.size ≤ h.size := (EZ).1
                      have y449 : a449 ≠ a455 := Nat.ne_of_lt (by omega)
                      have F449_455 : Ext h h455 := (ext_trans E449 E455)
                      refine g_dup (pc' := 458) dm4_457 rfl rfl ?_
                      refine g_iconst (pc' := 459) (w := 0) dm4_458 rfl (by decide) ?_
                      refine g_aloadN (pc' := 460) dm4_459 rfl rfl rfl ?_
                      refine g_iconst (pc' := 461) (w := 0) dm4_460 rfl (by decide) ?_
                      refine g_caload (pc' := 462) dm4_461 rfl (AT.ext F449_455) (by decide) rfl ?_
                      refine g_castoreX (pc' := 463) (i := 0) dm4_462 rfl (nar8 o0) A455 (by omega) (by decide) (by decide) (ble rfl) fun h462 K462 A462 => ?_
                      have F449_462 : Ext h h462 := ext_keep F449_455 K462 (allS (by omega) all0)
                      refine g_dup (pc' := 464) dm4_463 rfl rfl ?_
                      refine g_iconst (pc' := 465) (w := 1) dm4_464 rfl (by decide) ?_
                      refine g_aloadN (pc' := 466) dm4_465 rfl rfl rfl ?_
                      refine g_iconst (pc' := 467) (w := 1) dm4_466 rfl (by decide) ?_
                      refine g_caload (pc' := 468) dm4_467 rfl (AT.ext F449_462) (by decide) rfl ?_
                      refine g_castoreX (pc' := 469) (i := 1) dm4_468 rfl (nar8 o1) A462 (by omega) (by decide) (by decide) (ble rfl) fun h468 K468 A468 => ?_
                      have F449_468 : Ext h h468 := ext_keep F449_462 K468 (allS (by omega) all0)
                      refine g_dup (pc' := 470) dm4_469 rfl rfl ?_
                      refine g_iconst (pc' := 471) (w := 2) dm4_470 rfl (by decide) ?_
                      refine g_aloadN (pc' := 472) dm4_471 rfl rfl rfl ?_
                      refine g_iconst (pc' := 473) (w := 2) dm4_472 rfl (by decide) ?_
                      refine g_caload (pc' := 474) dm4_473 rfl (AT.ext F449_468) (by decide) rfl ?_
                      refine g_castoreX (pc' := 475) (i := 2) dm4_474 rfl (nar8 o2) A468 (by omega) (by decide) (by decide) (ble rfl) fun h474 K474 A474 => ?_
                      have F449_474 : Ext h h474 := ext_keep F449_468 K474 (allS (by omega) all0)
                      refine g_dup (pc' := 476) dm4_475 rfl rfl ?_
                      refine g_iconst (pc' := 477) (w := 3) dm4_476 rfl (by decide) ?_
                      refine g_aloadN (pc' := 478) dm4_477 rfl rfl rfl ?_
                      refine g_iconst (pc' := 479) (w := 3) dm4_478 rfl (by decide) ?_
                      refine g_caload (pc' := 480) dm4_479 rfl (AT.ext F449_474) (by decide) rfl ?_
                      refine g_castoreX (pc' := 481) (i := 3) dm4_480 rfl (nar8 o3) A474 (by omega) (by decide) (by decide) (ble rfl) fun h480 K480 A480 => ?_
                      have F449_480 : Ext h h480 := ext_keep F449_474 K480 (allS (by omega) all0)
                      refine g_dup (pc' := 482) dm4_481 rfl rfl ?_
                      refine g_iconst (pc' := 483) (w := 4) dm4_482 rfl (by decide) ?_
                      refine g_aloadN (pc' := 484) dm4_483 rfl rfl rfl ?_
                      refine g_iconst (pc' := 485) (w := 4) dm4_484 rfl (by decide) ?_
                      refine g_caload (pc' := 486) dm4_485 rfl (AT.ext F449_480) (by decide) rfl ?_
                      refine g_castoreX (pc' := 487) (i := 4) dm4_486 rfl (nar8 o4) A480 (by omega) (by decide) (by decide) (ble rfl) fun h486 K486 A486 => ?_
                      have F449_486 : Ext h h486 := ext_keep F449_480 K486 (allS (by omega) all0)
                      refine g_dup (pc' := 488) dm4_487 rfl rfl ?_
                      refine g_iconst (pc' := 489) (w := 5) dm4_488 rfl (by decide) ?_
                      refine g_aloadN (pc' := 490) dm4_489 rfl rfl rfl ?_
                      refine g_iconst (pc' := 491) (w := 5) dm4_490 rfl (by decide) ?_
                      refine g_caload (pc' := 492) dm4_491 rfl (AT.ext F449_486) (by decide) rfl ?_
                      refine g_castoreX (pc' := 493) (i := 5) dm4_492 rfl (nar8 o5) A486 (by omega) (by decide) (by decide) (ble rfl) fun h492 K492 A492 => ?_
                      have F449_492 : Ext h h492 := ext_keep F449_486 K492 (allS (by omega) all0)
                      refine g_dup (pc' := 494) dm4_493 rfl rfl ?_
                      refine g_bipush (pc' := 496) (w := 6) dm4_494 rfl (by decide) ?_
                      refine g_aloadN (pc' := 497) dm4_496 rfl rfl rfl ?_
                      refine g_bipush (pc' := 499) (w := 6) dm4_497 rfl (by decide) ?_
                      refine g_caload (pc' := 500) dm4_499 rfl (AT.ext F449_492) (by decide) rfl ?_
                      refine g_castoreX (pc' := 501) (i := 6) dm4_500 rfl (nar8 o6) A492 (by omega) (by decide) (by decide) (ble rfl) fun h500 K500 A500 => ?_
                      have F449_500 : Ext h h500 := ext_keep F449_492 K500 (allS (by omega) all0)
                      refine g_dup (pc' := 502) dm4_501 rfl rfl ?_
                      refine g_bipush (pc' := 504) (w := 7) dm4_502 rfl (by decide) ?_
                      refine g_aloadN (pc' := 505) dm4_504 rfl rfl rfl ?_
                      refine g_bipush (pc' := 507) (w := 7) dm4_505 rfl (by decide) ?_
                      refine g_caload (pc' := 508) dm4_507 rfl (AT.ext F449_500) (by decide) rfl ?_
                      refine g_castoreX (pc' := 509) (i := 7) dm4_508 rfl (nar8 o7) A500 (by omega) (by decide) (by decide) (ble rfl) fun h508 K508 A508 => ?_
                      have F449_508 : Ext h h508 := ext_keep F449_500 K508 (allS (by omega) all0)
                      refine g_dup (pc' := 510) dm4_509 rfl rfl ?_
                      refine g_bipush (pc' := 512) (w := 8) dm4_510 rfl (by decide) ?_
                      refine g_aloadN (pc' := 513) dm4_512 rfl rfl rfl ?_
                      refine g_bipush (pc' := 515) (w := 8) dm4_513 rfl (by decide) ?_
                      refine g_caload (pc' := 516) dm4_515 rfl (AT.ext F449_508) (by decide) rfl ?_
                      refine g_castoreX (pc' := 517) (i := 8) dm4_516 rfl (nar8 o8) A508 (by omega) (by decide) (by decide) (ble rfl) fun h516 K516 A516 => ?_
                      have F449_516 : Ext h h516 := ext_keep F449_508 K516 (allS (by omega) all0)
                      refine g_dup (pc' := 518) dm4_517 rfl rfl ?_
                      refine g_bipush (pc' := 520) (w := 9) dm4_518 rfl (by decide) ?_
                      refine g_aloadN (pc' := 521) dm4_520 rfl rfl rfl ?_
                      refine g_bipush (pc' := 523) (w := 9) dm4_521 rfl (by decide) ?_
                      refine g_caload (pc' := 524) dm4_523 rfl (AT.ext F449_516) (by decide) rfl ?_
                      refine g_castoreX (pc' := 525) (i := 9) dm4_524 rfl (nar8 o9) A516 (by omega) (by decide) (by decide) (ble rfl) fun h524 K524 A524 => ?_
                      have F449_524 : Ext h h524 := ext_keep F449_516 K524 (allS (by omega) all0)
                      refine g_invokespecial (pc' := 528) [a449] [_] dm4_525 rfl rfl (wl_LoggingIsVerbosePinLaw_15 hw) (wm_String_init_lACrV hw) (wb_String_init_lACrV hw) (by decide) (pay_new (cs := [t0, t1, t2, t3, t4, t5, t6, t7, t8, t9]) (n := 10) (own_new hw) (wn_String hw) S hz (ext_trans (EZ) F449_524) (by omega) ((((((((((((A449).ext E455).keep K462).keep K468).keep K474).keep K480).keep K486).keep K492).keep K500).keep K508).keep K516).keep K524) ((((((((((((D449 (Or.inr (wy_String_String_value hw)) (ty := .array .byte) (by decide)).ext E455).keep K462 (ninS y449 nin0)).keep K468 (ninS y449 nin0)).keep K474 (ninS y449 nin0)).keep K480 (ninS y449 nin0)).keep K486 (ninS y449 nin0)).keep K492 (ninS y449 nin0)).keep K500 (ninS y449 nin0)).keep K508 (ninS y449 nin0)).keep K516 (ninS y449 nin0)).keep K524 (ninS y449 nin0)) ((((((((((((D449 (Or.inr (wy_String_String_coder hw)) (ty := .byte) (by decide)).ext E455).keep K462 (ninS y449 nin0)).keep K468 (ninS y449 nin0)).keep K474 (ninS y449 nin0)).keep K480 (ninS y449 nin0)).keep K486 (ninS y449 nin0)).keep K492 (ninS y449 nin0)).keep K500 (ninS y449 nin0)).keep K508 (ninS y449 nin0)).keep K516 (ninS y449 nin0)).keep K524 (ninS y449 nin0)) A524 rfl rfl rfl rfl (inS o0 (inS o1 (inS o2 (inS o3 (inS o4 (inS o5 (inS o6 (inS o7 (inS o8 (inS o9 (in0))))))))))) rfl rfl) pd_lACrV rfl rfl rfl rfl rfl (fun _ q => by cases List.mem_singleton.mp q; simp) fun v525 h525 q525 l525 => ?_
                      obtain ⟨rfl, K525, T449⟩ := q525
                      have F449 : Ext h h525 := ext_keep F449_524 K525 (allS (by omega) all0)
                      refine g_areturn dm4_528 rfl rfl rfl rfl rfl rfl (⟨a449, rfl, F449, T449⟩)
theorem met_verb (hw : ∀ d ∈ tables_1, d.before a0 Z = true) (S : Sta Z Z.heap "java/lang/String" "COMPACT_STRINGS" "Z" (.int z)) (hz : ¬ z = 0) {s : Addr} {cs : List Int32} (T : Str Z h s cs) :
    MetW [] l yVerb prog_1_method_2_code 1 (some .boolean) (Rm 2 4 52 28) #[.ref s] Z a0 consts_1 false [] h (fun v h' => v = some (.int (b01 (decide (cs = lv ∨ cs = sv)))) ∧ Ext h h') := by
  refine MetW.of (plainFor_of_name (by first | (simp [plainName, overriddenIn]; done) | decide +kernel)) fun X hX => Go.old fun EZ => ?_
  show Go X _ _ _ _ _ _ _ _ _ _ _ _ _ _ _ _ (mkF X.m 0 #[.val (.ref s)] [])
  refine g_aloadN (pc' := 1) dp1_2_0 rfl rfl rfl ?_
  refine g_lit (pc' := 3) rfl [45, 45, 118, 101, 114, 98, 111, 115, 101] 36 dp1_2_1 rfl (wt_Logging_9 hw) (own_atoms hw) (by decide) ⟨by decide, by decide⟩ (by decide) (by decide) (by decide) rfl rfl rfl rfl rfl fun h1 a1 E1 T1 n1 => ?_
  refine g_invokevirtual (pc' := 6) [] [_] dp1_2_3 rfl (wl_Logging_11 hw) (wd_String_equals_lLjavalangObjectrZ hw) (wv_String_String_equals_lLjavalangObjectrZ hw) (wm_String_equals_lLjavalangObjectrZ hw) (by decide) (T.exa.ext E1) (pay_eq (own_eq hw) (wn_String hw) S hz (ext_trans EZ E1) (T.ext E1) T1 rfl rfl) pd_lLjavalangObjectrZ rfl rfl rfl rfl rfl (fun _ q => nomatch q) fun v3 h3 q3 l3 => ?_
  obtain ⟨⟨rfl, e⟩ | ⟨rfl, e⟩, rfl⟩ := q3
  · refine g_ifne (pc' := 9) (pc2 := 18) dp1_2_6 rfl (by decide) rfl (fun c6 => False.elim (absurd c6 (by decide))) (fun c6 => ?_)
    refine g_iconst (pc' := 19) (w := 1) dp1_2_18 rfl (by decide) ?_
    refine g_goto (pc' := 23) dp1_2_19 (by decide) rfl ?_
    refine g_ireturn (t := .boolean) dp1_2_23 rfl (by simp) rfl rfl rfl (⟨by rw [decide_eq_true (Or.inl e)]; rfl, E1⟩)
  · refine g_ifne (pc' := 9) (pc2 := 18) dp1_2_6 rfl (by decide) rfl (fun c6 => ?_) (fun c6 => False.elim (c6 rfl))
    refine g_aloadN (pc' := 10) dp1_2_9 rfl rfl rfl ?_
    refine g_lit (pc' := 12) rfl [45, 118] 8 dp1_2_10 rfl (wt_Logging_17 hw) (own_atoms hw) (by decide) ⟨by decide, by decide⟩ (by decide) (by decide) (by decide) rfl rfl rfl rfl rfl fun h10 a10 E10 T10 n10 => ?_
    refine g_invokevirtual (pc' := 15) [] [_] dp1_2_12 rfl (wl_Logging_11 hw) (wd_String_equals_lLjavalangObjectrZ hw) (wv_String_String_equals_lLjavalangObjectrZ hw) (wm_String_equals_lLjavalangObjectrZ hw) (by decide) ((T.exa.ext E1).ext E10) (pay_eq (own_eq hw) (wn_String hw) S hz (ext_trans (ext_trans EZ E1) E10) ((T.ext E1).ext E10) T10 rfl rfl) pd_lLjavalangObjectrZ rfl rfl rfl rfl rfl (fun _ q => nomatch q) fun v12 h12 q12 l12 => ?_
    obtain ⟨⟨rfl, e'⟩ | ⟨rfl, e'⟩, rfl⟩ := q12
    · refine g_ifeq (pc' := 18) (pc2 := 22) dp1_2_15 rfl (by decide) rfl (fun c15 => ?_) (fun c15 => False.elim (absurd c15 (by decide)))
      refine g_iconst (pc' := 19) (w := 1) dp1_2_18 rfl (by decide) ?_
      refine g_goto (pc' := 23) dp1_2_19 (by decide) rfl ?_
      refine g_ireturn (t := .boolean) dp1_2_23 rfl (by simp) rfl rfl rfl (⟨by rw [decide_eq_true (Or.inr e')]; rfl, ext_trans E1 E10⟩)
    · refine g_ifeq (pc' := 18) (pc2 := 22) dp1_2_15 rfl (by decide) rfl (fun c15 => False.elim (c15 rfl)) (fun c15 => ?_)
      refine g_iconst (pc' := 23) (w := 0) dp1_2_22 rfl (by decide) ?_
      refine g_ireturn (t := .boolean) dp1_2_23 rfl (by simp) rfl rfl rfl (⟨by rw [decide_eq_false (fun q => q.elim e e')]; rfl, ext_trans E1 E10⟩)
theorem own_n (x : Int32) : ∃ j : Nat, j < 11 ∧ (x &&& 2147483647) % 11 = Int32.ofNat j := by
  obtain ⟨m, hm, e⟩ := nn_ofNat (and_lt (x := x) 2147483647 (by decide)).1
  refine ⟨m % 11, Nat.mod_lt _ (by decide), ?_⟩
  have e : (x &&& 2147483647) = Int32.ofNat m := e
  rw [e]
  exact mod_ofNat hm (by decide) (by decide)
theorem own_law {t0 t1 t2 t3 t4 t5 t6 t7 t8 t9 : Int32} {j : Nat} (hj : j < 11) : (List.take j [t0, t1, t2, t3, t4, t5, t6, t7, t8, t9] = lv ∨ List.take j [t0, t1, t2, t3, t4, t5, t6, t7, t8, t9] = sv) ↔ ((Int32.ofNat j = 2 ∧ t0 = 45 ∧ t1 = 118) ∨ (Int32.ofNat j = 9 ∧ t0 = 45 ∧ t1 = 45 ∧ t2 = 118 ∧ t3 = 101 ∧ t4 = 114 ∧ t5 = 98 ∧ t6 = 111 ∧ t7 = 115 ∧ t8 = 101)) := by
  have e2 : Int32.ofNat j = 2 ↔ j = 2 := ofNat_inj (b := 2) (by omega) (by decide)
  have e9 : Int32.ofNat j = 9 ↔ j = 9 := ofNat_inj (b := 9) (by omega) (by decide)
  rw [e2, e9]
  rcases j with _ | _ | _ | _ | _ | _ | _ | _ | _ | _ | _ | j
  all_goals first | omega | simp [lv, sv]
abbrev GoL (X : Cx) (Z : State) (a0 : Array Value) (h : Heap) (k n : Nat) (g : JFrame) : Prop := Go X room_1 Z a0 consts_1 false x code maxLocals ret (fun v h' => v = some (.int 1)) room_1.cells room_1.slots [] h k n g
theorem own_back (hw : ∀ d ∈ tables_1, d.before a0 Z = true) (S : Sta Z Z.heap "java/lang/String" "COMPACT_STRINGS" "Z" (.int z)) (hz : ¬ z = 0) {X : Cx} {t0 t1 t2 t3 t4 t5 t6 t7 t8 t9 p0 p1 p2 p3 p4 : Int32} {j : Nat} (hj : j < 11) {arr s : Addr} {kA : ClassId} {d : Value} (EZ : Ext Z.heap h) (AT : Arv Z h arr kA .char 10 [.int t0, .int t1, .int t2, .int t3, .int t4, .int t5, .int t6, .int t7, .int t8, .int t9] d) (T : Str Z h s (List.take j [t0, t1, t2, t3, t4, t5, t6, t7, t8, t9])) :
    GoL X Z a0 h 7 34 (mkF X.m 172 #[.val (.int p0), .val (.int p1), .val (.int p2), .val (.int p3), .val (.int p4), .val (.int (Int32.ofNat j)), .val (.ref arr), .val (.ref s), .unset, .unset, .unset] []) := by
  have J316 : ∀ (b8 b9 : Int32) (b : Bool), (b = true ↔ ((Int32.ofNat j = 2 ∧ t0 = 45 ∧ t1 = 118) ∨ (Int32.ofNat j = 9 ∧ t0 = 45 ∧ t1 = 45 ∧ t2 = 118 ∧ t3 = 101 ∧ t4 = 114 ∧ t5 = 98 ∧ t6 = 111 ∧ t7 = 115 ∧ t8 = 101))) → GoL X Z a0 h 7 34 (mkF X.m 316 #[.val (.int p0), .val (.int p1), .val (.int p2), .val (.int p3), .val (.int p4), .val (.int (Int32.ofNat j)), .val (.ref arr), .val (.ref s), .val (.int b8), .val (.int b9), .unset] [.int (b01 b)]) := by
    intro b8 b9 b hb
    refine g_istore (pc' := 318) (Ls' := #[_, _, _, _, _, _, _, _, _, _, _]) at_316 rfl rfl ?_
    refine g_aload (pc' := 320) at_318 rfl rfl rfl ?_
    refine g_invokestatic (pc' := 323) [] [_] at_320 rfl (wl_LoggingIsVerbosePinLaw_27 hw) (ws_Logging_isVerbose_lLjavalangStringrZ hw) (wi_Logging hw) (wb_Logging_isVerbose_lLjavalangStringrZ hw) (by decide) (Pay.of_met (met_verb hw S hz T) (wb_Logging_isVerbose_lLjavalangStringrZ hw) (wi_Logging hw) rfl rfl) pd_lLjavalangStringrZ rfl rfl rfl rfl rfl (fun _ q => nomatch q) fun v320 h320 q320 l320 => ?_
    obtain ⟨rfl, E320⟩ := q320
    have e : decide (List.take j [t0, t1, t2, t3, t4, t5, t6, t7, t8, t9] = lv ∨ List.take j [t0, t1, t2, t3, t4, t5, t6, t7, t8, t9] = sv) = b := by
      rw [Bool.eq_iff_iff, decide_eq_true_eq, own_law hj]; exact hb.symm
    rw [e]
    refine g_iload (pc' := 325) at_323 rfl rfl ?_
    refine g_icmpne (pc' := 328) (pc2 := 332) at_325 rfl (by decide) rfl (fun c325 => ?_) (fun c325 => False.elim (c325 rfl))
    refine g_iconst (pc' := 329) (w := 1) at_328 rfl (by decide) ?_
    refine g_goto (pc' := 333) at_329 (by decide) rfl ?_
    refine g_ireturn (t := .boolean) at_333 rfl (by simp) rfl rfl rfl (rfl)
  have J299 : ∀ (b8 b9 : Bool), (b8 = true ↔ (Int32.ofNat j = 2 ∧ t0 = 45 ∧ t1 = 118)) → (b9 = true ↔ (Int32.ofNat j = 9 ∧ t0 = 45 ∧ t1 = 45 ∧ t2 = 118 ∧ t3 = 101 ∧ t4 = 114 ∧ t5 = 98 ∧ t6 = 111 ∧ t7 = 115 ∧ t8 = 101)) → GoL X Z a0 h 7 34 (mkF X.m 299 #[.val (.int p0), .val (.int p1), .val (.int p2), .val (.int p3), .val (.int p4), .val (.int (Int32.ofNat j)), .val (.ref arr), .val (.ref s), .val (.int (b01 b8)), .unset, .unset] [.int (b01 b9)]) := by
    intro b8 b9 h8 h9
    refine g_istore (pc' := 301) (Ls' := #[_, _, _, _, _, _, _, _, _, _, _]) at_299 rfl rfl ?_
    refine g_iload (pc' := 303) at_301 rfl rfl ?_
    cases b8 with
    | true =>
      refine g_ifne (pc' := 306) (pc2 := 311) at_303 rfl (by decide) rfl (fun c303 => False.elim (absurd c303 (by decide))) (fun c303 => ?_)
      refine g_iconst (pc' := 312) (w := 1) at_311 rfl (by decide) ?_
      refine g_goto (pc' := 316) at_312 (by decide) rfl ?_
      exact J316 _ _ true (by simp only [true_iff]; exact Or.inl (h8.mp rfl))
    | false =>
      refine g_ifne (pc' := 306) (pc2 := 311) at_303 rfl (by decide) rfl (fun c303 => ?_) (fun c303 => False.elim (c303 rfl))
      refine g_iload (pc' := 308) at_306 rfl rfl ?_
      cases b9 with
      | true =>
        refine g_ifeq (pc' := 311) (pc2 := 315) at_308 rfl (by decide) rfl (fun c308 => ?_) (fun c308 => False.elim (absurd c308 (by decide)))
        refine g_iconst (pc' := 312) (w := 1) at_311 rfl (by decide) ?_
        refine g_goto (pc' := 316) at_312 (by decide) rfl ?_
        exact J316 _ _ true (by simp only [true_iff]; exact Or.inr (h9.mp rfl))
      | false =>
        refine g_ifeq (pc' := 311) (pc2 := 315) at_308 rfl (by decide) rfl (fun c308 => False.elim (c308 rfl)) (fun c308 => ?_)
        refine g_iconst (pc' := 316) (w := 0) at_315 rfl (by decide) ?_
        exact J316 _ _ false (by simp only [Bool.false_eq_true, false_iff]; exact fun q => q.elim (fun r => Bool.noConfusion (h8.mpr r)) (fun r => Bool.noConfusion (h9.mpr r)))
  have J201 : ∀ (b8 : Bool), (b8 = true ↔ (Int32.ofNat j = 2 ∧ t0 = 45 ∧ t1 = 118)) → GoL X Z a0 h 7 34 (mkF X.m 201 #[.val (.int p0), .val (.int p1), .val (.int p2), .val (.int p3), .val (.int p4), .val (.int (Int32.ofNat j)), .val (.ref arr), .val (.ref s), .unset, .unset, .unset] [.int (b01 b8)]) := by
    intro b8 h8
    have no : ¬ (Int32.ofNat j = 9 ∧ t0 = 45 ∧ t1 = 45 ∧ t2 = 118 ∧ t3 = 101 ∧ t4 = 114 ∧ t5 = 98 ∧ t6 = 111 ∧ t7 = 115 ∧ t8 = 101) → GoL X Z a0 h 7 34 (mkF X.m 298 #[.val (.int p0), .val (.int p1), .val (.int p2), .val (.int p3), .val (.int p4), .val (.int (Int32.ofNat j)), .val (.ref arr), .val (.ref s), .val (.int (b01 b8)), .unset, .unset] []) := by
      intro q
      refine g_iconst (pc' := 299) (w := 0) at_298 rfl (by decide) ?_
      exact J299 b8 false h8 (by simp only [Bool.false_eq_true, false_iff]; exact q)
    refine g_istore (pc' := 203) (Ls' := #[_, _, _, _, _, _, _, _, _, _, _]) at_201 rfl rfl ?_
    refine g_iload (pc' := 205) at_203 rfl rfl ?_
    refine g_bipush (pc' := 207) (w := 9) at_205 rfl (by decide) ?_
    refine g_icmpne (pc' := 210) (pc2 := 298) at_207 rfl (by decide) rfl (fun c207 => ?_) (fun c207 => ?_)
    · refine g_aload (pc' := 212) at_210 rfl rfl rfl ?_
      refine g_iconst (pc' := 213) (w := 0) at_212 rfl (by decide) ?_
      refine g_caload (pc' := 214)  at_213 rfl (AT) (by decide) rfl ?_
      refine g_bipush (pc' := 216) (w := 45) at_214 rfl (by decide) ?_
      refine g_icmpne (pc' := 219) (pc2 := 298) at_216 rfl (by decide) rfl (fun c216 => ?_) (fun c216 => ?_)
      · refine g_aload (pc' := 221) at_219 rfl rfl rfl ?_
        refine g_iconst (pc' := 222) (w := 1) at_221 rfl (by decide) ?_
        refine g_caload (pc' := 223)  at_222 rfl (AT) (by decide) rfl ?_
        refine g_bipush (pc' := 225) (w := 45) at_223 rfl (by decide) ?_
        refine g_icmpne (pc' := 228) (pc2 := 298) at_225 rfl (by decide) rfl (fun c225 => ?_) (fun c225 => ?_)
        · refine g_aload (pc' := 230) at_228 rfl rfl rfl ?_
          refine g_iconst (pc' := 231) (w := 2) at_230 rfl (by decide) ?_
          refine g_caload (pc' := 232)  at_231 rfl (AT) (by decide) rfl ?_
          refine g_bipush (pc' := 234) (w := 118) at_232 rfl (by decide) ?_
          refine g_icmpne (pc' := 237) (pc2 := 298) at_234 rfl (by decide) rfl (fun c234 => ?_) (fun c234 => ?_)
          · refine g_aload (pc' := 239) at_237 rfl rfl rfl ?_
            refine g_iconst (pc' := 240) (w := 3) at_239 rfl (by decide) ?_
            refine g_caload (pc' := 241)  at_240 rfl (AT) (by decide) rfl ?_
            refine g_bipush (pc' := 243) (w := 101) at_241 rfl (by decide) ?_
            refine g_icmpne (pc' := 246) (pc2 := 298) at_243 rfl (by decide) rfl (fun c243 => ?_) (fun c243 => ?_)
            · refine g_aload (pc' := 248) at_246 rfl rfl rfl ?_
              refine g_iconst (pc' := 249) (w := 4) at_248 rfl (by decide) ?_
              refine g_caload (pc' := 250)  at_249 rfl (AT) (by decide) rfl ?_
              refine g_bipush (pc' := 252) (w := 114) at_250 rfl (by decide) ?_
              refine g_icmpne (pc' := 255) (pc2 := 298) at_252 rfl (by decide) rfl (fun c252 => ?_) (fun c252 => ?_)
              · refine g_aload (pc' := 257) at_255 rfl rfl rfl ?_
                refine g_iconst (pc' := 258) (w := 5) at_257 rfl (by decide) ?_
                refine g_caload (pc' := 259)  at_258 rfl (AT) (by decide) rfl ?_
                refine g_bipush (pc' := 261) (w := 98) at_259 rfl (by decide) ?_
                refine g_icmpne (pc' := 264) (pc2 := 298) at_261 rfl (by decide) rfl (fun c261 => ?_) (fun c261 => ?_)
                · refine g_aload (pc' := 266) at_264 rfl rfl rfl ?_
                  refine g_bipush (pc' := 268) (w := 6) at_266 rfl (by decide) ?_
                  refine g_caload (pc' := 269)  at_268 rfl (AT) (by decide) rfl ?_
                  refine g_bipush (pc' := 271) (w := 111) at_269 rfl (by decide) ?_
                  refine g_icmpne (pc' := 274) (pc2 := 298) at_271 rfl (by decide) rfl (fun c271 => ?_) (fun c271 => ?_)
                  · refine g_aload (pc' := 276) at_274 rfl rfl rfl ?_
                    refine g_bipush (pc' := 278) (w := 7) at_276 rfl (by decide) ?_
                    refine g_caload (pc' := 279)  at_278 rfl (AT) (by decide) rfl ?_
                    refine g_bipush (pc' := 281) (w := 115) at_279 rfl (by decide) ?_
                    refine g_icmpne (pc' := 284) (pc2 := 298) at_281 rfl (by decide) rfl (fun c281 => ?_) (fun c281 => ?_)
                    · refine g_aload (pc' := 286) at_284 rfl rfl rfl ?_
                      refine g_bipush (pc' := 288) (w := 8) at_286 rfl (by decide) ?_
                      refine g_caload (pc' := 289)  at_288 rfl (AT) (by decide) rfl ?_
                      refine g_bipush (pc' := 291) (w := 101) at_289 rfl (by decide) ?_
                      refine g_icmpne (pc' := 294) (pc2 := 298) at_291 rfl (by decide) rfl (fun c291 => ?_) (fun c291 => ?_)
                      · refine g_iconst (pc' := 295) (w := 1) at_294 rfl (by decide) ?_
                        refine g_goto (pc' := 299) at_295 (by decide) rfl ?_
                        exact J299 b8 true h8 (by simp only [true_iff]; exact ⟨c207, c216, c225, c234, c243, c252, c261, c271, c281, c291⟩)
                      · exact no fun q => c291 q.2.2.2.2.2.2.2.2.2
                    · exact no fun q => c281 q.2.2.2.2.2.2.2.2.1
                  · exact no fun q => c271 q.2.2.2.2.2.2.2.1
                · exact no fun q => c261 q.2.2.2.2.2.2.1
              · exact no fun q => c252 q.2.2.2.2.2.1
            · exact no fun q => c243 q.2.2.2.2.1
          · exact no fun q => c234 q.2.2.2.1
        · exact no fun q => c225 q.2.2.1
      · exact no fun q => c216 q.2.1
    · exact no fun q => c207 q.1
  have no : ¬ (Int32.ofNat j = 2 ∧ t0 = 45 ∧ t1 = 118) → GoL X Z a0 h 7 34 (mkF X.m 200 #[.val (.int p0), .val (.int p1), .val (.int p2), .val (.int p3), .val (.int p4), .val (.int (Int32.ofNat j)), .val (.ref arr), .val (.ref s), .unset, .unset, .unset] []) := by
    intro q
    refine g_iconst (pc' := 201) (w := 0) at_200 rfl (by decide) ?_
    exact J201 false (by simp only [Bool.false_eq_true, false_iff]; exact q)
  refine g_iload (pc' := 174) at_172 rfl rfl ?_
  refine g_iconst (pc' := 175) (w := 2) at_174 rfl (by decide) ?_
  refine g_icmpne (pc' := 178) (pc2 := 200) at_175 rfl (by decide) rfl (fun c175 => ?_) (fun c175 => ?_)
  · refine g_aload (pc' := 180) at_178 rfl rfl rfl ?_
    refine g_iconst (pc' := 181) (w := 0) at_180 rfl (by decide) ?_
    refine g_caload (pc' := 182)  at_181 rfl (AT) (by decide) rfl ?_
    refine g_bipush (pc' := 184) (w := 45) at_182 rfl (by decide) ?_
    refine g_icmpne (pc' := 187) (pc2 := 200) at_184 rfl (by decide) rfl (fun c184 => ?_) (fun c184 => ?_)
    · refine g_aload (pc' := 189) at_187 rfl rfl rfl ?_
      refine g_iconst (pc' := 190) (w := 1) at_189 rfl (by decide) ?_
      refine g_caload (pc' := 191)  at_190 rfl (AT) (by decide) rfl ?_
      refine g_bipush (pc' := 193) (w := 118) at_191 rfl (by decide) ?_
      refine g_icmpne (pc' := 196) (pc2 := 200) at_193 rfl (by decide) rfl (fun c193 => ?_) (fun c193 => ?_)
      · refine g_iconst (pc' := 197) (w := 1) at_196 rfl (by decide) ?_
        refine g_goto (pc' := 201) at_197 (by decide) rfl ?_
        exact J201 true (by simp only [true_iff]; exact ⟨c175, c184, c193⟩)
      · exact no fun q => c193 q.2.2
    · exact no fun q => c184 q.2.1
  · exact no fun q => c175 q.1
theorem met_law (hw : ∀ d ∈ tables_1, d.before a0 Z = true) (S : Sta Z Z.heap "java/lang/String" "COMPACT_STRINGS" "Z" (.int z)) (hz : ¬ z = 0) (ws : List Jvm.Cond) (p0 p1 p2 p3 p4 : Int32) :
    MetW ws l x code maxLocals ret room_1 #[.int p0, .int p1, .int p2, .int p3, .int p4] Z a0 consts_1 false [] h (fun v h' => v = some (.int 1)) := by
  refine MetW.of (plainFor_of_name (by first | (simp [plainName, overriddenIn]; done) | decide +kernel)) fun X hX => Go.old fun EZ => ?_
  show Go X _ _ _ _ _ _ _ _ _ _ _ _ _ _ _ _ (mkF X.m 0 #[.val (.int p0), .val (.int p1), .val (.int p2), .val (.int p3), .val (.int p4), .unset, .unset, .unset, .unset, .unset, .unset] [])
  obtain ⟨j, hj, ej⟩ := own_n p0
  refine g_iloadN (pc' := 1) at_0 rfl rfl ?_
  refine g_ldcI (pc' := 3) at_1 rfl (wk_LoggingIsVerbosePinLaw_18 hw) ?_
  refine g_iand (pc' := 4) at_3 rfl ?_
  refine g_bipush (pc' := 6) (w := 11) at_4 rfl (by decide) ?_
  refine g_irem (pc' := 7) at_6 rfl (by decide) ?_
  rw [ej]
  refine g_istore (pc' := 9) (Ls' := #[_, _, _, _, _, _, _, _, _, _, _]) at_7 rfl rfl ?_
  refine g_bipush (pc' := 11) (w := 10) at_9 rfl (by decide) ?_
  refine g_newarray (pc' := 13) (cap := 10) at_11 rfl (wa_char hw) (by decide) (by decide) rfl rfl rfl fun h11 a11 k11 e11 E11 A11 => ?_
  refine g_astore (pc' := 15) (Ls' := #[_, _, _, _, _, _, _, _, _, _, _]) at_13 rfl rfl rfl ?_
  have z0 : Z.heap.size ≤ h.size := EZ.1
  refine g_aload (pc' := 17) at_15 rfl rfl rfl ?_
  refine g_iconst (pc' := 18) (w := 0) at_17 rfl (by decide) ?_
  refine g_iload (pc' := 20) at_18 rfl rfl ?_
  refine g_iconst (pc' := 21) (w := 0) at_20 rfl (by decide) ?_
  refine g_iloadN (pc' := 22) at_21 rfl rfl ?_
  refine g_iconst (pc' := 23) (w := 0) at_22 rfl (by decide) ?_
  refine g_iload (pc' := 25) at_23 rfl rfl ?_
  refine g_invokestatic (pc' := 28) [] [_, _, _, _, _] at_25 rfl (wl_LoggingIsVerbosePinLaw_19 hw) (ws_LoggingIsVerbosePinLaw_pick_lIIIIIrC hw) (wi_LoggingIsVerbosePinLaw hw) (wb_LoggingIsVerbosePinLaw_pick_lIIIIIrC hw) (by decide) (Pay.of_met (met_pick hw _ _ _ _ _) (wb_LoggingIsVerbosePinLaw_pick_lIIIIIrC hw) (wi_LoggingIsVerbosePinLaw hw) rfl rfl) pd_lIIIIIrC rfl rfl rfl rfl rfl (fun _ q => nomatch q) fun v25 h25 q25 l25 => ?_
  obtain ⟨t0, rfl, o0, rfl⟩ := q25
  refine g_castoreX (pc' := 29) (i := 0) at_28 rfl (nar8 o0) (A11) (by omega) (by decide) (by decide) (ble rfl) fun h28 K28 A28 => ?_
  have X28 : Ext h h28 := ext_keep E11 K28 (allS (by omega) all0)
  refine g_aload (pc' := 31) at_29 rfl rfl rfl ?_
  refine g_iconst (pc' := 32) (w := 1) at_31 rfl (by decide) ?_
  refine g_iload (pc' := 34) at_32 rfl rfl ?_
  refine g_iconst (pc' := 35) (w := 1) at_34 rfl (by decide) ?_
  refine g_iloadN (pc' := 36) at_35 rfl rfl ?_
  refine g_iconst (pc' := 37) (w := 1) at_36 rfl (by decide) ?_
  refine g_iload (pc' := 39) at_37 rfl rfl ?_
  refine g_invokestatic (pc' := 42) [] [_, _, _, _, _] at_39 rfl (wl_LoggingIsVerbosePinLaw_19 hw) (ws_LoggingIsVerbosePinLaw_pick_lIIIIIrC hw) (wi_LoggingIsVerbosePinLaw hw) (wb_LoggingIsVerbosePinLaw_pick_lIIIIIrC hw) (by decide) (Pay.of_met (met_pick hw _ _ _ _ _) (wb_LoggingIsVerbosePinLaw_pick_lIIIIIrC hw) (wi_LoggingIsVerbosePinLaw hw) rfl rfl) pd_lIIIIIrC rfl rfl rfl rfl rfl (fun _ q => nomatch q) fun v39 h39 q39 l39 => ?_
  obtain ⟨t1, rfl, o1, rfl⟩ := q39
  refine g_castoreX (pc' := 43) (i := 1) at_42 rfl (nar8 o1) (A28) (by omega) (by decide) (by decide) (ble rfl) fun h42 K42 A42 => ?_
  have X42 : Ext h h42 := ext_keep X28 K42 (allS (by omega) all0)
  refine g_aload (pc' := 45) at_43 rfl rfl rfl ?_
  refine g_iconst (pc' := 46) (w := 2) at_45 rfl (by decide) ?_
  refine g_iload (pc' := 48) at_46 rfl rfl ?_
  refine g_iconst (pc' := 49) (w := 2) at_48 rfl (by decide) ?_
  refine g_iloadN (pc' := 50) at_49 rfl rfl ?_
  refine g_iconst (pc' := 51) (w := 2) at_50 rfl (by decide) ?_
  refine g_iload (pc' := 53) at_51 rfl rfl ?_
  refine g_invokestatic (pc' := 56) [] [_, _, _, _, _] at_53 rfl (wl_LoggingIsVerbosePinLaw_19 hw) (ws_LoggingIsVerbosePinLaw_pick_lIIIIIrC hw) (wi_LoggingIsVerbosePinLaw hw) (wb_LoggingIsVerbosePinLaw_pick_lIIIIIrC hw) (by decide) (Pay.of_met (met_pick hw _ _ _ _ _) (wb_LoggingIsVerbosePinLaw_pick_lIIIIIrC hw) (wi_LoggingIsVerbosePinLaw hw) rfl rfl) pd_lIIIIIrC rfl rfl rfl rfl rfl (fun _ q => nomatch q) fun v53 h53 q53 l53 => ?_
  obtain ⟨t2, rfl, o2, rfl⟩ := q53
  refine g_castoreX (pc' := 57) (i := 2) at_56 rfl (nar8 o2) (A42) (by omega) (by decide) (by decide) (ble rfl) fun h56 K56 A56 => ?_
  have X56 : Ext h h56 := ext_keep X42 K56 (allS (by omega) all0)
  refine g_aload (pc' := 59) at_57 rfl rfl rfl ?_
  refine g_iconst (pc' := 60) (w := 3) at_59 rfl (by decide) ?_
  refine g_iload (pc' := 62) at_60 rfl rfl ?_
  refine g_iconst (pc' := 63) (w := 3) at_62 rfl (by decide) ?_
  refine g_iloadN (pc' := 64) at_63 rfl rfl ?_
  refine g_iconst (pc' := 65) (w := 3) at_64 rfl (by decide) ?_
  refine g_iload (pc' := 67) at_65 rfl rfl ?_
  refine g_invokestatic (pc' := 70) [] [_, _, _, _, _] at_67 rfl (wl_LoggingIsVerbosePinLaw_19 hw) (ws_LoggingIsVerbosePinLaw_pick_lIIIIIrC hw) (wi_LoggingIsVerbosePinLaw hw) (wb_LoggingIsVerbosePinLaw_pick_lIIIIIrC hw) (by decide) (Pay.of_met (met_pick hw _ _ _ _ _) (wb_LoggingIsVerbosePinLaw_pick_lIIIIIrC hw) (wi_LoggingIsVerbosePinLaw hw) rfl rfl) pd_lIIIIIrC rfl rfl rfl rfl rfl (fun _ q => nomatch q) fun v67 h67 q67 l67 => ?_
  obtain ⟨t3, rfl, o3, rfl⟩ := q67
  refine g_castoreX (pc' := 71) (i := 3) at_70 rfl (nar8 o3) (A56) (by omega) (by decide) (by decide) (ble rfl) fun h70 K70 A70 => ?_
  have X70 : Ext h h70 := ext_keep X56 K70 (allS (by omega) all0)
  refine g_aload (pc' := 73) at_71 rfl rfl rfl ?_
  refine g_iconst (pc' := 74) (w := 4) at_73 rfl (by decide) ?_
  refine g_iload (pc' := 76) at_74 rfl rfl ?_
  refine g_iconst (pc' := 77) (w := 4) at_76 rfl (by decide) ?_
  refine g_iloadN (pc' := 78) at_77 rfl rfl ?_
  refine g_iconst (pc' := 79) (w := 0) at_78 rfl (by decide) ?_
  refine g_iload (pc' := 81) at_79 rfl rfl ?_
  refine g_invokestatic (pc' := 84) [] [_, _, _, _, _] at_81 rfl (wl_LoggingIsVerbosePinLaw_19 hw) (ws_LoggingIsVerbosePinLaw_pick_lIIIIIrC hw) (wi_LoggingIsVerbosePinLaw hw) (wb_LoggingIsVerbosePinLaw_pick_lIIIIIrC hw) (by decide) (Pay.of_met (met_pick hw _ _ _ _ _) (wb_LoggingIsVerbosePinLaw_pick_lIIIIIrC hw) (wi_LoggingIsVerbosePinLaw hw) rfl rfl) pd_lIIIIIrC rfl rfl rfl rfl rfl (fun _ q => nomatch q) fun v81 h81 q81 l81 => ?_
  obtain ⟨t4, rfl, o4, rfl⟩ := q81
  refine g_castoreX (pc' := 85) (i := 4) at_84 rfl (nar8 o4) (A70) (by omega) (by decide) (by decide) (ble rfl) fun h84 K84 A84 => ?_
  have X84 : Ext h h84 := ext_keep X70 K84 (allS (by omega) all0)
  refine g_aload (pc' := 87) at_85 rfl rfl rfl ?_
  refine g_iconst (pc' := 88) (w := 5) at_87 rfl (by decide) ?_
  refine g_iload (pc' := 90) at_88 rfl rfl ?_
  refine g_iconst (pc' := 91) (w := 5) at_90 rfl (by decide) ?_
  refine g_iloadN (pc' := 92) at_91 rfl rfl ?_
  refine g_iconst (pc' := 93) (w := 1) at_92 rfl (by decide) ?_
  refine g_iload (pc' := 95) at_93 rfl rfl ?_
  refine g_invokestatic (pc' := 98) [] [_, _, _, _, _] at_95 rfl (wl_LoggingIsVerbosePinLaw_19 hw) (ws_LoggingIsVerbosePinLaw_pick_lIIIIIrC hw) (wi_LoggingIsVerbosePinLaw hw) (wb_LoggingIsVerbosePinLaw_pick_lIIIIIrC hw) (by decide) (Pay.of_met (met_pick hw _ _ _ _ _) (wb_LoggingIsVerbosePinLaw_pick_lIIIIIrC hw) (wi_LoggingIsVerbosePinLaw hw) rfl rfl) pd_lIIIIIrC rfl rfl rfl rfl rfl (fun _ q => nomatch q) fun v95 h95 q95 l95 => ?_
  obtain ⟨t5, rfl, o5, rfl⟩ := q95
  refine g_castoreX (pc' := 99) (i := 5) at_98 rfl (nar8 o5) (A84) (by omega) (by decide) (by decide) (ble rfl) fun h98 K98 A98 => ?_
  have X98 : Ext h h98 := ext_keep X84 K98 (allS (by omega) all0)
  refine g_aload (pc' := 101) at_99 rfl rfl rfl ?_
  refine g_bipush (pc' := 103) (w := 6) at_101 rfl (by decide) ?_
  refine g_iload (pc' := 105) at_103 rfl rfl ?_
  refine g_bipush (pc' := 107) (w := 6) at_105 rfl (by decide) ?_
  refine g_iloadN (pc' := 108) at_107 rfl rfl ?_
  refine g_iconst (pc' := 109) (w := 2) at_108 rfl (by decide) ?_
  refine g_iload (pc' := 111) at_109 rfl rfl ?_
  refine g_invokestatic (pc' := 114) [] [_, _, _, _, _] at_111 rfl (wl_LoggingIsVerbosePinLaw_19 hw) (ws_LoggingIsVerbosePinLaw_pick_lIIIIIrC hw) (wi_LoggingIsVerbosePinLaw hw) (wb_LoggingIsVerbosePinLaw_pick_lIIIIIrC hw) (by decide) (Pay.of_met (met_pick hw _ _ _ _ _) (wb_LoggingIsVerbosePinLaw_pick_lIIIIIrC hw) (wi_LoggingIsVerbosePinLaw hw) rfl rfl) pd_lIIIIIrC rfl rfl rfl rfl rfl (fun _ q => nomatch q) fun v111 h111 q111 l111 => ?_
  obtain ⟨t6, rfl, o6, rfl⟩ := q111
  refine g_castoreX (pc' := 115) (i := 6) at_114 rfl (nar8 o6) (A98) (by omega) (by decide) (by decide) (ble rfl) fun h114 K114 A114 => ?_
  have X114 : Ext h h114 := ext_keep X98 K114 (allS (by omega) all0)
  refine g_aload (pc' := 117) at_115 rfl rfl rfl ?_
  refine g_bipush (pc' := 119) (w := 7) at_117 rfl (by decide) ?_
  refine g_iload (pc' := 121) at_119 rfl rfl ?_
  refine g_bipush (pc' := 123) (w := 7) at_121 rfl (by decide) ?_
  refine g_iloadN (pc' := 124) at_123 rfl rfl ?_
  refine g_iconst (pc' := 125) (w := 3) at_124 rfl (by decide) ?_
  refine g_iload (pc' := 127) at_125 rfl rfl ?_
  refine g_invokestatic (pc' := 130) [] [_, _, _, _, _] at_127 rfl (wl_LoggingIsVerbosePinLaw_19 hw) (ws_LoggingIsVerbosePinLaw_pick_lIIIIIrC hw) (wi_LoggingIsVerbosePinLaw hw) (wb_LoggingIsVerbosePinLaw_pick_lIIIIIrC hw) (by decide) (Pay.of_met (met_pick hw _ _ _ _ _) (wb_LoggingIsVerbosePinLaw_pick_lIIIIIrC hw) (wi_LoggingIsVerbosePinLaw hw) rfl rfl) pd_lIIIIIrC rfl rfl rfl rfl rfl (fun _ q => nomatch q) fun v127 h127 q127 l127 => ?_
  obtain ⟨t7, rfl, o7, rfl⟩ := q127
  refine g_castoreX (pc' := 131) (i := 7) at_130 rfl (nar8 o7) (A114) (by omega) (by decide) (by decide) (ble rfl) fun h130 K130 A130 => ?_
  have X130 : Ext h h130 := ext_keep X114 K130 (allS (by omega) all0)
  refine g_aload (pc' := 133) at_131 rfl rfl rfl ?_
  refine g_bipush (pc' := 135) (w := 8) at_133 rfl (by decide) ?_
  refine g_iload (pc' := 137) at_135 rfl rfl ?_
  refine g_bipush (pc' := 139) (w := 8) at_137 rfl (by decide) ?_
  refine g_iloadN (pc' := 140) at_139 rfl rfl ?_
  refine g_iconst (pc' := 141) (w := 0) at_140 rfl (by decide) ?_
  refine g_iload (pc' := 143) at_141 rfl rfl ?_
  refine g_invokestatic (pc' := 146) [] [_, _, _, _, _] at_143 rfl (wl_LoggingIsVerbosePinLaw_19 hw) (ws_LoggingIsVerbosePinLaw_pick_lIIIIIrC hw) (wi_LoggingIsVerbosePinLaw hw) (wb_LoggingIsVerbosePinLaw_pick_lIIIIIrC hw) (by decide) (Pay.of_met (met_pick hw _ _ _ _ _) (wb_LoggingIsVerbosePinLaw_pick_lIIIIIrC hw) (wi_LoggingIsVerbosePinLaw hw) rfl rfl) pd_lIIIIIrC rfl rfl rfl rfl rfl (fun _ q => nomatch q) fun v143 h143 q143 l143 => ?_
  obtain ⟨t8, rfl, o8, rfl⟩ := q143
  refine g_castoreX (pc' := 147) (i := 8) at_146 rfl (nar8 o8) (A130) (by omega) (by decide) (by decide) (ble rfl) fun h146 K146 A146 => ?_
  have X146 : Ext h h146 := ext_keep X130 K146 (allS (by omega) all0)
  refine g_aload (pc' := 149) at_147 rfl rfl rfl ?_
  refine g_bipush (pc' := 151) (w := 9) at_149 rfl (by decide) ?_
  refine g_iload (pc' := 153) at_151 rfl rfl ?_
  refine g_bipush (pc' := 155) (w := 9) at_153 rfl (by decide) ?_
  refine g_iloadN (pc' := 156) at_155 rfl rfl ?_
  refine g_iconst (pc' := 157) (w := 1) at_156 rfl (by decide) ?_
  refine g_iload (pc' := 159) at_157 rfl rfl ?_
  refine g_invokestatic (pc' := 162) [] [_, _, _, _, _] at_159 rfl (wl_LoggingIsVerbosePinLaw_19 hw) (ws_LoggingIsVerbosePinLaw_pick_lIIIIIrC hw) (wi_LoggingIsVerbosePinLaw hw) (wb_LoggingIsVerbosePinLaw_pick_lIIIIIrC hw) (by decide) (Pay.of_met (met_pick hw _ _ _ _ _) (wb_LoggingIsVerbosePinLaw_pick_lIIIIIrC hw) (wi_LoggingIsVerbosePinLaw hw) rfl rfl) pd_lIIIIIrC rfl rfl rfl rfl rfl (fun _ q => nomatch q) fun v159 h159 q159 l159 => ?_
  obtain ⟨t9, rfl, o9, rfl⟩ := q159
  refine g_castoreX (pc' := 163) (i := 9) at_162 rfl (nar8 o9) (A146) (by omega) (by decide) (by decide) (ble rfl) fun h162 K162 A162 => ?_
  have X162 : Ext h h162 := ext_keep X146 K162 (allS (by omega) all0)
  have AT : Arv Z h162 a11 k11 .char 10 [.int t0, .int t1, .int t2, .int t3, .int t4, .int t5, .int t6, .int t7, .int t8, .int t9] (.int 0) := A162
  clear A11 A28 A42 A56 A70 A84 A98 A114 A130 A146 A162
  refine g_iload (pc' := 165) at_163 rfl rfl ?_
  refine g_aload (pc' := 167) at_165 rfl rfl rfl ?_
  refine g_invokestatic (pc' := 170) [] [_, _] at_167 rfl (wl_LoggingIsVerbosePinLaw_23 hw) (ws_LoggingIsVerbosePinLaw_make_lIACrLjavalangString hw) (wi_LoggingIsVerbosePinLaw hw) (wb_LoggingIsVerbosePinLaw_make_lIACrLjavalangString hw) (by decide) (Pay.of_met (met_make hw S hz o0 o1 o2 o3 o4 o5 o6 o7 o8 o9 hj AT) (wb_LoggingIsVerbosePinLaw_make_lIACrLjavalangString hw) (wi_LoggingIsVerbosePinLaw hw) rfl rfl) pd_lIACrLjavalangString rfl rfl rfl rfl rfl (fun _ q => nomatch q) fun v167 h167 q167 l167 => ?_
  obtain ⟨s, rfl, E167, T167⟩ := q167
  refine g_astore (pc' := 172) (Ls' := #[_, _, _, _, _, _, _, _, _, _, _]) at_170 rfl rfl rfl ?_
  exact Go.drop (Go.mono 7 34 rfl rfl (own_back hw S hz hj (ext_trans EZ (ext_trans X162 E167)) (AT.ext E167) T167))
end Law
set_option maxRecDepth 65536 in
set_option maxHeartbeats 40000000 in
theorem comes_1 {Post : Tables → Env → Array Value → State → Outcome → State → Prop} (hpost : ∀ tb e args s v u, (limb_1_1.after args s (.returned v) u = true ∧ limb_1_2.after args s (.returned v) u = true ∧ True) → ReturnedEndW s (.returned v) u (Jvm.fieldLocs frame_1_writes args s ++ Jvm.arrayLocs frame_1_arrays args s ++ Jvm.staticLocs frame_1_statics s) 24 3264 → Post tb e args s (.returned v) u) :
    ArmFor flags0 classFile x code maxLocals ret World_1 tables_1 room_1 Calls_1 rest_1 Pre_1 Post := by
  intro l hfl _ _ p e ha hc hk s m args below hf hA hF happ hP
  obtain ⟨hcalls, hrest, hpre⟩ := hP
  obtain ⟨-, -, -, hnamed, -, -, -, hat⟩ := (Spec.applies_iff hf).mp happ
  obtain ⟨hg, hn⟩ := and_e (Cond.before_iff.mp (show (Jvm.Cond.and given_1 narrow_1).before args s = true from hpre))
  obtain ⟨hcount, hg⟩ := and_e hg
  obtain ⟨g0, hg⟩ := and_e hg
  obtain ⟨g1, hg⟩ := and_e hg
  obtain ⟨g2, hg⟩ := and_e hg
  obtain ⟨g3, hg⟩ := and_e hg
  have g4 := hg
  obtain ⟨w0, w1, w2, w3, w4, rfl⟩ : ∃ w0 w1 w2 w3 w4 : Value, args = #[w0, w1, w2, w3, w4] := by
    have hs : args.size = 5 := by simpa [Cond.value, given_1] using hcount
    obtain ⟨L⟩ := args
    match L, hs with
    | [w0, w1, w2, w3, w4], _ => exact ⟨w0, w1, w2, w3, w4, rfl⟩
  have hw := fun d (hd : d ∈ tables_1) => atoms_spec (ws := Jvm.Cond.code x code maxLocals ret :: tables_1) hat d (List.mem_cons_of_mem _ hd)
  obtain ⟨hsets, hown0⟩ := atoms_of _ (rest_1_c_eq ▸ (show rest_1_c.before _ s = true from hrest))
  have hfit : Fit s := fun {y c} hc i hi => by
    obtain ⟨ha, rfl⟩ := Array.getElem?_eq_some_iff.mp hc
    have q := List.all_eq_true.mp ((Array.all_eq_true_iff_forall_mem.mp hF) _ (Array.getElem_mem ha)) i (List.mem_range.mpr hi)
    simpa [Array.getElem?_eq_getElem hi] using q
  obtain ⟨i0, e0⟩ := is_v g0
  obtain rfl : w0 = (.int i0) := Option.some.inj e0
  obtain ⟨i1, e1⟩ := is_v g1
  obtain rfl : w1 = (.int i1) := Option.some.inj e1
  obtain ⟨i2, e2⟩ := is_v g2
  obtain rfl : w2 = (.int i2) := Option.some.inj e2
  obtain ⟨i3, e3⟩ := is_v g3
  obtain rfl : w3 = (.int i3) := Option.some.inj e3
  obtain ⟨i4, e4⟩ := is_v g4
  obtain rfl : w4 = (.int i4) := Option.some.inj e4
  have n5 := not_v (Cond.before_iff.mp (hsets _ (List.mem_of_getElem? (i := 2) rfl)))
  obtain ⟨zc, ezc⟩ := is_v (Cond.before_iff.mp (hsets _ (List.mem_of_getElem? (i := 1) rfl)))
  have S12 : Sta s s.heap "java/lang/String" "COMPACT_STRINGS" "Z" (.int zc) := Sta.start ezc (Or.inl (hsets _ (List.mem_of_getElem? (i := 0) rfl)))
  have c17 : ¬ (zc = (0 : Int32)) := gotF (Cond.eq_ints ezc (Term.int_eval (0))) n5
  obtain ⟨vf, evf, rvf⟩ := isR_v (Cond.before_iff.mp (hsets _ (List.mem_of_getElem? (i := 8) rfl)))
  have S16 : Sta s s.heap "jdk/internal/util/Preconditions" "SIOOBE_FORMATTER" "Ljava/util/function/BiFunction;" vf := Sta.start evf (Or.inl (hsets _ (List.mem_of_getElem? (i := 7) rfl)))
  have hheld : ∀ p ∈ consts_1, Jvm.Lit.constHeld s p.1 p.2 := fun p hp => hcalls.1 p hp
  have hcw : Jvm.Lit.compactW.before _ s = true := hsets _ (List.mem_of_getElem? (i := 2) rfl)
  have hEL : EW s _ consts_1 := EW.cons (wt_Logging_9 hw) (by decide) (EW.cons (wt_Logging_17 hw) (by decide) (EW.cons (wt_String_7 hw) (by decide) (EW.nil)))
  have hCH : CHv s consts_1 s.vm s.heap := CHv.start hEL hheld hcw (wa_byte hw) (wn_String hw)
  obtain ⟨n, o, h1, h2, h3, _, L, rfl, ⟨rfl, N, -⟩, -, -, hq⟩ := met_law (l := l) hw S12 c17 tables_1 i0 i1 i2 i3 i4 p e ha hc hk s m _ below hf ((Spec.applies_iff_loose hf).mp happ).1 ⟨rfl, State.Warmed39.refl s, rfl, hCH, ext_refl _, hEL, fun _ q => nomatch q⟩ trivial
  refine ⟨n, _, h1, h2, h3, hpost _ _ _ _ _ _ ⟨Cond.after_iff.mpr rfl, Cond.after_iff.mpr (eq_i res_at (Term.int_eval (1)) rfl), trivial⟩ ⟨hq.1, hq.2.1, hq.2.2.1, (hq.2.2.2.sift fun y hy => Or.inr (N y hy)).mono (by decide) (by decide)⟩⟩
theorem main_1_1 : Claimed_1_1 := comes_1 fun _ _ _ _ _ _ h hF => ⟨h.1, hF⟩
theorem main_1_2 : Claimed_1_2 := comes_1 fun _ _ _ _ _ _ h hF => ⟨h.2.1, hF⟩
end Jvm.Pilot.@@N@@
namespace Jvm.Pilot.@@N@@
open Jvm Jvm.ClassFile Sem Op Lib Jvm.Free Jvm.Stand Jvm.Pilot.@@N@@.Jvm.D
/-! MADE BY PROGRAM (witnessworld.py) out of the Statement's table words and the real class files: 20 classes; the members and pool entries that the words name. The judged class is class 1, her method 4. -/
namespace start1
open Jvm.ClassFile
def u (s : String) : CpInfo := .utf8 (stringToUtf16 s)
/-- a pool by its gaps: so many unusable entries, then the entry; so many at the end -/
def gap : Nat → List CpInfo → List CpInfo
  | 0, r => r
  | n + 1, r => .unusable :: gap n r
def poolList (es : List (Nat × CpInfo)) (last : Nat) : List CpInfo := es.foldr (fun e r => gap e.1 (e.2 :: r)) (gap last [])
def pool (es : List (Nat × CpInfo)) (last : Nat) : Array CpInfo := ⟨poolList es last⟩
def fileOf (pool : Array CpInfo) (this : Nat) (attrs : Array Attribute := #[]) (ms : Array MethodInfo := #[]) (fl : Nat := 33) (sup : Nat := 0) (ifs : Array Nat := #[]) (fds : Array FieldInfo := #[]) : ClassFile where
  minorVersion := 0
  majorVersion := 65
  constantPool := pool
  accessFlags := fl
  thisClass := this
  superClass := sup
  interfaces := ifs
  fields := fds
  methods := ms
  attributes := attrs
def plain (name : String) (sup : Option ClassId) : Class where
  name := name
  kind := .ordinary
  loader := none
  accessFlags := 33
  super := sup
  interfaces := #[]
  cf := none
  fields := #[]
  methods := #[]
  instanceTypes := #[]
  staticTypes := #[]
  resolved := #[]
  callSites := []
  init := .initialized
  statics := none
  mirror := none

def pool0 : Array CpInfo := pool [(5, u "<init>"), (0, u "()V"), (1, .class_ 10), (1, u "java/lang/Object")] 113

def k0c0 : Code := { maxStack := 0, maxLocals := 1, code := object_method_1_code, exceptionTable := #[], attributes := #[] }
def k0m0 : Method := { name := "<init>", desc := "()V", sig := { parameters := [], returnType := none }, accessFlags := 1, code := some k0c0 }
/-- java/lang/Object -/
def k0 : Class := { plain "java/lang/Object" none with
  accessFlags := 33
  interfaces := #[]
  cf := some (fileOf pool0 8 #[] #[{ accessFlags := 1, nameIndex := 5, descriptorIndex := 6, attributes := #[] }] 33 0 #[] #[])
  fields := #[]
  methods := #[k0m0]
  instanceTypes := #[]
  staticTypes := #[]
  resolved := Array.replicate 124 none
  statics := none }

def pool1 : Array CpInfo := pool [(2, .class_ 4), (1, u "java/lang/Object"), (0, u "<init>"), (0, u "()V"), (0, .methodref 8 9), (0, .class_ 10), (0, .nameAndType 11 12), (0, u "com/example/windrose/windrose/cli/LoggingIsVerbosePinLaw"), (0, u "tpl"), (0, u "(II)C"), (0, .class_ 14), (0, u "java/lang/String"), (0, .methodref 13 16), (0, .nameAndType 5 17), (0, u "([C)V"), (0, .integer 2147483647), (0, .methodref 8 20), (0, .nameAndType 21 22), (0, u "pick"), (0, u "(IIIII)C"), (0, .methodref 8 24), (0, .nameAndType 25 26), (0, u "make"), (0, u "(I[C)Ljava/lang/String;"), (0, .methodref 28 29), (0, .class_ 30), (0, .nameAndType 31 32), (0, u "com/example/windrose/windrose/cli/Logging"), (0, u "isVerbose"), (0, u "(Ljava/lang/String;)Z"), (3, u "law"), (0, u "(IIIII)Z")] 4

def k1m0 : Method := { name := "<init>", desc := "()V", sig := { parameters := [], returnType := none }, accessFlags := 1, code := none }
def k1c1 : Code := { maxStack := 2, maxLocals := 2, code := method_2_code, exceptionTable := #[], attributes := #[] }
def k1m1 : Method := { name := "tpl", desc := "(II)C", sig := { parameters := [.int, .int], returnType := some .char }, accessFlags := 10, code := some k1c1 }
def k1c2 : Code := { maxStack := 3, maxLocals := 5, code := method_3_code, exceptionTable := #[], attributes := #[] }
def k1m2 : Method := { name := "pick", desc := "(IIIII)C", sig := { parameters := [.int, .int, .int, .int, .int], returnType := some .char }, accessFlags := 10, code := some k1c2 }
def k1c3 : Code := { maxStack := 7, maxLocals := 2, code := method_4_code, exceptionTable := #[], attributes := #[] }
def k1m3 : Method := { name := "make", desc := "(I[C)Ljava/lang/String;", sig := { parameters := [.int, (.array .char)], returnType := some (.object "java/lang/String") }, accessFlags := 10, code := some k1c3 }
def k1c4 : Code := { maxStack := 7, maxLocals := 11, code := code, exceptionTable := #[], attributes := #[] }
def k1m4 : Method := { name := "law", desc := "(IIIII)Z", sig := { parameters := [.int, .int, .int, .int, .int], returnType := some .boolean }, accessFlags := 9, code := some k1c4 }
/-- com/example/windrose/windrose/cli/LoggingIsVerbosePinLaw -/
def k1 : Class := { plain "com/example/windrose/windrose/cli/LoggingIsVerbosePinLaw" (some 0) with
  accessFlags := 49
  interfaces := #[]
  cf := some (fileOf pool1 8 #[] #[{ accessFlags := 1, nameIndex := 5, descriptorIndex := 6, attributes := #[] }, { accessFlags := 10, nameIndex := 11, descriptorIndex := 12, attributes := #[] }, { accessFlags := 10, nameIndex := 21, descriptorIndex := 22, attributes := #[] }, { accessFlags := 10, nameIndex := 25, descriptorIndex := 26, attributes := #[] }, { accessFlags := 9, nameIndex := 36, descriptorIndex := 37, attributes := #[] }] 49 2 #[] #[])
  fields := #[]
  methods := #[k1m0, k1m1, k1m2, k1m3, k1m4]
  instanceTypes := #[]
  staticTypes := #[]
  resolved := Array.replicate 42 none
  statics := none }

def pool2 : Array CpInfo := pool [(1, .class_ 2), (0, u "java/io/Serializable"), (0, .class_ 4), (0, u "java/lang/Object")] 2

/-- java/io/Serializable -/
def k2 : Class := { plain "java/io/Serializable" (some 0) with
  accessFlags := 1537
  interfaces := #[]
  cf := some (fileOf pool2 1 #[] #[] 1537 3 #[] #[])
  fields := #[]
  methods := #[]
  instanceTypes := #[]
  staticTypes := #[]
  resolved := Array.replicate 7 none
  statics := none }

def pool3 : Array CpInfo := pool [(1, .class_ 2), (0, u "java/lang/Comparable"), (0, .class_ 4), (0, u "java/lang/Object")] 7

/-- java/lang/Comparable -/
def k3 : Class := { plain "java/lang/Comparable" (some 0) with
  accessFlags := 1537
  interfaces := #[]
  cf := some (fileOf pool3 1 #[] #[] 1537 3 #[] #[])
  fields := #[]
  methods := #[]
  instanceTypes := #[]
  staticTypes := #[]
  resolved := Array.replicate 12 none
  statics := none }

def pool4 : Array CpInfo := pool [(2, .class_ 4), (1, u "java/lang/CharSequence"), (42, .class_ 48), (0, u "java/lang/CharSequence$1CodePointIterator"), (10, .class_ 60), (0, u "java/lang/CharSequence$1CharIterator"), (5, .class_ 67), (0, u "java/lang/Object")] 63

/-- java/lang/CharSequence -/
def k4 : Class := { plain "java/lang/CharSequence" (some 0) with
  accessFlags := 1537
  interfaces := #[]
  cf := some (fileOf pool4 2 #[.nestMembers #[47, 59]] #[] 1537 66 #[] #[])
  fields := #[]
  methods := #[]
  instanceTypes := #[]
  staticTypes := #[]
  resolved := Array.replicate 131 none
  statics := none }

def pool5 : Array CpInfo := pool [(1, .class_ 2), (0, u "java/lang/constant/Constable"), (0, .class_ 4), (0, u "java/lang/Object")] 6

/-- java/lang/constant/Constable -/
def k5 : Class := { plain "java/lang/constant/Constable" (some 0) with
  accessFlags := 1537
  interfaces := #[]
  cf := some (fileOf pool5 1 #[] #[] 1537 3 #[] #[])
  fields := #[]
  methods := #[]
  instanceTypes := #[]
  staticTypes := #[]
  resolved := Array.replicate 11 none
  statics := none }

def pool6 : Array CpInfo := pool [(1, .class_ 2), (0, u "java/lang/constant/ConstantDesc"), (0, .class_ 4), (0, u "java/lang/Object")] 32

/-- java/lang/constant/ConstantDesc -/
def k6 : Class := { plain "java/lang/constant/ConstantDesc" (some 0) with
  accessFlags := 1537
  interfaces := #[]
  cf := some (fileOf pool6 1 #[] #[] 1537 3 #[] #[])
  fields := #[]
  methods := #[]
  instanceTypes := #[]
  staticTypes := #[]
  resolved := Array.replicate 37 none
  statics := none }

def pool7 : Array CpInfo := pool [(1, .methodref 2 3), (0, .class_ 4), (0, .nameAndType 5 6), (0, u "java/lang/Object"), (0, u "<init>"), (0, u "()V"), (0, .string 8), (0, u ""), (0, .fieldref 10 11), (0, .class_ 12), (0, .nameAndType 13 14), (0, u "java/lang/String"), (0, u "value"), (0, u "[B"), (0, .fieldref 10 16), (0, .nameAndType 17 18), (0, u "coder"), (0, u "B"), (2, u "hash"), (0, u "I"), (2, u "hashIsZero"), (0, u "Z"), (0, .methodref 10 28), (0, .nameAndType 5 29), (0, u "([CIILjava/lang/Void;)V"), (8, .fieldref 10 39), (0, .nameAndType 40 26), (0, u "COMPACT_STRINGS"), (1, .class_ 44), (1, u "java/lang/StringUTF16"), (0, u "compress"), (1, .methodref 42 48), (0, .nameAndType 49 50), (0, u "coderFromArrayLen"), (0, u "([BI)B"), (56, .class_ 109), (1, u "java/lang/StringLatin1"), (67, .methodref 42 178), (0, .nameAndType 45 179), (0, u "([CII)[B"), (361, .methodref 107 542), (0, .nameAndType 543 544), (0, u "equals"), (0, u "([B[B)Z"), (28, u "(Ljava/lang/Object;)Z"), (1, .class_ 576), (0, u "java/lang/CharSequence"), (22, u "CASE_INSENSITIVE_ORDER"), (0, u "Ljava/util/Comparator;"), (409, u "([C)V"), (90, u "serialPersistentFields"), (0, u "[Ljava/io/ObjectStreamField;"), (0, .class_ 1104), (0, u "java/lang/String$CaseInsensitiveComparator"), (1, .class_ 1107), (0, u "java/io/Serializable"), (0, .class_ 1109), (0, u "java/lang/Comparable"), (0, .class_ 1111), (0, u "java/lang/constant/Constable"), (0, .class_ 1113), (0, u "java/lang/constant/ConstantDesc"), (2, u "serialVersionUID"), (0, u "J"), (3, u "REPL"), (0, u "C"), (2, u "LATIN1"), (1, u "UTF16")] 323

def k7m0 : Method := { name := "<init>", desc := "()V", sig := { parameters := [], returnType := none }, accessFlags := 1, code := none }
def k7c1 : Code := { maxStack := 5, maxLocals := 2, code := jdk_42_method_3_code, exceptionTable := #[], attributes := #[] }
def k7m1 : Method := { name := "<init>", desc := "([C)V", sig := { parameters := [(.array .char)], returnType := none }, accessFlags := 1, code := some k7c1 }
def k7c2 : Code := { maxStack := 2, maxLocals := 3, code := jdk_42_method_66_code, exceptionTable := #[], attributes := #[] }
def k7m2 : Method := { name := "equals", desc := "(Ljava/lang/Object;)Z", sig := { parameters := [(.object "java/lang/Object")], returnType := some .boolean }, accessFlags := 1, code := some k7c2 }
def k7c3 : Code := { maxStack := 4, maxLocals := 6, code := jdk_42_method_149_code, exceptionTable := #[], attributes := #[] }
def k7m3 : Method := { name := "<init>", desc := "([CIILjava/lang/Void;)V", sig := { parameters := [(.array .char), .int, .int, (.object "java/lang/Void")], returnType := none }, accessFlags := 2, code := some k7c3 }
/-- java/lang/String -/
def k7 : Class := { plain "java/lang/String" (some 0) with
  accessFlags := 49
  interfaces := #[2, 3, 4, 5, 6]
  cf := some (fileOf pool7 10 #[.nestMembers #[1103]] #[{ accessFlags := 1, nameIndex := 5, descriptorIndex := 6, attributes := #[] }, { accessFlags := 1, nameIndex := 5, descriptorIndex := 1010, attributes := #[] }, { accessFlags := 1, nameIndex := 543, descriptorIndex := 573, attributes := #[] }, { accessFlags := 2, nameIndex := 5, descriptorIndex := 29, attributes := #[] }] 49 2 #[1106, 1108, 575, 1110, 1112] #[{ accessFlags := 18, nameIndex := 13, descriptorIndex := 14, attributes := #[] }, { accessFlags := 18, nameIndex := 17, descriptorIndex := 18, attributes := #[] }, { accessFlags := 2, nameIndex := 21, descriptorIndex := 22, attributes := #[] }, { accessFlags := 2, nameIndex := 25, descriptorIndex := 26, attributes := #[] }, { accessFlags := 26, nameIndex := 1116, descriptorIndex := 1117, attributes := #[] }, { accessFlags := 24, nameIndex := 40, descriptorIndex := 26, attributes := #[] }, { accessFlags := 26, nameIndex := 1101, descriptorIndex := 1102, attributes := #[] }, { accessFlags := 26, nameIndex := 1121, descriptorIndex := 1122, attributes := #[] }, { accessFlags := 25, nameIndex := 599, descriptorIndex := 600, attributes := #[] }, { accessFlags := 24, nameIndex := 1125, descriptorIndex := 18, attributes := #[] }, { accessFlags := 24, nameIndex := 1127, descriptorIndex := 18, attributes := #[] }])
  fields := #[{ name := "value", type := (.array .byte), accessFlags := 18, slot := 0, constantValue := 0 }, { name := "coder", type := .byte, accessFlags := 18, slot := 1, constantValue := 0 }, { name := "hash", type := .int, accessFlags := 2, slot := 2, constantValue := 0 }, { name := "hashIsZero", type := .boolean, accessFlags := 2, slot := 3, constantValue := 0 }, { name := "serialVersionUID", type := .long, accessFlags := 26, slot := 0, constantValue := 0 }, { name := "COMPACT_STRINGS", type := .boolean, accessFlags := 24, slot := 1, constantValue := 0 }, { name := "serialPersistentFields", type := (.array (.object "java/io/ObjectStreamField")), accessFlags := 26, slot := 2, constantValue := 0 }, { name := "REPL", type := .char, accessFlags := 26, slot := 3, constantValue := 0 }, { name := "CASE_INSENSITIVE_ORDER", type := (.object "java/util/Comparator"), accessFlags := 25, slot := 4, constantValue := 0 }, { name := "LATIN1", type := .byte, accessFlags := 24, slot := 5, constantValue := 0 }, { name := "UTF16", type := .byte, accessFlags := 24, slot := 6, constantValue := 0 }]
  methods := #[k7m0, k7m1, k7m2, k7m3]
  instanceTypes := #[(.array .byte), .byte, .int, .boolean]
  staticTypes := #[.long, .boolean, (.array (.object "java/io/ObjectStreamField")), .char, (.object "java/util/Comparator"), .byte, .byte]
  resolved := Array.replicate 1451 none
  statics := some 0 }

def pool8 : Array CpInfo := pool [(2, .class_ 4), (1, u "java/lang/Object"), (0, u "<init>"), (0, u "()V"), (0, .class_ 8), (0, u "com/example/windrose/windrose/cli/Logging"), (0, .string 10), (0, u "--verbose"), (0, .methodref 12 13), (0, .class_ 14), (0, .nameAndType 15 16), (0, u "java/lang/String"), (0, u "equals"), (0, u "(Ljava/lang/Object;)Z"), (0, .string 18), (0, u "-v"), (10, u "VERBOSE"), (0, u "Ljava/lang/String;"), (1, u "VERBOSE_SHORT"), (0, u "LEVEL"), (2, u "isVerbose"), (0, u "(Ljava/lang/String;)Z")] 4

def k8m0 : Method := { name := "<init>", desc := "()V", sig := { parameters := [], returnType := none }, accessFlags := 2, code := none }
def k8c1 : Code := { maxStack := 2, maxLocals := 1, code := prog_1_method_2_code, exceptionTable := #[], attributes := #[] }
def k8m1 : Method := { name := "isVerbose", desc := "(Ljava/lang/String;)Z", sig := { parameters := [(.object "java/lang/String")], returnType := some .boolean }, accessFlags := 8, code := some k8c1 }
/-- com/example/windrose/windrose/cli/Logging -/
def k8 : Class := { plain "com/example/windrose/windrose/cli/Logging" (some 0) with
  accessFlags := 48
  interfaces := #[]
  cf := some (fileOf pool8 7 #[] #[{ accessFlags := 2, nameIndex := 5, descriptorIndex := 6, attributes := #[] }, { accessFlags := 8, nameIndex := 36, descriptorIndex := 37, attributes := #[] }] 48 2 #[] #[{ accessFlags := 24, nameIndex := 29, descriptorIndex := 30, attributes := #[] }, { accessFlags := 24, nameIndex := 32, descriptorIndex := 30, attributes := #[] }, { accessFlags := 26, nameIndex := 33, descriptorIndex := 30, attributes := #[] }])
  fields := #[{ name := "VERBOSE", type := (.object "java/lang/String"), accessFlags := 24, slot := 0, constantValue := 0 }, { name := "VERBOSE_SHORT", type := (.object "java/lang/String"), accessFlags := 24, slot := 1, constantValue := 0 }, { name := "LEVEL", type := (.object "java/lang/String"), accessFlags := 26, slot := 2, constantValue := 0 }]
  methods := #[k8m0, k8m1]
  instanceTypes := #[]
  staticTypes := #[(.object "java/lang/String"), (.object "java/lang/String"), (.object "java/lang/String")]
  resolved := Array.replicate 42 none
  statics := none }

def pool9 : Array CpInfo := pool [(4, .class_ 6), (1, u "java/lang/Object"), (0, u "<init>"), (0, u "()V"), (5, .class_ 16), (1, u "java/lang/StringLatin1"), (104, u "$assertionsDisabled"), (0, u "Z"), (98, .class_ 223), (1, u "java/lang/StringLatin1$LinesSpliterator"), (57, u "equals"), (0, u "([B[B)Z"), (107, .class_ 391), (0, u "java/lang/StringLatin1$CharsSpliterator")] 3

def k9m0 : Method := { name := "<init>", desc := "()V", sig := { parameters := [], returnType := none }, accessFlags := 0, code := none }
def k9c1 : Code := { maxStack := 3, maxLocals := 3, code := jdk_43_method_13_code, exceptionTable := #[], attributes := #[] }
def k9m1 : Method := { name := "equals", desc := "([B[B)Z", sig := { parameters := [(.array .byte), (.array .byte)], returnType := some .boolean }, accessFlags := 9, code := some k9c1 }
/-- java/lang/StringLatin1 -/
def k9 : Class := { plain "java/lang/StringLatin1" (some 0) with
  accessFlags := 48
  interfaces := #[]
  cf := some (fileOf pool9 14 #[.nestMembers #[390, 221]] #[{ accessFlags := 0, nameIndex := 7, descriptorIndex := 8, attributes := #[] }, { accessFlags := 9, nameIndex := 281, descriptorIndex := 282, attributes := #[] }] 48 4 #[] #[{ accessFlags := 4120, nameIndex := 121, descriptorIndex := 122, attributes := #[] }])
  fields := #[{ name := "$assertionsDisabled", type := .boolean, accessFlags := 4120, slot := 0, constantValue := 0 }]
  methods := #[k9m0, k9m1]
  instanceTypes := #[]
  staticTypes := #[.boolean]
  resolved := Array.replicate 395 none
  statics := none }

def pool10 : Array CpInfo := pool [(6, .class_ 8), (1, u "java/lang/Object"), (0, u "<init>"), (0, u "()V"), (1, .class_ 14), (1, u "java/lang/StringUTF16"), (31, u "$assertionsDisabled"), (0, u "Z"), (13, u "HI_BYTE_SHIFT"), (0, u "I"), (2, u "LO_BYTE_SHIFT"), (49, .methodref 12 116), (0, .nameAndType 117 118), (0, u "compress"), (0, u "([CI[BII)I"), (3, u "([CII)[B"), (138, u "coderFromArrayLen"), (0, u "([BI)B"), (106, .class_ 371), (1, u "java/lang/StringUTF16$LinesSpliterator"), (58, u "MAX_LENGTH"), (196, .class_ 628), (0, u "java/lang/StringUTF16$CodePointsSpliterator"), (0, .class_ 630), (0, u "java/lang/StringUTF16$CharsSpliterator")] 4

def k10m0 : Method := { name := "<init>", desc := "()V", sig := { parameters := [], returnType := none }, accessFlags := 0, code := none }
def k10c1 : Code := { maxStack := 2, maxLocals := 2, code := jdk_52_method_15_code, exceptionTable := #[], attributes := #[] }
def k10m1 : Method := { name := "coderFromArrayLen", desc := "([BI)B", sig := { parameters := [(.array .byte), .int], returnType := some .byte }, accessFlags := 8, code := some k10c1 }
def k10c2 : Code := { maxStack := 5, maxLocals := 6, code := jdk_52_method_16_code, exceptionTable := #[], attributes := #[] }
def k10m2 : Method := { name := "compress", desc := "([CII)[B", sig := { parameters := [(.array .char), .int, .int], returnType := some (.array .byte) }, accessFlags := 9, code := some k10c2 }
def k10c3 : Code := { maxStack := 3, maxLocals := 7, code := jdk_52_method_21_code, exceptionTable := #[], attributes := #[] }
def k10m3 : Method := { name := "compress", desc := "([CI[BII)I", sig := { parameters := [(.array .char), .int, (.array .byte), .int, .int], returnType := some .int }, accessFlags := 9, code := some k10c3 }
/-- java/lang/StringUTF16 -/
def k10 : Class := { plain "java/lang/StringUTF16" (some 0) with
  accessFlags := 48
  interfaces := #[]
  cf := some (fileOf pool10 12 #[.nestMembers #[627, 629, 369]] #[{ accessFlags := 0, nameIndex := 9, descriptorIndex := 10, attributes := #[] }, { accessFlags := 8, nameIndex := 261, descriptorIndex := 262, attributes := #[] }, { accessFlags := 9, nameIndex := 117, descriptorIndex := 122, attributes := #[] }, { accessFlags := 9, nameIndex := 117, descriptorIndex := 118, attributes := #[] }] 48 6 #[] #[{ accessFlags := 26, nameIndex := 61, descriptorIndex := 62, attributes := #[] }, { accessFlags := 26, nameIndex := 65, descriptorIndex := 62, attributes := #[] }, { accessFlags := 24, nameIndex := 430, descriptorIndex := 62, attributes := #[] }, { accessFlags := 4120, nameIndex := 46, descriptorIndex := 47, attributes := #[] }])
  fields := #[{ name := "HI_BYTE_SHIFT", type := .int, accessFlags := 26, slot := 0, constantValue := 0 }, { name := "LO_BYTE_SHIFT", type := .int, accessFlags := 26, slot := 1, constantValue := 0 }, { name := "MAX_LENGTH", type := .int, accessFlags := 24, slot := 2, constantValue := 0 }, { name := "$assertionsDisabled", type := .boolean, accessFlags := 4120, slot := 3, constantValue := 0 }]
  methods := #[k10m0, k10m1, k10m2, k10m3]
  instanceTypes := #[]
  staticTypes := #[.int, .int, .int, .boolean]
  resolved := Array.replicate 635 none
  statics := none }

def pool11 : Array CpInfo := pool [(2, .class_ 4), (1, u "java/lang/Object"), (0, u "<init>"), (0, u "()V"), (17, .class_ 26), (1, u "jdk/internal/util/Preconditions"), (28, .class_ 56), (0, u "jdk/internal/util/Preconditions$4"), (57, .class_ 115), (0, u "jdk/internal/util/Preconditions$1"), (7, u "SIOOBE_FORMATTER"), (0, u "Ljava/util/function/BiFunction;"), (0, .class_ 126), (0, u "jdk/internal/util/Preconditions$2"), (3, u "AIOOBE_FORMATTER"), (0, .class_ 132), (0, u "jdk/internal/util/Preconditions$3"), (3, u "IOOBE_FORMATTER")] 57

def k11m0 : Method := { name := "<init>", desc := "()V", sig := { parameters := [], returnType := none }, accessFlags := 1, code := none }
/-- jdk/internal/util/Preconditions -/
def k11 : Class := { plain "jdk/internal/util/Preconditions" (some 0) with
  accessFlags := 33
  interfaces := #[]
  cf := some (fileOf pool11 24 #[.nestMembers #[55, 131, 125, 114]] #[{ accessFlags := 1, nameIndex := 5, descriptorIndex := 6, attributes := #[] }] 33 2 #[] #[{ accessFlags := 25, nameIndex := 123, descriptorIndex := 124, attributes := #[] }, { accessFlags := 25, nameIndex := 130, descriptorIndex := 124, attributes := #[] }, { accessFlags := 25, nameIndex := 136, descriptorIndex := 124, attributes := #[] }])
  fields := #[{ name := "SIOOBE_FORMATTER", type := (.object "java/util/function/BiFunction"), accessFlags := 25, slot := 0, constantValue := 0 }, { name := "AIOOBE_FORMATTER", type := (.object "java/util/function/BiFunction"), accessFlags := 25, slot := 1, constantValue := 0 }, { name := "IOOBE_FORMATTER", type := (.object "java/util/function/BiFunction"), accessFlags := 25, slot := 2, constantValue := 0 }]
  methods := #[k11m0]
  instanceTypes := #[]
  staticTypes := #[(.object "java/util/function/BiFunction"), (.object "java/util/function/BiFunction"), (.object "java/util/function/BiFunction")]
  resolved := Array.replicate 194 none
  statics := some 1 }

def pool12 : Array CpInfo := pool [(9, u "<init>"), (6, .class_ 18), (1, u "java/lang/Object"), (0, u "()V"), (1, .class_ 23), (1, u "jdk/internal/util/ArraysSupport"), (0, u "LOG2_ARRAY_LONG_INDEX_SCALE"), (0, u "I"), (2, u "U"), (0, u "Ljdk/internal/misc/Unsafe;"), (8, u "BIG_ENDIAN"), (0, u "Z"), (8, u "LOG2_BYTE_BIT_SIZE"), (4, u "LOG2_ARRAY_INT_INDEX_SCALE"), (54, u "JLA"), (0, u "Ljdk/internal/access/JavaLangAccess;"), (11, u "LOG2_ARRAY_BOOLEAN_INDEX_SCALE"), (9, u "LOG2_ARRAY_BYTE_INDEX_SCALE"), (5, u "LOG2_ARRAY_CHAR_INDEX_SCALE"), (5, u "LOG2_ARRAY_SHORT_INDEX_SCALE"), (18, u "LOG2_ARRAY_FLOAT_INDEX_SCALE"), (24, u "LOG2_ARRAY_DOUBLE_INDEX_SCALE"), (89, u "T_BOOLEAN"), (2, u "T_CHAR"), (1, u "T_FLOAT"), (1, u "T_DOUBLE"), (1, u "T_BYTE"), (1, u "T_SHORT"), (1, u "T_INT"), (1, u "T_LONG"), (1, u "SOFT_MAX_ARRAY_LENGTH")] 83

def k12m0 : Method := { name := "<init>", desc := "()V", sig := { parameters := [], returnType := none }, accessFlags := 2, code := none }
/-- jdk/internal/util/ArraysSupport -/
def k12 : Class := { plain "jdk/internal/util/ArraysSupport" (some 0) with
  accessFlags := 33
  interfaces := #[]
  cf := some (fileOf pool12 21 #[] #[{ accessFlags := 2, nameIndex := 9, descriptorIndex := 19, attributes := #[] }] 33 16 #[] #[{ accessFlags := 24, nameIndex := 28, descriptorIndex := 29, attributes := #[] }, { accessFlags := 26, nameIndex := 38, descriptorIndex := 39, attributes := #[] }, { accessFlags := 25, nameIndex := 121, descriptorIndex := 25, attributes := #[] }, { accessFlags := 25, nameIndex := 131, descriptorIndex := 25, attributes := #[] }, { accessFlags := 25, nameIndex := 137, descriptorIndex := 25, attributes := #[] }, { accessFlags := 25, nameIndex := 143, descriptorIndex := 25, attributes := #[] }, { accessFlags := 25, nameIndex := 53, descriptorIndex := 25, attributes := #[] }, { accessFlags := 25, nameIndex := 24, descriptorIndex := 25, attributes := #[] }, { accessFlags := 25, nameIndex := 162, descriptorIndex := 25, attributes := #[] }, { accessFlags := 25, nameIndex := 187, descriptorIndex := 25, attributes := #[] }, { accessFlags := 26, nameIndex := 48, descriptorIndex := 25, attributes := #[] }, { accessFlags := 25, nameIndex := 277, descriptorIndex := 25, attributes := #[] }, { accessFlags := 25, nameIndex := 280, descriptorIndex := 25, attributes := #[] }, { accessFlags := 25, nameIndex := 282, descriptorIndex := 25, attributes := #[] }, { accessFlags := 25, nameIndex := 284, descriptorIndex := 25, attributes := #[] }, { accessFlags := 25, nameIndex := 286, descriptorIndex := 25, attributes := #[] }, { accessFlags := 25, nameIndex := 288, descriptorIndex := 25, attributes := #[] }, { accessFlags := 25, nameIndex := 290, descriptorIndex := 25, attributes := #[] }, { accessFlags := 25, nameIndex := 292, descriptorIndex := 25, attributes := #[] }, { accessFlags := 26, nameIndex := 108, descriptorIndex := 109, attributes := #[] }, { accessFlags := 25, nameIndex := 294, descriptorIndex := 25, attributes := #[] }])
  fields := #[{ name := "U", type := (.object "jdk/internal/misc/Unsafe"), accessFlags := 24, slot := 0, constantValue := 0 }, { name := "BIG_ENDIAN", type := .boolean, accessFlags := 26, slot := 1, constantValue := 0 }, { name := "LOG2_ARRAY_BOOLEAN_INDEX_SCALE", type := .int, accessFlags := 25, slot := 2, constantValue := 0 }, { name := "LOG2_ARRAY_BYTE_INDEX_SCALE", type := .int, accessFlags := 25, slot := 3, constantValue := 0 }, { name := "LOG2_ARRAY_CHAR_INDEX_SCALE", type := .int, accessFlags := 25, slot := 4, constantValue := 0 }, { name := "LOG2_ARRAY_SHORT_INDEX_SCALE", type := .int, accessFlags := 25, slot := 5, constantValue := 0 }, { name := "LOG2_ARRAY_INT_INDEX_SCALE", type := .int, accessFlags := 25, slot := 6, constantValue := 0 }, { name := "LOG2_ARRAY_LONG_INDEX_SCALE", type := .int, accessFlags := 25, slot := 7, constantValue := 0 }, { name := "LOG2_ARRAY_FLOAT_INDEX_SCALE", type := .int, accessFlags := 25, slot := 8, constantValue := 0 }, { name := "LOG2_ARRAY_DOUBLE_INDEX_SCALE", type := .int, accessFlags := 25, slot := 9, constantValue := 0 }, { name := "LOG2_BYTE_BIT_SIZE", type := .int, accessFlags := 26, slot := 10, constantValue := 0 }, { name := "T_BOOLEAN", type := .int, accessFlags := 25, slot := 11, constantValue := 0 }, { name := "T_CHAR", type := .int, accessFlags := 25, slot := 12, constantValue := 0 }, { name := "T_FLOAT", type := .int, accessFlags := 25, slot := 13, constantValue := 0 }, { name := "T_DOUBLE", type := .int, accessFlags := 25, slot := 14, constantValue := 0 }, { name := "T_BYTE", type := .int, accessFlags := 25, slot := 15, constantValue := 0 }, { name := "T_SHORT", type := .int, accessFlags := 25, slot := 16, constantValue := 0 }, { name := "T_INT", type := .int, accessFlags := 25, slot := 17, constantValue := 0 }, { name := "T_LONG", type := .int, accessFlags := 25, slot := 18, constantValue := 0 }, { name := "JLA", type := (.object "jdk/internal/access/JavaLangAccess"), accessFlags := 26, slot := 19, constantValue := 0 }, { name := "SOFT_MAX_ARRAY_LENGTH", type := .int, accessFlags := 25, slot := 20, constantValue := 0 }]
  methods := #[k12m0]
  instanceTypes := #[]
  staticTypes := #[(.object "jdk/internal/misc/Unsafe"), .boolean, .int, .int, .int, .int, .int, .int, .int, .int, .int, .int, .int, .int, .int, .int, .int, .int, .int, (.object "jdk/internal/access/JavaLangAccess"), .int]
  resolved := Array.replicate 378 none
  statics := none }

def pool13 : Array CpInfo := pool [(1, u "java/lang/Cloneable"), (0, .class_ 1), (0, u "java/lang/Object"), (0, .class_ 3)] 3

/-- java/lang/Cloneable -/
def k13 : Class := { plain "java/lang/Cloneable" (some 0) with
  accessFlags := 1537
  interfaces := #[]
  cf := some (fileOf pool13 2 #[] #[] 1537 4 #[] #[])
  fields := #[]
  methods := #[]
  instanceTypes := #[]
  staticTypes := #[]
  resolved := Array.replicate 8 none
  statics := none }

/-- the primitive byte -/
def k14 : Class := { plain "byte" none with kind := .primitive 'B', accessFlags := 0x411 }
/-- [B -/
def k15 : Class := { plain "[B" (some 0) with kind := .array 14 .byte, interfaces := #[13, 2], accessFlags := 1041 }

/-- the primitive char -/
def k16 : Class := { plain "char" none with kind := .primitive 'C', accessFlags := 0x411 }
/-- [C -/
def k17 : Class := { plain "[C" (some 0) with kind := .array 16 .char, interfaces := #[13, 2], accessFlags := 1041 }

/-- the primitive int -/
def k18 : Class := { plain "int" none with kind := .primitive 'I', accessFlags := 0x411 }
/-- [I -/
def k19 : Class := { plain "[I" (some 0) with kind := .array 18 .int, interfaces := #[13, 2], accessFlags := 1041 }

def heap : Heap := #[{ cls := 7, slots := #[.long 0, .int 1, .null, .int 0, .null, .int 0, .int 0], vm := .statics 7 },
  { cls := 11, slots := #[.null, .null, .null], vm := .statics 11 }]
def classes : Array Class := #[k0, k1, k2, k3, k4, k5, k6, k7, k8, k9, k10, k11, k12, k13, k14, k15, k16, k17, k18, k19]
def interned : List (Array UInt16 × Addr) := []
def slotsUsed : Nat := 10
def theMethod : MethodId := ⟨1, 4⟩
def args0 : Array Value := #[.int 5, .int 1, .int 260, .int 777, .int 12345]
def aboutOver (below : List Frame) : State where
  vm := { classes := classes, interned := interned.toArray }
  heap := heap
  slotsUsed := slotsUsed
  threads := #[{ frames := .invoking theMethod args0 :: below }]
def below0 : List Frame := [.native { method := ⟨0, 0⟩, args := #[] }]
def about1 : State := aboutOver below0
def p0 : Program := .bare "" "" ""
def e0 : Env := launch0.env 0 0 0
theorem w_frames : about1.frames = Frame.invoking theMethod args0 :: below0 := rfl
set_option maxRecDepth 65536 in
theorem w_args : argsFit about1.vm theMethod args0 = true := by decide +kernel
set_option maxRecDepth 65536 in
theorem w_heap : heapFits about1 = true := by decide +kernel
set_option maxRecDepth 65536 in
theorem w_runnable : about1.curStatus? = some .runnable := by decide +kernel
set_option maxRecDepth 65536 in
theorem w_alone : about1.alone = true := by decide +kernel
set_option maxRecDepth 65536 in
theorem w_named : about1.methodNamed? x = some theMethod := by decide +kernel
set_option maxRecDepth 65536 in
theorem w_hears : about1.hears theMethod below0 = true := by decide +kernel
set_option maxRecDepth 65536 in
theorem w_ripe : about1.ripe theMethod args0 below0 = true := by decide +kernel
theorem w_running : about1.status = .running := rfl
set_option maxRecDepth 65536 in
theorem w_room : about1.hasRoom e0.platform room_1 = true :=
  launch0.hasRoom_least _ room_1 (by decide +kernel) (by decide +kernel) (by decide +kernel) (by decide +kernel) (by decide +kernel) (by decide +kernel)
theorem allAtoms_all (ts : List Jvm.Cond) (a : Array Jvm.Value) (st : Jvm.State) : (allAtoms ts).before a st = ts.all (fun c => c.before a st) := by
  induction ts with
  | nil => rfl
  | cons c t ih =>
    show (Jvm.Cond.and c (allAtoms t)).before a st = _
    rw [Jvm.Cond.before_and, ih, List.all_cons]
def words1 : List Jvm.Cond := Jvm.Cond.code x code maxLocals ret :: tables_1
/-- a 'code' word, met by the world's own term for the bytes: nothing is compared byte by byte -/
theorem code_word {y : MethodName} {bytes : ByteArray} {mx : Nat} {rt : Option FieldType} {a : Array Value} {s : State} {m : MethodId} {meth : Method} {c : Code} (h1 : s.methodNamed? y = some m) (h2 : s.vm.method? m = some meth) (h3 : meth.code = some c) (h4 : c.code = bytes)
    (h5 : (c.maxLocals == mx && c.exceptionTable.isEmpty && decide (c.maxStack ≤ mostOperands) && decide (meth.sig.returnType = rt) && !meth.locks && decide (parseMethodDescriptor y.desc = some meth.sig)) = true) : (Jvm.Cond.code y bytes mx rt).before a s = true := by
  simp only [Bool.and_eq_true, beq_iff_eq, Bool.not_eq_true', decide_eq_true_eq] at h5
  obtain ⟨⟨⟨⟨⟨g1, g2⟩, g3⟩, g4⟩, g5⟩, g6⟩ := h5
  simp [Cond.before, Cond.holds, Cond.value, h1, h2, h3, h4, g1, g2, g3, g4, g5, g6]
def isCode : Jvm.Cond → Bool
  | .code _ _ _ _ => true
  | _ => false
theorem all_split {L : List Jvm.Cond} {P : Jvm.Cond → Bool} (h1 : L.all (fun c => isCode c || P c) = true) (h2 : ∀ c ∈ L.filter isCode, P c = true) : L.all P = true := by
  refine List.all_eq_true.mpr fun c hc => ?_
  have h := List.all_eq_true.mp h1 c hc
  rcases Bool.eq_false_or_eq_true (isCode c) with hi | hi
  · exact h2 c (List.mem_filter.mpr ⟨hc, hi⟩)
  · simpa [hi] using h
set_option maxRecDepth 65536 in
theorem w_c0 : (Jvm.Cond.code x code maxLocals ret).before args0 about1 = true := code_word (m := ⟨1, 4⟩) (meth := k1m4) (c := k1c4) (by decide +kernel) rfl rfl rfl (by decide +kernel)
set_option maxRecDepth 65536 in
theorem w_c1 : (Jvm.Cond.code ({ cls := "com/example/windrose/windrose/cli/LoggingIsVerbosePinLaw", name := "pick", desc := "(IIIII)C" } : Jvm.MethodName) method_3_code (5 : Nat) (Option.some Jvm.ClassFile.FieldType.char)).before args0 about1 = true := code_word (m := ⟨1, 2⟩) (meth := k1m2) (c := k1c2) (by decide +kernel) rfl rfl rfl (by decide +kernel)
set_option maxRecDepth 65536 in
theorem w_c2 : (Jvm.Cond.code ({ cls := "com/example/windrose/windrose/cli/LoggingIsVerbosePinLaw", name := "make", desc := "(I[C)Ljava/lang/String;" } : Jvm.MethodName) method_4_code (2 : Nat) (Option.some (Jvm.ClassFile.FieldType.object "java/lang/String"))).before args0 about1 = true := code_word (m := ⟨1, 3⟩) (meth := k1m3) (c := k1c3) (by decide +kernel) rfl rfl rfl (by decide +kernel)
set_option maxRecDepth 65536 in
theorem w_c3 : (Jvm.Cond.code ({ cls := "java/lang/String", name := "<init>", desc := "([C)V" } : Jvm.MethodName) jdk_42_method_3_code (2 : Nat) (Option.none : Option Jvm.ClassFile.FieldType)).before args0 about1 = true := code_word (m := ⟨7, 1⟩) (meth := k7m1) (c := k7c1) (by decide +kernel) rfl rfl rfl (by decide +kernel)
set_option maxRecDepth 65536 in
theorem w_c4 : (Jvm.Cond.code ({ cls := "java/lang/String", name := "<init>", desc := "([CIILjava/lang/Void;)V" } : Jvm.MethodName) jdk_42_method_149_code (6 : Nat) (Option.none : Option Jvm.ClassFile.FieldType)).before args0 about1 = true := code_word (m := ⟨7, 3⟩) (meth := k7m3) (c := k7c3) (by decide +kernel) rfl rfl rfl (by decide +kernel)
set_option maxRecDepth 65536 in
theorem w_c5 : (Jvm.Cond.code ({ cls := "java/lang/Object", name := "<init>", desc := "()V" } : Jvm.MethodName) object_method_1_code (1 : Nat) (Option.none : Option Jvm.ClassFile.FieldType)).before args0 about1 = true := code_word (m := ⟨0, 0⟩) (meth := k0m0) (c := k0c0) (by decide +kernel) rfl rfl rfl (by decide +kernel)
set_option maxRecDepth 65536 in
theorem w_c6 : (Jvm.Cond.code ({ cls := "com/example/windrose/windrose/cli/Logging", name := "isVerbose", desc := "(Ljava/lang/String;)Z" } : Jvm.MethodName) prog_1_method_2_code (1 : Nat) (Option.some Jvm.ClassFile.FieldType.boolean)).before args0 about1 = true := code_word (m := ⟨8, 1⟩) (meth := k8m1) (c := k8c1) (by decide +kernel) rfl rfl rfl (by decide +kernel)
set_option maxRecDepth 65536 in
theorem w_c7 : (Jvm.Cond.code ({ cls := "java/lang/String", name := "equals", desc := "(Ljava/lang/Object;)Z" } : Jvm.MethodName) jdk_42_method_66_code (3 : Nat) (Option.some Jvm.ClassFile.FieldType.boolean)).before args0 about1 = true := code_word (m := ⟨7, 2⟩) (meth := k7m2) (c := k7c2) (by decide +kernel) rfl rfl rfl (by decide +kernel)
set_option maxRecDepth 65536 in
theorem w_c8 : (Jvm.Cond.code ({ cls := "java/lang/StringLatin1", name := "equals", desc := "([B[B)Z" } : Jvm.MethodName) jdk_43_method_13_code (3 : Nat) (Option.some Jvm.ClassFile.FieldType.boolean)).before args0 about1 = true := code_word (m := ⟨9, 1⟩) (meth := k9m1) (c := k9c1) (by decide +kernel) rfl rfl rfl (by decide +kernel)
set_option maxRecDepth 65536 in
theorem w_c9 : (Jvm.Cond.code ({ cls := "com/example/windrose/windrose/cli/LoggingIsVerbosePinLaw", name := "tpl", desc := "(II)C" } : Jvm.MethodName) method_2_code (2 : Nat) (Option.some Jvm.ClassFile.FieldType.char)).before args0 about1 = true := code_word (m := ⟨1, 1⟩) (meth := k1m1) (c := k1c1) (by decide +kernel) rfl rfl rfl (by decide +kernel)
set_option maxRecDepth 65536 in
theorem w_c10 : (Jvm.Cond.code ({ cls := "java/lang/StringUTF16", name := "compress", desc := "([CII)[B" } : Jvm.MethodName) jdk_52_method_16_code (6 : Nat) (Option.some (Jvm.ClassFile.FieldType.array Jvm.ClassFile.FieldType.byte))).before args0 about1 = true := code_word (m := ⟨10, 2⟩) (meth := k10m2) (c := k10c2) (by decide +kernel) rfl rfl rfl (by decide +kernel)
set_option maxRecDepth 65536 in
theorem w_c11 : (Jvm.Cond.code ({ cls := "java/lang/StringUTF16", name := "compress", desc := "([CI[BII)I" } : Jvm.MethodName) jdk_52_method_21_code (7 : Nat) (Option.some Jvm.ClassFile.FieldType.int)).before args0 about1 = true := code_word (m := ⟨10, 3⟩) (meth := k10m3) (c := k10c3) (by decide +kernel) rfl rfl rfl (by decide +kernel)
set_option maxRecDepth 65536 in
theorem w_c12 : (Jvm.Cond.code ({ cls := "java/lang/StringUTF16", name := "coderFromArrayLen", desc := "([BI)B" } : Jvm.MethodName) jdk_52_method_15_code (2 : Nat) (Option.some Jvm.ClassFile.FieldType.byte)).before args0 about1 = true := code_word (m := ⟨10, 1⟩) (meth := k10m1) (c := k10c1) (by decide +kernel) rfl rfl rfl (by decide +kernel)
def codes1 : List Jvm.Cond := [Jvm.Cond.code x code maxLocals ret, Jvm.Cond.code ({ cls := "com/example/windrose/windrose/cli/LoggingIsVerbosePinLaw", name := "pick", desc := "(IIIII)C" } : Jvm.MethodName) method_3_code (5 : Nat) (Option.some Jvm.ClassFile.FieldType.char), Jvm.Cond.code ({ cls := "com/example/windrose/windrose/cli/LoggingIsVerbosePinLaw", name := "make", desc := "(I[C)Ljava/lang/String;" } : Jvm.MethodName) method_4_code (2 : Nat) (Option.some (Jvm.ClassFile.FieldType.object "java/lang/String")), Jvm.Cond.code ({ cls := "java/lang/String", name := "<init>", desc := "([C)V" } : Jvm.MethodName) jdk_42_method_3_code (2 : Nat) (Option.none : Option Jvm.ClassFile.FieldType), Jvm.Cond.code ({ cls := "java/lang/String", name := "<init>", desc := "([CIILjava/lang/Void;)V" } : Jvm.MethodName) jdk_42_method_149_code (6 : Nat) (Option.none : Option Jvm.ClassFile.FieldType), Jvm.Cond.code ({ cls := "java/lang/Object", name := "<init>", desc := "()V" } : Jvm.MethodName) object_method_1_code (1 : Nat) (Option.none : Option Jvm.ClassFile.FieldType), Jvm.Cond.code ({ cls := "com/example/windrose/windrose/cli/Logging", name := "isVerbose", desc := "(Ljava/lang/String;)Z" } : Jvm.MethodName) prog_1_method_2_code (1 : Nat) (Option.some Jvm.ClassFile.FieldType.boolean), Jvm.Cond.code ({ cls := "java/lang/String", name := "equals", desc := "(Ljava/lang/Object;)Z" } : Jvm.MethodName) jdk_42_method_66_code (3 : Nat) (Option.some Jvm.ClassFile.FieldType.boolean), Jvm.Cond.code ({ cls := "java/lang/StringLatin1", name := "equals", desc := "([B[B)Z" } : Jvm.MethodName) jdk_43_method_13_code (3 : Nat) (Option.some Jvm.ClassFile.FieldType.boolean), Jvm.Cond.code ({ cls := "com/example/windrose/windrose/cli/LoggingIsVerbosePinLaw", name := "tpl", desc := "(II)C" } : Jvm.MethodName) method_2_code (2 : Nat) (Option.some Jvm.ClassFile.FieldType.char), Jvm.Cond.code ({ cls := "java/lang/StringUTF16", name := "compress", desc := "([CII)[B" } : Jvm.MethodName) jdk_52_method_16_code (6 : Nat) (Option.some (Jvm.ClassFile.FieldType.array Jvm.ClassFile.FieldType.byte)), Jvm.Cond.code ({ cls := "java/lang/StringUTF16", name := "compress", desc := "([CI[BII)I" } : Jvm.MethodName) jdk_52_method_21_code (7 : Nat) (Option.some Jvm.ClassFile.FieldType.int), Jvm.Cond.code ({ cls := "java/lang/StringUTF16", name := "coderFromArrayLen", desc := "([BI)B" } : Jvm.MethodName) jdk_52_method_15_code (2 : Nat) (Option.some Jvm.ClassFile.FieldType.byte)]
set_option maxRecDepth 65536 in
theorem codes_eq : words1.filter isCode = codes1 := rfl
theorem w_codes : ∀ c ∈ words1.filter isCode, c.before args0 about1 = true := by
  rw [codes_eq]
  intro c hc
  simp only [codes1, List.mem_cons, List.not_mem_nil, or_false] at hc
  rcases hc with rfl | rfl | rfl | rfl | rfl | rfl | rfl | rfl | rfl | rfl | rfl | rfl | rfl
  · exact w_c0
  · exact w_c1
  · exact w_c2
  · exact w_c3
  · exact w_c4
  · exact w_c5
  · exact w_c6
  · exact w_c7
  · exact w_c8
  · exact w_c9
  · exact w_c10
  · exact w_c11
  · exact w_c12
set_option maxRecDepth 65536 in
theorem w_t1 : (words1.take 24).all (fun c => isCode c || c.before args0 about1) = true := by decide +kernel
set_option maxRecDepth 65536 in
theorem w_t2 : ((words1.drop 24).take 24).all (fun c => isCode c || c.before args0 about1) = true := by decide +kernel
set_option maxRecDepth 65536 in
theorem w_t3 : ((words1.drop 24).drop 24).all (fun c => isCode c || c.before args0 about1) = true := by decide +kernel
theorem w_tables : (allAtoms (Jvm.Cond.code x code maxLocals ret :: tables_1)).before args0 about1 = true := by
  rw [allAtoms_all]
  show words1.all (fun c => c.before args0 about1) = true
  refine all_split ?_ w_codes
  rw [← List.take_append_drop 24 words1, List.all_append, w_t1, ← List.take_append_drop 24 (words1.drop 24), List.all_append, w_t2, w_t3]
  rfl
set_option maxRecDepth 65536 in
theorem w_rest : rest_1_c.before args0 about1 = true := by decide +kernel
set_option maxRecDepth 65536 in
theorem w_case : (Jvm.Cond.and given_1 narrow_1).before args0 about1 = true := by decide +kernel
set_option maxRecDepth 65536 in
theorem w_consts : constsHeld consts_1 about1 := Jvm.Lit.constsHeldB_iff.mp (by decide +kernel)
theorem w_applies : (headSpec (Jvm.Cond.code x code maxLocals ret :: tables_1) room_1).applies x e0.platform about1 = true :=
  (Spec.applies_iff w_frames).mpr ⟨w_running, w_runnable, w_alone, w_named, w_hears, w_ripe, w_room, w_tables⟩
theorem atStart : AtStart classFile x code maxLocals ret World_1 tables_1 room_1 Calls_1 rest_1 Pre_1 launch0 p0 e0 about1 theMethod args0 below0 :=
  ⟨lists_1, trivial, launch0.admits_env _ _ _, launch0.least_env, fairChoices_fair.cas, fairChoices_fair.clock, w_frames, w_args, w_heap, w_applies, ⟨w_consts, trivial⟩, w_rest, w_case⟩
end start1
theorem witness_1 : WitnessClaimed_1 := ⟨start1.p0, start1.e0, start1.about1, start1.theMethod, start1.args0, start1.below0, start1.atStart⟩
end Jvm.Pilot.@@N@@
