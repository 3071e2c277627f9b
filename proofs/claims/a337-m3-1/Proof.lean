import JvmDerived
import JvmDerived.Pilot.@@N@@Statement
import JvmDerived.Pilot.@@N@@Code
set_option linter.unusedVariables false
set_option linter.unusedSimpArgs false
/- laws to paste: Road.backV, Road.eqW, Road.codOf (cut by pick.py; bodies as the Statement names them) -/
namespace Jvm.Pilot.@@N@@
namespace StrChars
open Jvm Sem ClassFile Op Lib Jvm.Stand Jvm.Free.XT Jvm.Free.ALB Jvm.Free.JM Jvm.Free
open Jvm.Lib.Cold (StaticIs)
/-- a char array whose places are chars -/
def Ch (a : Addr) (A : Cell) (U : State) : Prop := Arr .char a A U ∧ Typed .char A
theorem Ch.mv {a : Addr} {A : Cell} {U U' : State} (h : Ch a A U) (hal : U.vm.Alike U'.vm) (hh : U'.heap = U.heap) : Ch a A U' := ⟨h.1.mv hal hh, h.2⟩
theorem Ch.keep {a : Addr} {A : Cell} {U U' : State} (h : Ch a A U) (hal : U.vm.Alike U'.vm) (hk : U'.heap[a]? = some A) : Ch a A U' := ⟨h.1.keep hal hk, h.2⟩
/-- what place i of a char[]'s cell holds -/
def cv (A : Cell) (i : Nat) : Int32 := match A.slots[i]? with | some (.int x) => x | _ => 0
theorem Ch.get {a : Addr} {A : Cell} {U : State} (h : Ch a A U) {i : Nat} (hi : i < A.slots.size) : A.slots[i]? = some (.int (cv A i)) := by
  have e := Array.getElem?_eq_getElem hi
  have f := h.2 i _ e
  unfold cv; rw [e]
  generalize A.slots[i] = v at f
  cases v <;> simp [fits] at f ⊢
/-- the byte that i2b leaves of a char -/
def lo8 (x : Int32) : Int32 := x.toInt8.toInt32
theorem fits_lo8 (y : Int32) : fits .byte (.int (lo8 y)) = true := by
  have h1 := y.toInt8.le_toInt
  have h2 := y.toInt8.toInt_lt
  simp only [lo8, fits, Bool.and_eq_true, decide_eq_true_eq, Int32.le_iff_toInt_le, Int8.toInt_toInt32, show (-128 : Int32).toInt = -128 from by decide, show (127 : Int32).toInt = 127 from by decide]
  omega
/-- A' is A but that each place j of lo .. hi - 1 holds f j -/
def Laid (A A' : Cell) (lo hi : Nat) (f : Nat → Value) : Prop := A'.cls = A.cls ∧ A'.vm = A.vm ∧ A'.slots.size = A.slots.size ∧ ∀ i, A'.slots[i]? = if lo ≤ i ∧ i < hi then some (f i) else A.slots[i]?
theorem Laid.zero (A : Cell) (lo : Nat) (f : Nat → Value) : Laid A A lo (lo + 0) f := ⟨rfl, rfl, rfl, fun i => by rw [if_neg (by omega)]⟩
theorem Laid.step {A Ak : Cell} {lo k : Nat} {f : Nat → Value} {v : Value} (h : Laid A Ak lo k f) (hlo : lo ≤ k) (hk : k < Ak.slots.size) (hv : v = f k) : Laid A (Ak.setSlot k v) lo (k + 1) f := by
  refine ⟨h.1, h.2.1, by simpa [Cell.setSlot] using h.2.2.1, fun i => ?_⟩
  by_cases e : k = i
  · subst e; rw [Cell.slots_setSlot_self v hk, if_pos (by omega), hv]
  · rw [Cell.slots_setSlot_ne v e, h.2.2.2 i]
    by_cases q : lo ≤ i ∧ i < k
    · rw [if_pos q, if_pos (by omega)]
    · rw [if_neg q, if_neg (by omega)]
def U16 : String := "java/lang/StringUTF16"
namespace Cmp5
def yN : MethodName := ⟨"java/lang/StringUTF16", "compress", "([CI[BII)I"⟩
abbrev yB : ByteArray := jdk_52_method_21_code
theorem d0 : decode yB 0 = .ok (.iconst 0, 1) := by decide +kernel
theorem d1 : decode yB 1 = .ok (.istore 5, 2) := by decide +kernel
theorem d3 : decode yB 3 = .ok (.iload 5, 2) := by decide +kernel
theorem d5 : decode yB 5 = .ok (.iload 4, 2) := by decide +kernel
theorem d7 : decode yB 7 = .ok (.if_icmp (.ge) 37, 3) := by decide +kernel
theorem d10 : decode yB 10 = .ok (.aload_n 0, 1) := by decide +kernel
theorem d11 : decode yB 11 = .ok (.iload_n 1, 1) := by decide +kernel
theorem d12 : decode yB 12 = .ok (.caload, 1) := by decide +kernel
theorem d13 : decode yB 13 = .ok (.istore 6, 2) := by decide +kernel
theorem d15 : decode yB 15 = .ok (.iload 6, 2) := by decide +kernel
theorem d17 : decode yB 17 = .ok (.sipush 255, 3) := by decide +kernel
theorem d20 : decode yB 20 = .ok (.if_icmp (.le) 6, 3) := by decide +kernel
theorem d26 : decode yB 26 = .ok (.aload_n 2, 1) := by decide +kernel
theorem d27 : decode yB 27 = .ok (.iload_n 3, 1) := by decide +kernel
theorem d28 : decode yB 28 = .ok (.iload 6, 2) := by decide +kernel
theorem d30 : decode yB 30 = .ok (.i2b, 1) := by decide +kernel
theorem d31 : decode yB 31 = .ok (.bastore, 1) := by decide +kernel
theorem d32 : decode yB 32 = .ok (.iinc 1 1, 3) := by decide +kernel
theorem d35 : decode yB 35 = .ok (.iinc 3 1, 3) := by decide +kernel
theorem d38 : decode yB 38 = .ok (.iinc 5 1, 3) := by decide +kernel
theorem d41 : decode yB 41 = .ok (.goto (-38), 3) := by decide +kernel
theorem d44 : decode yB 44 = .ok (.iload 4, 2) := by decide +kernel
theorem d46 : decode yB 46 = .ok (.ireturn, 1) := by decide +kernel
def site : List Cond := []
def tab : Cond := tabOf yN yB 7 (some .int) site
def P (b : Addr) (A : Cell) (d : Addr) (B : Cell) (o q len : Nat) (args : Array Value) (s : State) : Prop := args = #[.ref b, .int (Int32.ofNat o), .ref d, .int (Int32.ofNat q), .int (Int32.ofNat len)] ∧ Ch b A s ∧ Arr .byte d B s ∧ b ≠ d ∧ o + len ≤ A.slots.size ∧ q + len ≤ B.slots.size ∧ ∀ i, i < len → ¬ 255 < cv A (o + i)
def E (b : Addr) (A : Cell) (d : Addr) (B : Cell) (o q len : Nat) (r : Option Value) (s u : State) : Prop := r = some (.int (Int32.ofNat len)) ∧ ∃ B', Put d B' s u ∧ Laid B B' q (q + len) (fun j => Value.int (lo8 (cv A (o + (j - q)))))
/-- no char of the range above 255: len; the places written hold each char's low byte -/
theorem law (l : Launch) (b : Addr) (A : Cell) (d : Addr) (B : Cell) (o q len : Nat) : Law l yN 5 5 0 0 yB 7 (some .int) site (P b A d B o q len) (E b A d B o q len) (copyLocs d q len) 0 0 := by
  refine Law.of_walk (plainFor_of_name (by decide +kernel)) (by decide +kernel) (by decide +kernel) (by decide) (fun _ _ h => by rw [h.1]; rfl) (fun _ U U' hal hh h => ⟨h.1, h.2.1.mv hal hh, h.2.2.1.mv hal hh, h.2.2.2⟩) (fun r U U' V V' h1 hal h2 h => ⟨h.1, h.2.elim fun B' q => ⟨B', q.1.mv h1 h2, q.2⟩⟩) ?_
  intro p e s m args below meth c s₁ X0 hexec hbytes hml hret hlk hnm hown hh0 W hP
  obtain ⟨rfl, hA, hB, hne, l1, l2, hp⟩ := hP
  have c1 : Steps p.tables e below (s₁.setTop (entryFrame m #[.ref b, .int (Int32.ofNat o), .ref d, .int (Int32.ofNat q), .int (Int32.ofNat len)] 7)) (s₁.setTop (mkF m 0 #[.val (.ref b), .val (.int (Int32.ofNat o)), .val (.ref d), .val (.int (Int32.ofNat q)), .val (.int (Int32.ofNat len)), .unset, .unset] [])) := entry rfl
  have hA0 := hA.1.mv X0.warmed.alike hh0
  have hB0 := hB.mv X0.warmed.alike hh0
  have a31 := hA.1.2.2.2
  have c2 : Steps p.tables e below (s₁.setTop (entryFrame m #[.ref b, .int (Int32.ofNat o), .ref d, .int (Int32.ofNat q), .int (Int32.ofNat len)] 7)) (s₁.setTop (mkF m 3 #[.val (.ref b), .val (.int (Int32.ofNat o)), .val (.ref d), .val (.int (Int32.ofNat q)), .val (.int (Int32.ofNat len)), .val (.int 0), .unset] [])) := c1.trans (by
    refine iconstV X0.here hexec rfl 0 (hb hbytes d0) (by decide) ?_
    refine XS.istore X0.here hexec rfl (hb hbytes d1) rfl rfl ?_
    exact Steps.refl _)
  have loop : ∀ (r i : Nat), i + r = len → ∀ (z : Slot), (z = .unset ∨ ∃ w, z = .val w ∧ w.category = 1) → ∀ (Tl : State) (Bk : Cell), Stand p l e { frames := 0, locals := 0, cells := 0, slots := 0 } s m #[.ref b, .int (Int32.ofNat o), .ref d, .int (Int32.ofNat q), .int (Int32.ofNat len)] below meth c Tl ([] ++ copyLocs d q i) 0 0 → Put d Bk s₁ Tl → Laid B Bk q (q + i) (fun j => Value.int (lo8 (cv A (o + (j - q))))) →
      Steps p.tables e below (s₁.setTop (entryFrame m #[.ref b, .int (Int32.ofNat o), .ref d, .int (Int32.ofNat q), .int (Int32.ofNat len)] 7)) (Tl.setTop (mkF m 3 #[.val (.ref b), .val (.int (Int32.ofNat (o + i))), .val (.ref d), .val (.int (Int32.ofNat (q + i))), .val (.int (Int32.ofNat len)), .val (.int (Int32.ofNat i)), z] [])) → ∃ (T' : State) (B' : Cell) (z' : Slot), Stand p l e { frames := 0, locals := 0, cells := 0, slots := 0 } s m #[.ref b, .int (Int32.ofNat o), .ref d, .int (Int32.ofNat q), .int (Int32.ofNat len)] below meth c T' ([] ++ copyLocs d q len) 0 0 ∧ Put d B' s₁ T' ∧ Laid B B' q (q + len) (fun j => Value.int (lo8 (cv A (o + (j - q))))) ∧
      Steps p.tables e below (s₁.setTop (entryFrame m #[.ref b, .int (Int32.ofNat o), .ref d, .int (Int32.ofNat q), .int (Int32.ofNat len)] 7)) (T'.setTop (mkF m 3 #[.val (.ref b), .val (.int (Int32.ofNat (o + len))), .val (.ref d), .val (.int (Int32.ofNat (q + len))), .val (.int (Int32.ofNat len)), .val (.int (Int32.ofNat len)), z'] [])) := by
    intro r
    induction r with
    | zero =>
      intro i hi z hz Tl Bk Xl pl fl cl
      have hil : i = len := by omega
      rw [hil] at Xl fl cl
      exact ⟨Tl, Bk, z, Xl, pl, fl, cl⟩
    | succ r ih =>
      intro i hi z hz Tl Bk Xl pl fl cl
      have all := X0.warmed.alike.symm.trans Xl.warmed.alike
      have hAl := hA0.keep all (pl.other hne hA0.1)
      have hBk := hB0.like all pl.1 fl.1 fl.2.1 fl.2.2.1
      have hlt : q + i < Bk.slots.size := by rw [fl.2.2.1]; omega
      have c3 : Steps p.tables e below (s₁.setTop (entryFrame m #[.ref b, .int (Int32.ofNat o), .ref d, .int (Int32.ofNat q), .int (Int32.ofNat len)] 7)) (Tl.setTop (mkF m 12 #[.val (.ref b), .val (.int (Int32.ofNat (o + i))), .val (.ref d), .val (.int (Int32.ofNat (q + i))), .val (.int (Int32.ofNat len)), .val (.int (Int32.ofNat i)), z] [.int (Int32.ofNat (o + i)), .ref b])) := cl.trans (by
        refine XS.iload Xl.here hexec rfl (hb hbytes d3) rfl ?_
        refine XS.iload Xl.here hexec rfl (hb hbytes d5) rfl ?_
        refine XS.icmpNo Xl.here hexec rfl (hb hbytes d7) rfl (ii_ge_f (lt32 (by omega) (by omega))) ?_
        refine XS.aloadN Xl.here hexec rfl (hb hbytes d10) rfl rfl ?_
        refine XS.iloadN Xl.here hexec rfl (hb hbytes d11) rfl ?_
        exact Steps.refl _)
      have c4 : Steps p.tables e below (s₁.setTop (entryFrame m #[.ref b, .int (Int32.ofNat o), .ref d, .int (Int32.ofNat q), .int (Int32.ofNat len)] 7)) (Tl.setTop (mkF m 13 #[.val (.ref b), .val (.int (Int32.ofNat (o + i))), .val (.ref d), .val (.int (Int32.ofNat (q + i))), .val (.int (Int32.ofNat len)), .val (.int (Int32.ofNat i)), z] [.int (cv A (o + i))])) := c3.trans (by
        refine Xl.aget hexec hAl rfl (hA.get (i := o + i) (by omega)) rfl rfl (hb hbytes d12) ?_
        exact Steps.refl _)
      have c5 : Steps p.tables e below (s₁.setTop (entryFrame m #[.ref b, .int (Int32.ofNat o), .ref d, .int (Int32.ofNat q), .int (Int32.ofNat len)] 7)) (Tl.setTop (mkF m 15 #[.val (.ref b), .val (.int (Int32.ofNat (o + i))), .val (.ref d), .val (.int (Int32.ofNat (q + i))), .val (.int (Int32.ofNat len)), .val (.int (Int32.ofNat i)), .val (.int (cv A (o + i)))] [])) := c4.trans (by
        refine XS.istoreS Xl.here hexec rfl (hb hbytes d13) rfl rfl hz ?_
        exact Steps.refl _)
      have c6 : Steps p.tables e below (s₁.setTop (entryFrame m #[.ref b, .int (Int32.ofNat o), .ref d, .int (Int32.ofNat q), .int (Int32.ofNat len)] 7)) (Tl.setTop (mkF m 31 #[.val (.ref b), .val (.int (Int32.ofNat (o + i))), .val (.ref d), .val (.int (Int32.ofNat (q + i))), .val (.int (Int32.ofNat len)), .val (.int (Int32.ofNat i)), .val (.int (cv A (o + i)))] [.int (lo8 (cv A (o + i))), .int (Int32.ofNat (q + i)), .ref d])) := c5.trans (by
        refine XS.iload Xl.here hexec rfl (hb hbytes d15) rfl ?_
        refine sipushV Xl.here hexec rfl 255 (hb hbytes d17) (by decide) ?_
        refine XS.icmpYes Xl.here hexec rfl (pc0 := 20) rfl (hb hbytes d20) rfl (ii_le_t (hp i (by omega))) (by decide) rfl ?_
        refine XS.aloadN Xl.here hexec rfl (hb hbytes d26) rfl rfl ?_
        refine XS.iloadN Xl.here hexec rfl (hb hbytes d27) rfl ?_
        refine XS.iload Xl.here hexec rfl (hb hbytes d28) rfl ?_
        refine i2b Xl.here hexec rfl (hb hbytes d30) rfl ?_
        exact Steps.refl _)
      obtain ⟨T7, X7, p7, st7⟩ := Xl.aput hexec hBk rfl hlt rfl (fits_lo8 (cv A (o + i))) (g := (mkF m 31 #[.val (.ref b), .val (.int (Int32.ofNat (o + i))), .val (.ref d), .val (.int (Int32.ofNat (q + i))), .val (.int (Int32.ofNat len)), .val (.int (Int32.ofNat i)), .val (.int (cv A (o + i)))] [.int (lo8 (cv A (o + i))), .int (Int32.ofNat (q + i)), .ref d])) rfl (rest := []) rfl (hb hbytes d31)
      have c8 : Steps p.tables e below (s₁.setTop (entryFrame m #[.ref b, .int (Int32.ofNat o), .ref d, .int (Int32.ofNat q), .int (Int32.ofNat len)] 7)) (T7.setTop (mkF m 32 #[.val (.ref b), .val (.int (Int32.ofNat (o + i))), .val (.ref d), .val (.int (Int32.ofNat (q + i))), .val (.int (Int32.ofNat len)), .val (.int (Int32.ofNat i)), .val (.int (cv A (o + i)))] [])) := c6.trans (st7 _ (Steps.refl _))
      have c9 : Steps p.tables e below (s₁.setTop (entryFrame m #[.ref b, .int (Int32.ofNat o), .ref d, .int (Int32.ofNat q), .int (Int32.ofNat len)] 7)) (T7.setTop (mkF m 3 #[.val (.ref b), .val (.int (Int32.ofNat (o + i) + 1)), .val (.ref d), .val (.int (Int32.ofNat (q + i) + 1)), .val (.int (Int32.ofNat len)), .val (.int (Int32.ofNat i + 1)), .val (.int (cv A (o + i)))] [])) := c8.trans (by
        refine iincV X7.here hexec rfl 1 (hb hbytes d32) (by decide) rfl rfl ?_
        refine iincV X7.here hexec rfl 1 (hb hbytes d35) (by decide) rfl rfl ?_
        refine iincV X7.here hexec rfl 1 (hb hbytes d38) (by decide) rfl rfl ?_
        refine XS.goto X7.here hexec rfl (pc0 := 41) rfl (hb hbytes d41) (by decide) rfl ?_
        exact Steps.refl _)
      have c10 : Steps p.tables e below (s₁.setTop (entryFrame m #[.ref b, .int (Int32.ofNat o), .ref d, .int (Int32.ofNat q), .int (Int32.ofNat len)] 7)) (T7.setTop (mkF m 3 #[.val (.ref b), .val (.int (Int32.ofNat (o + (i + 1)))), .val (.ref d), .val (.int (Int32.ofNat (q + (i + 1)))), .val (.int (Int32.ofNat len)), .val (.int (Int32.ofNat (i + 1))), .val (.int (cv A (o + i)))] [])) := by
        have := c9
        rw [succ32, succ32, succ32] at this
        exact this
      exact ih (i + 1) (by omega) _ (Or.inr ⟨_, rfl, rfl⟩) T7 _ (by rw [copyLocs_step, ← List.append_assoc]; exact X7) (pl.trans p7) (fl.step (by omega) hlt (by simp)) c10
  obtain ⟨T9, B9, z9, X9, p9, f9, g9⟩ := loop len 0 (by omega) .unset (Or.inl rfl) s₁ B (by simpa [copyLocs] using X0) ⟨hB0.1, fun _ _ => rfl, rfl⟩ (Laid.zero _ _ _) c2
  have c11 : Steps p.tables e below (s₁.setTop (entryFrame m #[.ref b, .int (Int32.ofNat o), .ref d, .int (Int32.ofNat q), .int (Int32.ofNat len)] 7)) (T9.setTop (mkF m 46 #[.val (.ref b), .val (.int (Int32.ofNat (o + len))), .val (.ref d), .val (.int (Int32.ofNat (q + len))), .val (.int (Int32.ofNat len)), .val (.int (Int32.ofNat len)), z9] [.int (Int32.ofNat len)])) := g9.trans (by
    refine XS.iload X9.here hexec rfl (hb hbytes d3) rfl ?_
    refine XS.iload X9.here hexec rfl (hb hbytes d5) rfl ?_
    refine XS.icmpYes X9.here hexec rfl (pc0 := 7) rfl (hb hbytes d7) rfl (ii_ge_t (nlt32 (by omega) (Nat.le_refl _))) (by decide) rfl ?_
    refine XS.iload X9.here hexec rfl (hb hbytes d44) rfl ?_
    exact Steps.refl _)
  exact ⟨T9, some (.int (Int32.ofNat len)), _, _, _, X9, by simp, rfl, rfl, (fun h => by cases h), ⟨rfl, B9, p9.from hh0, f9⟩, fun fs hl => c11.trans (X9.ireturnOut hexec hret rfl (Or.inl rfl) (hb hbytes d46) hl)⟩
end Cmp5
namespace Cmp3
def yN : MethodName := ⟨"java/lang/StringUTF16", "compress", "([CII)[B"⟩
abbrev yB : ByteArray := jdk_52_method_16_code
theorem d0 : decode yB 0 = .ok (.iload_n 2, 1) := by decide +kernel
theorem d1 : decode yB 1 = .ok (.newarray .byte, 2) := by decide +kernel
theorem d3 : decode yB 3 = .ok (.astore_n 3, 1) := by decide +kernel
theorem d4 : decode yB 4 = .ok (.aload_n 0, 1) := by decide +kernel
theorem d5 : decode yB 5 = .ok (.iload_n 1, 1) := by decide +kernel
theorem d6 : decode yB 6 = .ok (.aload_n 3, 1) := by decide +kernel
theorem d7 : decode yB 7 = .ok (.iconst 0, 1) := by decide +kernel
theorem d8 : decode yB 8 = .ok (.iload_n 2, 1) := by decide +kernel
theorem d9 : decode yB 9 = .ok (.invokestatic 115, 3) := by decide +kernel
theorem d12 : decode yB 12 = .ok (.istore 4, 2) := by decide +kernel
theorem d14 : decode yB 14 = .ok (.iload 4, 2) := by decide +kernel
theorem d16 : decode yB 16 = .ok (.iload_n 2, 1) := by decide +kernel
theorem d17 : decode yB 17 = .ok (.if_icmp (.eq) 40, 3) := by decide +kernel
theorem d57 : decode yB 57 = .ok (.aload_n 3, 1) := by decide +kernel
theorem d58 : decode yB 58 = .ok (.areturn, 1) := by decide +kernel
def site : List Cond := [.arrayClass .byte, Cmp5.tab] ++ staticW U16 115 Cmp5.yN
def tab : Cond := tabOf yN yB 6 (some (.array .byte)) site
def P (b : Addr) (A : Cell) (o len : Nat) (args : Array Value) (s : State) : Prop := args = #[.ref b, .int (Int32.ofNat o), .int (Int32.ofNat len)] ∧ Ch b A s ∧ o + len ≤ A.slots.size ∧ len ≤ 536870912 ∧ ∀ i, i < len → ¬ 255 < cv A (o + i)
def E (b : Addr) (A : Cell) (o len : Nat) (r : Option Value) (s u : State) : Prop := NewArr .byte "[B" len (fun j => .int (lo8 (cv A (o + j)))) r s u ∧ u.heap.size = s.heap.size + 1
/-- no char of the range above 255: a new byte[] of their low bytes -/
theorem law (l : Launch) (b : Addr) (A : Cell) (o len : Nat) : Law l yN 3 3 1 18 yB 6 (some (.array .byte)) site (P b A o len) (E b A o len) [] 1 len := by
  refine Law.of_walk (plainFor_of_name (by decide +kernel)) (by decide +kernel) (by decide +kernel) (by decide) (fun _ _ h => by rw [h.1]; rfl) (fun _ U U' hal hh h => ⟨h.1, h.2.1.mv hal hh, h.2.2⟩) (fun r U U' V V' h1 hal h2 h => ⟨NewArr.mv r U U' V V' h1 hal h2 h.1, by rw [h1, h2]; exact h.2⟩) ?_
  intro p e s m args below meth c s₁ X0 hexec hbytes hml hret hlk hnm hown hh0 W hP
  obtain ⟨rfl, hA, l1, l2, hp⟩ := hP
  have a31 := hA.1.2.2.2
  have c1 : Steps p.tables e below (s₁.setTop (entryFrame m #[.ref b, .int (Int32.ofNat o), .int (Int32.ofNat len)] 6)) (s₁.setTop (mkF m 0 #[.val (.ref b), .val (.int (Int32.ofNat o)), .val (.int (Int32.ofNat len)), .unset, .unset, .unset] [])) := entry rfl
  have c2 : Steps p.tables e below (s₁.setTop (entryFrame m #[.ref b, .int (Int32.ofNat o), .int (Int32.ofNat len)] 6)) (s₁.setTop (mkF m 1 #[.val (.ref b), .val (.int (Int32.ofNat o)), .val (.int (Int32.ofNat len)), .unset, .unset, .unset] [.int (Int32.ofNat len)])) := c1.trans (by
    refine XS.iloadN X0.here hexec rfl (hb hbytes d0) rfl ?_
    exact Steps.refl _)
  obtain ⟨T3, B3, X3, ba3, bs3, bv3, bh3, bf3, st3⟩ := X0.anew hexec (atype := .byte) (wk W (.arrayClass .byte)) rfl (by show len * 1 ≤ _; omega) (by omega) (g := (mkF m 1 #[.val (.ref b), .val (.int (Int32.ofNat o)), .val (.int (Int32.ofNat len)), .unset, .unset, .unset] [.int (Int32.ofNat len)])) rfl (hb hbytes d1) (rest := []) rfl (Nat.le_refl _) (by show 0 + len ≤ len; omega)
  rw [hh0] at ba3 st3
  have kp3 : XT.Kept s T3 := (XT.Kept.of_eq hh0).push bh3
  have hA3 := hA.keep X3.warmed.alike (kp3 _ _ hA.1.1)
  have hne : b ≠ s.heap.size := hA.1.ne
  have c4 : Steps p.tables e below (s₁.setTop (entryFrame m #[.ref b, .int (Int32.ofNat o), .int (Int32.ofNat len)] 6)) (T3.setTop (mkF m 3 #[.val (.ref b), .val (.int (Int32.ofNat o)), .val (.int (Int32.ofNat len)), .unset, .unset, .unset] [.ref s.heap.size])) := c2.trans (st3 _ (Steps.refl _))
  have c5 : Steps p.tables e below (s₁.setTop (entryFrame m #[.ref b, .int (Int32.ofNat o), .int (Int32.ofNat len)] 6)) (T3.setTop (mkF m 9 #[.val (.ref b), .val (.int (Int32.ofNat o)), .val (.int (Int32.ofNat len)), .val (.ref s.heap.size), .unset, .unset] [.int (Int32.ofNat len), .int 0, .ref s.heap.size, .int (Int32.ofNat o), .ref b])) := c4.trans (by
    refine XS.astoreN X3.here hexec rfl (hb hbytes d3) rfl rfl rfl ?_
    refine XS.aloadN X3.here hexec rfl (hb hbytes d4) rfl rfl ?_
    refine XS.iloadN X3.here hexec rfl (hb hbytes d5) rfl ?_
    refine XS.aloadN X3.here hexec rfl (hb hbytes d6) rfl rfl ?_
    refine iconstV X3.here hexec rfl 0 (hb hbytes d7) (by decide) ?_
    refine XS.iloadN X3.here hexec rfl (hb hbytes d8) rfl ?_
    exact Steps.refl _)
  obtain ⟨v6, T6, X6, E6, g6⟩ := X3.callS hexec (Cmp5.law l b A s.heap.size B3 o 0 len) hown (wks W (staticW U16 115 Cmp5.yN)) (wk W Cmp5.tab) (W := 0) (Nat.le_of_ble_eq_true rfl) (Nat.le_of_ble_eq_true rfl) (Nat.le_refl _) (by show 0 + len + 0 ≤ len; omega) (g := (mkF m 9 #[.val (.ref b), .val (.int (Int32.ofNat o)), .val (.int (Int32.ofNat len)), .val (.ref s.heap.size), .unset, .unset] [.int (Int32.ofNat len), .int (Int32.ofNat 0), .ref s.heap.size, .int (Int32.ofNat o), .ref b])) rfl (by rw [hml]; rfl) c5 (argsL := [.ref b, .int (Int32.ofNat o), .ref s.heap.size, .int (Int32.ofNat 0), .int (Int32.ofNat len)]) (rest := []) rfl rfl (by show 2 * 0 + 0 ≤ _; decide) (hb hbytes d9) (⟨rfl, hA3, ba3, hne, l1, by rw [bs3]; simp, hp⟩)
  obtain ⟨rfl, B6, p6, f6⟩ := E6
  have c7 : Steps p.tables e below (s₁.setTop (entryFrame m #[.ref b, .int (Int32.ofNat o), .int (Int32.ofNat len)] 6)) (T6.setTop (mkF m 12 #[.val (.ref b), .val (.int (Int32.ofNat o)), .val (.int (Int32.ofNat len)), .val (.ref s.heap.size), .unset, .unset] [.int (Int32.ofNat len)])) := g6
  have c8 : Steps p.tables e below (s₁.setTop (entryFrame m #[.ref b, .int (Int32.ofNat o), .int (Int32.ofNat len)] 6)) (T6.setTop (mkF m 58 #[.val (.ref b), .val (.int (Int32.ofNat o)), .val (.int (Int32.ofNat len)), .val (.ref s.heap.size), .val (.int (Int32.ofNat len)), .unset] [.ref s.heap.size])) := c7.trans (by
    refine XS.istore X6.here hexec rfl (hb hbytes d12) rfl rfl ?_
    refine XS.iload X6.here hexec rfl (hb hbytes d14) rfl ?_
    refine XS.iloadN X6.here hexec rfl (hb hbytes d16) rfl ?_
    refine XS.icmpYes X6.here hexec rfl (pc0 := 17) rfl (hb hbytes d17) rfl (ii_eq_t rfl) (by decide) rfl ?_
    refine XS.aloadN X6.here hexec rfl (hb hbytes d57) rfl rfl ?_
    exact Steps.refl _)
  have X8 := X6.wide (L' := []) (cells' := 1) (slots' := len) (fun x hx hlt => by
    simp only [List.nil_append, copyLocs, List.mem_map, List.mem_range] at hx
    obtain ⟨i, -, rfl⟩ := hx
    exact absurd hlt (Nat.lt_irrefl _)) (Nat.le_refl _) (by omega)
  exact ⟨T6, some (.ref s.heap.size), _, _, _, X8, rfl, rfl, rfl, (fun h => by cases h), ⟨⟨rfl, B6, ba3.like (X3.warmed.alike.symm.trans X6.warmed.alike) p6.1 f6.1 f6.2.1 f6.2.2.1, f6.2.1.trans bv3, by rw [X6.warmed.alike.findClass, f6.1]; exact bf3, by rw [f6.2.2.1, bs3]; simp, fun j hj => by rw [f6.2.2.2 j, if_pos (by omega)]; rfl, kp3.put p6 (Nat.le_refl _)⟩, by rw [p6.2.2, bh3, hh0]; simp⟩, fun fs hl => c8.trans (X8.areturnOut hexec rfl hret rfl (hb hbytes d58) hl)⟩
end Cmp3
namespace CodL
def yN : MethodName := ⟨"java/lang/StringUTF16", "coderFromArrayLen", "([BI)B"⟩
abbrev yB : ByteArray := jdk_52_method_15_code
theorem d0 : decode yB 0 = .ok (.iload_n 1, 1) := by decide +kernel
theorem d1 : decode yB 1 = .ok (.aload_n 0, 1) := by decide +kernel
theorem d2 : decode yB 2 = .ok (.arraylength, 1) := by decide +kernel
theorem d3 : decode yB 3 = .ok (.isub, 1) := by decide +kernel
theorem d4 : decode yB 4 = .ok (.bipush 31, 2) := by decide +kernel
theorem d6 : decode yB 6 = .ok (.iushr, 1) := by decide +kernel
theorem d7 : decode yB 7 = .ok (.i2b, 1) := by decide +kernel
theorem d8 : decode yB 8 = .ok (.ireturn, 1) := by decide +kernel
def site : List Cond := []
def tab : Cond := tabOf yN yB 2 (some .byte) site
def P (d : Addr) (B : Cell) (args : Array Value) (s : State) : Prop := args = #[.ref d, .int (Int32.ofNat B.slots.size)] ∧ Arr .byte d B s
def E (r : Option Value) (s u : State) : Prop := XT.PureE (some (.int 0)) r s u
/-- an array as long as the number of chars: LATIN1 -/
theorem law (l : Launch) (d : Addr) (B : Cell) : Law l yN 2 2 0 0 yB 2 (some .byte) site (P d B) E [] 0 0 := by
  refine Law.of_walk (plainFor_of_name (by decide +kernel)) (by decide +kernel) (by decide +kernel) (by decide) (fun _ _ h => by rw [h.1]; rfl) (fun _ U U' hal hh h => ⟨h.1, h.2.mv hal hh⟩) (fun r U U' V V' h1 hal h2 h => XT.PureE.mv r U U' V V' h1 hal h2 h) ?_
  intro p e s m args below meth c s₁ X0 hexec hbytes hml hret hlk hnm hown hh0 W hP
  obtain ⟨rfl, hB⟩ := hP
  have hB0 := hB.mv X0.warmed.alike hh0
  have c1 : Steps p.tables e below (s₁.setTop (entryFrame m #[.ref d, .int (Int32.ofNat B.slots.size)] 2)) (s₁.setTop (mkF m 0 #[.val (.ref d), .val (.int (Int32.ofNat B.slots.size))] [])) := entry rfl
  have c2 : Steps p.tables e below (s₁.setTop (entryFrame m #[.ref d, .int (Int32.ofNat B.slots.size)] 2)) (s₁.setTop (mkF m 2 #[.val (.ref d), .val (.int (Int32.ofNat B.slots.size))] [.ref d, .int (Int32.ofNat B.slots.size)])) := c1.trans (by
    refine XS.iloadN X0.here hexec rfl (hb hbytes d0) rfl ?_
    refine XS.aloadN X0.here hexec rfl (hb hbytes d1) rfl rfl ?_
    exact Steps.refl _)
  have c3 : Steps p.tables e below (s₁.setTop (entryFrame m #[.ref d, .int (Int32.ofNat B.slots.size)] 2)) (s₁.setTop (mkF m 8 #[.val (.ref d), .val (.int (Int32.ofNat B.slots.size))] [.int (lo8 (ushr (Int32.ofNat B.slots.size - Int32.ofNat B.slots.size) 31))])) := c2.trans (by
    refine X0.alen hexec hB0 rfl rfl (hb hbytes d2) ?_
    refine XS.isub X0.here hexec rfl (hb hbytes d3) rfl ?_
    refine bipushV X0.here hexec rfl 31 (hb hbytes d4) (by decide) ?_
    refine iushr X0.here hexec rfl (hb hbytes d6) rfl ?_
    refine i2b X0.here hexec rfl (hb hbytes d7) rfl ?_
    exact Steps.refl _)
  have e0 : lo8 (ushr (Int32.ofNat B.slots.size - Int32.ofNat B.slots.size) 31) = 0 := by rw [Int32.sub_self]; decide
  rw [e0] at c3
  exact ⟨s₁, some (.int 0), _, _, _, X0, rfl, rfl, rfl, (fun h => by cases h), ⟨rfl, hh0⟩, fun fs hl => c3.trans (X0.ireturnOut hexec hret rfl (Or.inr (Or.inr (Or.inl rfl))) (hb hbytes d8) hl)⟩
end CodL
/-- the String at a is Latin-1 over a new byte[] (the heap's one new cell): the low bytes of the len chars of A from o on; every cell but a is kept -/
def Got (a : Addr) (D : Cell) (fV fC : Field) (A : Cell) (o len : Nat) (r : Option Value) (s u : State) : Prop := r = none ∧ ∃ D' V : Cell, Blank "java/lang/String" a D' u ∧ Same D D' [fV.slot, fC.slot] ∧ D'.slots[fV.slot]? = some (.ref s.heap.size) ∧ D'.slots[fC.slot]? = some (.int 0) ∧ Arr .byte s.heap.size V u ∧ V.vm = .none ∧ u.vm.findClass "[B" = some V.cls ∧ V.slots.size = len ∧ (∀ j, j < len → V.slots[j]? = some (.int (lo8 (cv A (o + j))))) ∧ (∀ (y : Addr) (c : Cell), y ≠ a → s.heap[y]? = some c → u.heap[y]? = some c) ∧ u.heap.size = s.heap.size + 1
theorem Got.mv {a : Addr} {D A : Cell} {fV fC : Field} {o len : Nat} : ∀ r (U U' V V' : State), U'.heap = U.heap → V.vm.Alike V'.vm → V'.heap = V.heap → Got a D fV fC A o len r U V → Got a D fV fC A o len r U' V' :=
  fun r U U' V V' h1 hal h2 ⟨e0, D', X, a1, a2, a3, a4, a5, a6, a7, a8, a9, a10, a11⟩ => ⟨e0, D', X, a1.mv hal h2, a2, by rw [h1]; exact a3, a4, by rw [h1]; exact a5.mv hal h2, a6, by rw [hal.findClass]; exact a7, a8, a9, by rw [h1, h2]; exact a10, by rw [h1, h2]; exact a11⟩
namespace New4
def yN : MethodName := ⟨"java/lang/String", "<init>", "([CIILjava/lang/Void;)V"⟩
abbrev yB : ByteArray := jdk_42_method_149_code
theorem d0 : decode yB 0 = .ok (.aload_n 0, 1) := by decide +kernel
theorem d1 : decode yB 1 = .ok (.invokespecial 1, 3) := by decide +kernel
theorem d4 : decode yB 4 = .ok (.iload_n 3, 1) := by decide +kernel
theorem d5 : decode yB 5 = .ok (.ifCond (.ne) 22, 3) := by decide +kernel
theorem d27 : decode yB 27 = .ok (.getstatic 38, 3) := by decide +kernel
theorem d30 : decode yB 30 = .ok (.ifCond (.eq) 28, 3) := by decide +kernel
theorem d33 : decode yB 33 = .ok (.aload_n 1, 1) := by decide +kernel
theorem d34 : decode yB 34 = .ok (.iload_n 2, 1) := by decide +kernel
theorem d35 : decode yB 35 = .ok (.iload_n 3, 1) := by decide +kernel
theorem d36 : decode yB 36 = .ok (.invokestatic 177, 3) := by decide +kernel
theorem d39 : decode yB 39 = .ok (.astore 5, 2) := by decide +kernel
theorem d41 : decode yB 41 = .ok (.aload_n 0, 1) := by decide +kernel
theorem d42 : decode yB 42 = .ok (.aload 5, 2) := by decide +kernel
theorem d44 : decode yB 44 = .ok (.iload_n 3, 1) := by decide +kernel
theorem d45 : decode yB 45 = .ok (.invokestatic 47, 3) := by decide +kernel
theorem d48 : decode yB 48 = .ok (.putfield 15, 3) := by decide +kernel
theorem d51 : decode yB 51 = .ok (.aload_n 0, 1) := by decide +kernel
theorem d52 : decode yB 52 = .ok (.aload 5, 2) := by decide +kernel
theorem d54 : decode yB 54 = .ok (.putfield 9, 3) := by decide +kernel
theorem d57 : decode yB 57 = .ok (.return_, 1) := by decide +kernel
def site : List Cond := [.fieldLink "java/lang/String" 38 "java/lang/String" "COMPACT_STRINGS" "Z", Cmp3.tab, CodL.tab, .laysFinal "java/lang/String" "java/lang/String" "value" "[B", .fieldLink "java/lang/String" 9 "java/lang/String" "value" "[B", .laysFinal "java/lang/String" "java/lang/String" "coder" "B", .fieldLink "java/lang/String" 15 "java/lang/String" "coder" "B"] ++ objW "java/lang/String" 1 ++ staticW "java/lang/String" 177 Cmp3.yN ++ staticW "java/lang/String" 47 CodL.yN
def tab : Cond := tabOf yN yB 6 none site
def P (a : Addr) (D : Cell) (fV fC : Field) (b : Addr) (A : Cell) (z : Int32) (o len : Nat) (args : Array Value) (s : State) : Prop := args = #[.ref a, .ref b, .int (Int32.ofNat o), .int (Int32.ofNat len), .null] ∧ Blank "java/lang/String" a D s ∧ Found "java/lang/String" "value" "[B" fV s ∧ Found "java/lang/String" "coder" "B" fC s ∧ Ch b A s ∧ StaticIs s "java/lang/String" "COMPACT_STRINGS" "Z" (.int z) ∧ ¬ z = 0 ∧ 0 < len ∧ o + len ≤ A.slots.size ∧ len ≤ 536870912 ∧ ∀ i, i < len → ¬ 255 < cv A (o + i)
def E (a : Addr) (D : Cell) (fV fC : Field) (A : Cell) (o len : Nat) (r : Option Value) (s u : State) : Prop := Got a D fV fC A o len r s u
/-- len > 0, no char of the range above 255: a Latin-1 String of their low bytes -/
theorem law (l : Launch) (a : Addr) (D : Cell) (fV fC : Field) (b : Addr) (A : Cell) (z : Int32) (o len : Nat) : Law l yN 5 4 2 35 yB 6 none site (P a D fV fC b A z o len) (E a D fV fC A o len) [⟨a, fC.slot⟩, ⟨a, fV.slot⟩] 1 len := by
  refine Law.of_walk (plainFor_of_name (by decide +kernel)) (by decide +kernel) (by decide +kernel) (by decide) (fun _ _ h => by rw [h.1]; rfl) (fun _ U U' hal hh h => ⟨h.1, h.2.1.mv hal hh, h.2.2.1.al hal, h.2.2.2.1.al hal, h.2.2.2.2.1.mv hal hh, h.2.2.2.2.2.1.there hal hh, h.2.2.2.2.2.2⟩) (fun r U U' V V' h1 hal h2 h => Got.mv r U U' V V' h1 hal h2 h) ?_
  intro p e s m args below meth c s₁ X0 hexec hbytes hml hret hlk hnm hown hh0 W hP
  obtain ⟨rfl, hB, f1, f2, hA, s1, hz, l0, l1, l2, hp⟩ := hP
  have a31 := hA.1.2.2.2
  have c1 : Steps p.tables e below (s₁.setTop (entryFrame m #[.ref a, .ref b, .int (Int32.ofNat o), .int (Int32.ofNat len), .null] 6)) (s₁.setTop (mkF m 0 #[.val (.ref a), .val (.ref b), .val (.int (Int32.ofNat o)), .val (.int (Int32.ofNat len)), .val .null, .unset] [])) := entry rfl
  have c2 : Steps p.tables e below (s₁.setTop (entryFrame m #[.ref a, .ref b, .int (Int32.ofNat o), .int (Int32.ofNat len), .null] 6)) (s₁.setTop (mkF m 1 #[.val (.ref a), .val (.ref b), .val (.int (Int32.ofNat o)), .val (.int (Int32.ofNat len)), .val .null, .unset] [.ref a])) := c1.trans (by
    refine XS.aloadN X0.here hexec rfl (hb hbytes d0) rfl rfl ?_
    exact Steps.refl _)
  obtain ⟨T3, X3, q3, st3⟩ := X0.oinit hexec hown (wks W (objW "java/lang/String" 1)) (g := (mkF m 1 #[.val (.ref a), .val (.ref b), .val (.int (Int32.ofNat o)), .val (.int (Int32.ofNat len)), .val .null, .unset] [.ref a])) rfl (by rw [hml]; rfl) (rest := []) rfl (hb hbytes d1) (W := 0) (by show 2 * 0 + 0 ≤ _; decide) (Nat.le_of_ble_eq_true rfl) (Nat.le_of_ble_eq_true rfl)
  have hh3 := q3.trans hh0
  have c4 : Steps p.tables e below (s₁.setTop (entryFrame m #[.ref a, .ref b, .int (Int32.ofNat o), .int (Int32.ofNat len), .null] 6)) (T3.setTop (mkF m 27 #[.val (.ref a), .val (.ref b), .val (.int (Int32.ofNat o)), .val (.int (Int32.ofNat len)), .val .null, .unset] [])) := (c2.trans (st3 _ (Steps.refl _))).trans (by
    refine XS.iloadN X3.here hexec rfl (hb hbytes d4) rfl ?_
    refine XS.ifYes X3.here hexec rfl (pc0 := 5) rfl (hb hbytes d5) rfl (i0_ne_t (nz32 (by omega) l0)) (by decide) rfl ?_
    exact Steps.refl _)
  obtain ⟨T5, X5, q5, st5⟩ := X3.sget hexec hown (wk W (.fieldLink "java/lang/String" 38 "java/lang/String" "COMPACT_STRINGS" "Z")) s1 (fun _ _ h => by rw [hh3]; exact h) (g := (mkF m 27 #[.val (.ref a), .val (.ref b), .val (.int (Int32.ofNat o)), .val (.int (Int32.ofNat len)), .val .null, .unset] [])) rfl (hb hbytes d27)
  have hh5 := q5.trans hh3
  have c6 : Steps p.tables e below (s₁.setTop (entryFrame m #[.ref a, .ref b, .int (Int32.ofNat o), .int (Int32.ofNat len), .null] 6)) (T5.setTop (mkF m 30 #[.val (.ref a), .val (.ref b), .val (.int (Int32.ofNat o)), .val (.int (Int32.ofNat len)), .val .null, .unset] [.int z])) := c4.trans (st5 _ (Steps.refl _))
  have c7 : Steps p.tables e below (s₁.setTop (entryFrame m #[.ref a, .ref b, .int (Int32.ofNat o), .int (Int32.ofNat len), .null] 6)) (T5.setTop (mkF m 36 #[.val (.ref a), .val (.ref b), .val (.int (Int32.ofNat o)), .val (.int (Int32.ofNat len)), .val .null, .unset] [.int (Int32.ofNat len), .int (Int32.ofNat o), .ref b])) := c6.trans (by
    refine XS.ifNo X5.here hexec rfl (hb hbytes d30) rfl (i0_eq_f hz) ?_
    refine XS.aloadN X5.here hexec rfl (hb hbytes d33) rfl rfl ?_
    refine XS.iloadN X5.here hexec rfl (hb hbytes d34) rfl ?_
    refine XS.iloadN X5.here hexec rfl (hb hbytes d35) rfl ?_
    exact Steps.refl _)
  obtain ⟨v8, T8, X8, E8, g8⟩ := X5.callS hexec (Cmp3.law l b A o len) hown (wks W (staticW "java/lang/String" 177 Cmp3.yN)) (wk W Cmp3.tab) (W := 0) (Nat.le_of_ble_eq_true rfl) (Nat.le_of_ble_eq_true rfl) (Nat.le_refl _) (by show 0 + len ≤ len; omega) (g := (mkF m 36 #[.val (.ref a), .val (.ref b), .val (.int (Int32.ofNat o)), .val (.int (Int32.ofNat len)), .val .null, .unset] [.int (Int32.ofNat len), .int (Int32.ofNat o), .ref b])) rfl (by rw [hml]; rfl) c7 (argsL := [.ref b, .int (Int32.ofNat o), .int (Int32.ofNat len)]) (rest := []) rfl rfl (by show 2 * 0 + 0 ≤ _; decide) (hb hbytes d36) (⟨rfl, hA.mv X5.warmed.alike hh5, l1, l2, hp⟩)
  obtain ⟨e8, z8⟩ := E8
  obtain ⟨rfl, N, n1, n2, n3, n4, n5, n6⟩ := NewArr.mv _ T5 s _ _ hh5.symm (Vm.Alike.refl _) rfl e8
  rw [hh5] at z8
  have hB1 := hB.keep X8.warmed.alike (n6 _ _ hB.1)
  have hne : s.heap.size ≠ a := (Nat.ne_of_lt (Array.getElem?_eq_some_iff.mp hB.1).1).symm
  have c9 : Steps p.tables e below (s₁.setTop (entryFrame m #[.ref a, .ref b, .int (Int32.ofNat o), .int (Int32.ofNat len), .null] 6)) (T8.setTop (mkF m 39 #[.val (.ref a), .val (.ref b), .val (.int (Int32.ofNat o)), .val (.int (Int32.ofNat len)), .val .null, .unset] [.ref s.heap.size])) := g8
  have c10 : Steps p.tables e below (s₁.setTop (entryFrame m #[.ref a, .ref b, .int (Int32.ofNat o), .int (Int32.ofNat len), .null] 6)) (T8.setTop (mkF m 45 #[.val (.ref a), .val (.ref b), .val (.int (Int32.ofNat o)), .val (.int (Int32.ofNat len)), .val .null, .val (.ref s.heap.size)] [.int (Int32.ofNat N.slots.size), .ref s.heap.size, .ref a])) := by
    have hc : Steps p.tables e below (s₁.setTop (entryFrame m #[.ref a, .ref b, .int (Int32.ofNat o), .int (Int32.ofNat len), .null] 6)) (T8.setTop (mkF m 45 #[.val (.ref a), .val (.ref b), .val (.int (Int32.ofNat o)), .val (.int (Int32.ofNat len)), .val .null, .val (.ref s.heap.size)] [.int (Int32.ofNat len), .ref s.heap.size, .ref a])) := c9.trans (by
      refine XS.astore X8.here hexec rfl (hb hbytes d39) rfl rfl rfl ?_
      refine XS.aloadN X8.here hexec rfl (hb hbytes d41) rfl rfl ?_
      refine XS.aload X8.here hexec rfl (hb hbytes d42) rfl rfl ?_
      refine XS.iloadN X8.here hexec rfl (hb hbytes d44) rfl ?_
      exact Steps.refl _)
    rw [n4]; exact hc
  obtain ⟨v11, T11, X11, E11, g11⟩ := X8.callS hexec (CodL.law l s.heap.size N) hown (wks W (staticW "java/lang/String" 47 CodL.yN)) (wk W CodL.tab) (W := 1) (Nat.le_of_ble_eq_true rfl) (Nat.le_of_ble_eq_true rfl) (Nat.le_refl _) (by show 0 + len + 0 ≤ len; omega) (g := (mkF m 45 #[.val (.ref a), .val (.ref b), .val (.int (Int32.ofNat o)), .val (.int (Int32.ofNat len)), .val .null, .val (.ref s.heap.size)] [.int (Int32.ofNat N.slots.size), .ref s.heap.size, .ref a])) rfl (by rw [hml]; rfl) c10 (argsL := [.ref s.heap.size, .int (Int32.ofNat N.slots.size)]) (rest := [.ref a]) rfl rfl (by show 2 * 0 + (1 + 0) ≤ _; decide) (hb hbytes d45) (⟨rfl, n1⟩)
  obtain ⟨rfl, q11⟩ := E11
  have hB11 := hB1.mv (X8.warmed.alike.symm.trans X11.warmed.alike) q11
  have c12 : Steps p.tables e below (s₁.setTop (entryFrame m #[.ref a, .ref b, .int (Int32.ofNat o), .int (Int32.ofNat len), .null] 6)) (T11.setTop (mkF m 48 #[.val (.ref a), .val (.ref b), .val (.int (Int32.ofNat o)), .val (.int (Int32.ofNat len)), .val .null, .val (.ref s.heap.size)] [.int 0, .ref a])) := g11
  obtain ⟨T13, X13, p13, bl13, sl13, st13⟩ := X11.finit hexec hown (wk W (.fieldLink "java/lang/String" 15 "java/lang/String" "coder" "B")) (Or.inr ⟨_, (wk W (.laysFinal "java/lang/String" "java/lang/String" "coder" "B"))⟩) (Or.inl ⟨rfl, hnm⟩) f2 (Or.inl rfl) hB11 (t := .byte) (by decide +kernel) rfl (g := (mkF m 48 #[.val (.ref a), .val (.ref b), .val (.int (Int32.ofNat o)), .val (.int (Int32.ofNat len)), .val .null, .val (.ref s.heap.size)] [.int 0, .ref a])) rfl (rest := []) rfl (hb hbytes d48)
  have c14 : Steps p.tables e below (s₁.setTop (entryFrame m #[.ref a, .ref b, .int (Int32.ofNat o), .int (Int32.ofNat len), .null] 6)) (T13.setTop (mkF m 54 #[.val (.ref a), .val (.ref b), .val (.int (Int32.ofNat o)), .val (.int (Int32.ofNat len)), .val .null, .val (.ref s.heap.size)] [.ref s.heap.size, .ref a])) := (c12.trans (st13 _ (Steps.refl _))).trans (by
    refine XS.aloadN X13.here hexec rfl (hb hbytes d51) rfl rfl ?_
    refine XS.aload X13.here hexec rfl (hb hbytes d52) rfl rfl ?_
    exact Steps.refl _)
  obtain ⟨T15, X15, p15, bl15, sl15, st15⟩ := X13.finit hexec hown (wk W (.fieldLink "java/lang/String" 9 "java/lang/String" "value" "[B")) (Or.inr ⟨_, (wk W (.laysFinal "java/lang/String" "java/lang/String" "value" "[B"))⟩) (Or.inl ⟨rfl, hnm⟩) f1 (Or.inl rfl) bl13 (t := (.array .byte)) (by decide +kernel) rfl (g := (mkF m 54 #[.val (.ref a), .val (.ref b), .val (.int (Int32.ofNat o)), .val (.int (Int32.ofNat len)), .val .null, .val (.ref s.heap.size)] [.ref s.heap.size, .ref a])) rfl (rest := []) rfl (hb hbytes d54)
  have c16 : Steps p.tables e below (s₁.setTop (entryFrame m #[.ref a, .ref b, .int (Int32.ofNat o), .int (Int32.ofNat len), .null] 6)) (T15.setTop (mkF m 57 #[.val (.ref a), .val (.ref b), .val (.int (Int32.ofNat o)), .val (.int (Int32.ofNat len)), .val .null, .val (.ref s.heap.size)] [])) := c14.trans (st15 _ (Steps.refl _))
  have ap := apart (Or.inr ⟨_, (wk W (.laysFinal "java/lang/String" "java/lang/String" "value" "[B"))⟩) (Or.inr ⟨_, (wk W (.laysFinal "java/lang/String" "java/lang/String" "coder" "B"))⟩) f1 f2 (t₁ := .array .byte) (t₂ := .byte) (by decide +kernel) (by decide +kernel) (by decide)
  have al := X8.warmed.alike.symm.trans X15.warmed.alike
  have n7 : T11.heap[s.heap.size]? = some N := by rw [q11]; exact n1.1
  exact ⟨T15, none, _, _, _, X15, by simp, rfl, by omega, (fun _ => rfl), ⟨rfl, _, N, bl15, ((Same.refl D _).set _ (by simp)).set _ (by simp), sl15, (Cell.slots_setSlot_ne _ ap).trans sl13, n1.keep al (p15.other hne (p13.other hne n7)), n2, by rw [al.findClass]; exact n3, n4, n5, fun y c h1 h2 => p15.other h1 (p13.other h1 (by rw [q11]; exact n6 y c h2)), by rw [p15.2.2, p13.2.2, q11]; exact z8⟩, fun fs hl => c16.trans (X15.returnOut hexec hret (hb hbytes d57) hl)⟩
end New4
namespace New1
def yN : MethodName := ⟨"java/lang/String", "<init>", "([C)V"⟩
abbrev yB : ByteArray := jdk_42_method_3_code
theorem d0 : decode yB 0 = .ok (.aload_n 0, 1) := by decide +kernel
theorem d1 : decode yB 1 = .ok (.aload_n 1, 1) := by decide +kernel
theorem d2 : decode yB 2 = .ok (.iconst 0, 1) := by decide +kernel
theorem d3 : decode yB 3 = .ok (.aload_n 1, 1) := by decide +kernel
theorem d4 : decode yB 4 = .ok (.arraylength, 1) := by decide +kernel
theorem d5 : decode yB 5 = .ok (.aconst_null, 1) := by decide +kernel
theorem d6 : decode yB 6 = .ok (.invokespecial 27, 3) := by decide +kernel
theorem d9 : decode yB 9 = .ok (.return_, 1) := by decide +kernel
def site : List Cond := [New4.tab] ++ initW "java/lang/String" 27 New4.yN
def tab : Cond := tabOf yN yB 2 none site
def P (a : Addr) (D : Cell) (fV fC : Field) (b : Addr) (A : Cell) (z : Int32) (args : Array Value) (s : State) : Prop := args = #[.ref a, .ref b] ∧ Blank "java/lang/String" a D s ∧ Found "java/lang/String" "value" "[B" fV s ∧ Found "java/lang/String" "coder" "B" fC s ∧ Ch b A s ∧ StaticIs s "java/lang/String" "COMPACT_STRINGS" "Z" (.int z) ∧ ¬ z = 0 ∧ 0 < A.slots.size ∧ A.slots.size ≤ 536870912 ∧ ∀ i, i < A.slots.size → ¬ 255 < cv A i
def E (a : Addr) (D : Cell) (fV fC : Field) (A : Cell) (r : Option Value) (s u : State) : Prop := Got a D fV fC A 0 A.slots.size r s u
/-- new String(chars), not empty, no char above 255: a Latin-1 String of their low bytes -/
theorem law (l : Launch) (a : Addr) (D : Cell) (fV fC : Field) (b : Addr) (A : Cell) (z : Int32) : Law l yN 2 1 3 52 yB 2 none site (P a D fV fC b A z) (E a D fV fC A) [⟨a, fC.slot⟩, ⟨a, fV.slot⟩] 1 A.slots.size := by
  refine Law.of_walk (plainFor_of_name (by decide +kernel)) (by decide +kernel) (by decide +kernel) (by decide) (fun _ _ h => by rw [h.1]; rfl) (fun _ U U' hal hh h => ⟨h.1, h.2.1.mv hal hh, h.2.2.1.al hal, h.2.2.2.1.al hal, h.2.2.2.2.1.mv hal hh, h.2.2.2.2.2.1.there hal hh, h.2.2.2.2.2.2⟩) (fun r U U' V V' h1 hal h2 h => Got.mv r U U' V V' h1 hal h2 h) ?_
  intro p e s m args below meth c s₁ X0 hexec hbytes hml hret hlk hnm hown hh0 W hP
  obtain ⟨rfl, hB, f1, f2, hA, s1, hz, l0, l2, hp⟩ := hP
  have c1 : Steps p.tables e below (s₁.setTop (entryFrame m #[.ref a, .ref b] 2)) (s₁.setTop (mkF m 0 #[.val (.ref a), .val (.ref b)] [])) := entry rfl
  have c2 : Steps p.tables e below (s₁.setTop (entryFrame m #[.ref a, .ref b] 2)) (s₁.setTop (mkF m 6 #[.val (.ref a), .val (.ref b)] [.null, .int (Int32.ofNat A.slots.size), .int 0, .ref b, .ref a])) := c1.trans (by
    refine XS.aloadN X0.here hexec rfl (hb hbytes d0) rfl rfl ?_
    refine XS.aloadN X0.here hexec rfl (hb hbytes d1) rfl rfl ?_
    refine iconstV X0.here hexec rfl 0 (hb hbytes d2) (by decide) ?_
    refine XS.aloadN X0.here hexec rfl (hb hbytes d3) rfl rfl ?_
    refine X0.alen hexec (hA.1.mv X0.warmed.alike hh0) rfl rfl (hb hbytes d4) ?_
    refine XS.aconstNull X0.here hexec rfl (hb hbytes d5) ?_
    exact Steps.refl _)
  obtain ⟨v3, T3, X3, E3, g3⟩ := X0.callN hexec (New4.law l a D fV fC b A z 0 A.slots.size) rfl hown (wks W (initW "java/lang/String" 27 New4.yN)) (W New4.tab (by simp only [site, List.mem_cons, List.mem_append, true_or, or_true])) (W := 0) (Nat.le_of_ble_eq_true rfl) (Nat.le_of_ble_eq_true rfl) (Nat.le_refl _) (by show 0 + A.slots.size ≤ A.slots.size; omega) (g := (mkF m 6 #[.val (.ref a), .val (.ref b)] [.null, .int (Int32.ofNat A.slots.size), .int (Int32.ofNat 0), .ref b, .ref a])) rfl (by rw [hml]; rfl) c2 (argsL := [.ref b, .int (Int32.ofNat 0), .int (Int32.ofNat A.slots.size), .null]) (rest := []) rfl rfl (by show 2 * 0 + 0 ≤ _; decide) (hb hbytes d6) (⟨rfl, hB.mv X0.warmed.alike hh0, f1.al X0.warmed.alike, f2.al X0.warmed.alike, hA.mv X0.warmed.alike hh0, s1.there X0.warmed.alike hh0, hz, l0, by omega, l2, fun i hi => by rw [Nat.zero_add]; exact hp i hi⟩)
  have e0 := Got.mv _ s₁ s _ _ hh0.symm (Vm.Alike.refl _) rfl E3
  obtain rfl := e0.1
  have c4 : Steps p.tables e below (s₁.setTop (entryFrame m #[.ref a, .ref b] 2)) (T3.setTop (mkF m 9 #[.val (.ref a), .val (.ref b)] [])) := g3
  exact ⟨T3, none, _, _, _, X3, by simp, rfl, by omega, (fun _ => rfl), e0, fun fs hl => c4.trans (X3.returnOut hexec hret (hb hbytes d9) hl)⟩
theorem pays {l : Launch} {R : Room} {p : Program} {e : Env} {below : List Frame} {s : State} {sargs : Array Value} {len W : Nat} (a : Addr) (D : Cell) (fV fC : Field) (b : Addr) (A : Cell) (z : Int32) (htab : tab.before sargs s = true) (hfr : 4 ≤ R.frames) (hlo : W + 65 ≤ R.locals) :
    Back l R p e below s sargs yN len W (fun A₁ a₁ => A₁.cells + 1 ≤ R.cells ∧ A₁.slots + A.slots.size ≤ R.slots ∧ P a D fV fC b A z a₁ A₁.U) (fun A₁ _ v₁ B₁ => E a D fV fC A v₁ A₁.U B₁.U ∧ B₁.locs = A₁.locs ++ [⟨a, fC.slot⟩, ⟨a, fV.slot⟩] ∧ B₁.cells = A₁.cells + 1 ∧ B₁.slots = A₁.slots + A.slots.size) :=
  (law l a D fV fC b A z).pays htab hfr (by omega)
end New1
/-- the byte, read back as charAt reads it, is the char -/
theorem lo8_mask {x : Int32} (h0 : ¬ x < 0) (h1 : ¬ 255 < x) : lo8 x &&& 255 = x := by
  have t : ∀ k : Fin 256, lo8 (Int32.ofNat k.val) &&& 255 = Int32.ofNat k.val := by decide +kernel
  rw [Int32.lt_iff_toInt_lt] at h0 h1
  have e0 : (0 : Int32).toInt = 0 := rfl
  have e1 : (255 : Int32).toInt = 255 := rfl
  obtain ⟨k, hk⟩ : ∃ k : Nat, x.toInt = k := ⟨x.toInt.toNat, by omega⟩
  have hx : x = Int32.ofNat k := Int32.toInt_inj.mp (by rw [hk, Int32.toInt_ofNat_small (by omega)])
  rw [hx]
  exact t ⟨k, by omega⟩
end StrChars
namespace StrChars.Road
open Jvm Sem ClassFile Op Lib Jvm.Stand Jvm.Free Jvm.Free.XT
open Jvm.Lib.Cold (StaticIs)
abbrev ST : String := "java/lang/String"
/-- every table word that New1's law asks, flat -/
abbrev words : List Jvm.Cond := [.code New1.yN New1.yB 2 none, .initialized ST, .methodLink ST 27 New4.yN, .instanceMethod New4.yN,
  .code New4.yN New4.yB 6 none, .fieldLink ST 38 ST "COMPACT_STRINGS" "Z", .laysFinal ST ST "value" "[B", .fieldLink ST 9 ST "value" "[B", .laysFinal ST ST "coder" "B", .fieldLink ST 15 ST "coder" "B",
  .methodLink ST 1 Lib.objectInit, .instanceMethod Lib.objectInit, .code Lib.objectInit ⟨#[0xb1]⟩ 1 none, .methodLink ST 177 Cmp3.yN, .static Cmp3.yN, .methodLink ST 47 CodL.yN, .static CodL.yN,
  .code Cmp3.yN Cmp3.yB 6 (some (.array .byte)), .initialized U16, .arrayClass .byte, .methodLink U16 115 Cmp5.yN, .static Cmp5.yN, .code Cmp5.yN Cmp5.yB 7 (some .int), .code CodL.yN CodL.yB 2 (some .byte)]
theorem tab_of {a : Array Value} {s : State} (h : ∀ w ∈ words, w.before a s = true) : New1.tab.before a s = true := by
  have h5 : Cmp5.tab.before a s = true := unparts (wk h (.code Cmp5.yN Cmp5.yB 7 (some .int))) (wks h (.initialized Cmp5.yN.cls :: Cmp5.site))
  have hc : CodL.tab.before a s = true := unparts (wk h (.code CodL.yN CodL.yB 2 (some .byte))) (wks h (.initialized CodL.yN.cls :: CodL.site))
  have q5 : ∀ w ∈ Cmp5.tab :: words, w.before a s = true := fun w hw => (List.mem_cons.mp hw).elim (fun e => e ▸ h5) (h w)
  have h3 : Cmp3.tab.before a s = true := unparts (wk q5 (.code Cmp3.yN Cmp3.yB 6 (some (.array .byte)))) (wks q5 (.initialized Cmp3.yN.cls :: Cmp3.site))
  have q3 : ∀ w ∈ Cmp3.tab :: CodL.tab :: words, w.before a s = true := fun w hw => (List.mem_cons.mp hw).elim (fun e => e ▸ h3) fun hw => (List.mem_cons.mp hw).elim (fun e => e ▸ hc) (h w)
  have h4 : New4.tab.before a s = true := unparts (wk q3 (.code New4.yN New4.yB 6 none)) (wks q3 (.initialized New4.yN.cls :: New4.site))
  have q4 : ∀ w ∈ New4.tab :: words, w.before a s = true := fun w hw => (List.mem_cons.mp hw).elim (fun e => e ▸ h4) (h w)
  exact unparts (wk q4 (.code New1.yN New1.yB 2 none)) (wks q4 (.initialized New1.yN.cls :: New1.site))
/-- the words ride from the start Z to the walk's own state -/
theorem moved {Z s : State} {a0 args : Array Value} (hZ : Z.Warmed39 s.vm) (hw : ∀ d ∈ words, d.before a0 Z = true) : ∀ d ∈ words, d.before args s = true := fun d hd => by
  have q := hw d hd
  have t : ∀ d ∈ words, d = .arrayClass .byte ∨ (d.onTables && d.keepsFace) = true := by decide +kernel
  rcases t d hd with rfl | t
  · exact RoadKit.mvA hZ q
  · exact RoadKit.mv hZ q t
/-- WHAT COMES BACK, over the tables of the start Z: h the heap at the call, h' behind it -/
def Q (Z : State) (x : Addr) (A : Cell) (h : Heap) (v : Option Value) (h' : Heap) (L : List Loc) : Prop := v = none ∧ (∀ y ∈ L, y.base = x) ∧ RoadKit.Keep h h' [x] ∧ h'.size = h.size + 1 ∧ RoadKit.Exa Z h' x ST ∧ RoadKit.Fld Z h' x ST "value" "[B" (.ref h.size) ∧ RoadKit.Fld Z h' x ST "coder" "B" (.int 0) ∧
  (∃ V : Cell, RoadKit.Arr Z h' h.size V .byte ∧ V.vm = .none ∧ Z.vm.findClass "[B" = some V.cls ∧ V.slots.size = A.slots.size ∧ ∀ j, j < A.slots.size → V.slots[j]? = some (.int (lo8 (cv A j)))) ∧
  ∀ (O n d : String) (w : Value), RoadKit.Fld Z h x O n d w → RoadKit.slotOf Z O n d ≠ RoadKit.slotOf Z ST "value" "[B" → RoadKit.slotOf Z O n d ≠ RoadKit.slotOf Z ST "coder" "B" → RoadKit.Fld Z h' x O n d w
/-- **new String(chars) AT A CALL, IN THE ROAD'S FORM**: for specialBack behind newO: x the fresh String, b the char[] with the cell A -/
theorem back {p : Program} {l : Launch} {e : Env} {R : Room} {s : State} {args : Array Value} {below : List Frame} {len W : Nat} {Z : State} {a0 : Array Value} {h : Heap} (hZ : Z.Warmed39 s.vm) (hw : ∀ d ∈ words, d.before a0 Z = true) {kI : Nat} (wi : (Jvm.Cond.instantiable ST kI).before a0 Z = true)
    {x b : Addr} {A : Cell} {z : Int32} {v0 c0 : Value} (E : RoadKit.Exa Z h x ST) (V : RoadKit.Fld Z h x ST "value" "[B" v0) (C : RoadKit.Fld Z h x ST "coder" "B" c0) (K : RoadKit.Arr Z h b A .char) (hty : Typed .char A) (S : RoadKit.Sta Z h ST "COMPACT_STRINGS" "Z" (.int z)) (hz : ¬ z = 0)
    (l0 : 0 < A.slots.size) (l2 : A.slots.size ≤ 536870912) (hp : ∀ i, i < A.slots.size → ¬ 255 < cv A i) (hfr : 4 ≤ R.frames) (hlo : W + 65 ≤ R.locals) :
    Back l R p e below s args New1.yN len W (fun P a => a = #[.ref x, .ref b] ∧ P.U.heap = h ∧ P.cells + 1 ≤ R.cells ∧ P.slots + A.slots.size ≤ R.slots)
      (fun P _ v B => ∃ L, Q Z x A h v B.U.heap L ∧ B.locs = P.locs ++ L ∧ B.cells = P.cells + 1 ∧ B.slots = P.slots + A.slots.size) := by
  intro m meth c P g ig mk a X hg hsize hdg hW hn hp'
  obtain ⟨rfl, rfl, r1, r2⟩ := hp'
  have al : Z.vm.Alike P.U.vm := hZ.alike.trans X.warmed.alike
  obtain ⟨D, cfV, kV, iV, fV, hD, gV, stV, knV, obV, asV, slV⟩ := id V
  obtain ⟨D', cfC, kC, iC, fC, hD', gC, stC, -, -, asC, slC⟩ := id C
  cases hD.symm.trans hD'
  obtain ⟨D2, kD, e1, e2, e3, e4, e5⟩ := id E
  cases hD.symm.trans e1
  obtain ⟨c2, k2, i1, i2, i3, -⟩ := Cond.instantiable_spec wi
  cases e2.symm.trans i1
  cases e3.symm.trans i2
  obtain ⟨kU, u1, u2⟩ := al.2.2 _ _ e3
  have hB : Blank ST x D P.U := ⟨hD, ⟨knV, fun q hq => by rw [hq] at obV; cases obV⟩, by rw [al.findClass]; exact e2, kU, u1, by rw [u2]; exact i3, by rw [u2]; exact e5 i3⟩
  have F1 : Found ST "value" "[B" fV P.U := ⟨SBG.found_only al ⟨cfV, kV, iV, gV⟩, stV⟩
  have F2 : Found ST "coder" "B" fC P.U := ⟨SBG.found_only al ⟨cfC, kC, iC, gC⟩, stC⟩
  have hA : Ch b A P.U := ⟨⟨K.1, State.isArrayOf_alike al K.2.1, K.2.2, by omega⟩, hty⟩
  have hS : StaticIs P.U ST "COMPACT_STRINGS" "Z" (.int z) := by
    obtain ⟨cfS, iS, kS, fS, st, cS, t1, t2, t3, t4, t5, t6, t7⟩ := S
    exact StaticIs.there (s := { Z with heap := P.U.heap }) ⟨cfS, iS, kS, fS, st, cS, t1, t2, t3, t4, t5, (fun q => by rw [q] at t6; cases t6), t7⟩ al rfl
  obtain ⟨v, B, X', ⟨⟨hv, E', V', q1, q2, q3, q4, q5, q6, q7, q8, q9, q10, q11⟩, hl, hc, hs⟩, st⟩ := New1.pays x D fV fC b A z (tab_of (moved hZ hw)) hfr hlo m meth c P g ig mk _ X hg hsize hdg hW hn ⟨r1, r2, rfl, hB, F1, F2, hA, hS, hz, l0, l2, hp⟩
  have al' : Z.vm.Alike B.U.vm := hZ.alike.trans X'.warmed.alike
  have hsz : E'.slots.size = D.slots.size := by
    obtain ⟨-, -, -, kB, w1, w2, w3⟩ := q1
    obtain ⟨kB', y1, y2⟩ := al'.2.2 _ _ e3
    rw [q2.2.1] at w1
    cases w1.symm.trans y1
    rw [w3, e5 i3, y2]
  refine ⟨v, B, X', ⟨_, ⟨hv, ?_, ⟨by omega, fun y cy hy hn' => q10 y cy (by simpa using hn') hy, fun y cy hy => ?_⟩, q11, ⟨E', _, q1.1, by rw [q2.2.1]; exact e2, by rw [q2.2.1]; exact e3, by rw [q2.1]; exact obV, fun _ => by rw [hsz]; exact e5 i3⟩,
    ⟨E', cfV, kV, iV, fV, q1.1, gV, stV, by rw [q2.1]; exact knV, by rw [q2.1]; exact obV, by rw [q2.2.1]; exact asV, q3⟩, ⟨E', cfC, kC, iC, fC, q1.1, gC, stC, by rw [q2.1]; exact knV, by rw [q2.1]; exact obV, by rw [q2.2.1]; exact asC, q4⟩,
    ⟨V', ⟨q5.1, State.isArrayOf_alike al'.symm q5.2.1, q5.2.2.1⟩, q6, by rw [← al'.findClass]; exact q7, q8, fun j hj => by have := q9 j hj; rwa [Nat.zero_add] at this⟩, fun O n d w F n1 n2 => ?_⟩, hl, hc, hs⟩, st⟩
  · intro y hy
    simp only [List.mem_cons, List.not_mem_nil, or_false] at hy
    rcases hy with rfl | rfl <;> rfl
  · by_cases q : y = x
    · subst q
      cases hD.symm.trans hy
      exact ⟨E', q1.1, q2.2.1, q2.1, hsz⟩
    · exact ⟨cy, q10 y cy q hy, rfl, rfl, rfl⟩
  · obtain ⟨D3, cf, k, i, f, g1, g2, g3, g4, g5, g6, g7⟩ := F
    cases hD.symm.trans g1
    simp only [RoadKit.slotOf, g2, gV, gC, Option.map_some, Option.getD_some] at n1 n2
    exact ⟨E', cf, k, i, f, q1.1, g2, g3, by rw [q2.1]; exact g4, by rw [q2.1]; exact g5, by rw [q2.2.1]; exact g6, by rw [q2.2.2 f.slot (by simp [n1, n2])]; exact g7⟩
end StrChars.Road
namespace StrChars.Road
open Jvm Sem ClassFile Op Lib Jvm.Stand Jvm.Free Jvm.Free.XT
/-- WHAT COMES BACK, the byte[] as a list of values -/
def QA (Z : State) (x : Addr) (zn : Int32) (cs : List Int32) (h : Heap) (v : Option Value) (h' : Heap) (L : List Loc) : Prop := v = none ∧ (∀ y ∈ L, y.base = x) ∧ RoadKit.Keep h h' [x] ∧ h'.size = h.size + 1 ∧ RoadKit.Exa Z h' x ST ∧ RoadKit.Fld Z h' x ST "value" "[B" (.ref h.size) ∧ RoadKit.Fld Z h' x ST "coder" "B" (.int 0) ∧
  (∃ kb, Z.vm.findClass "[B" = some kb ∧ RoadKit.Arv Z h' h.size kb .byte zn (cs.map fun c => .int (lo8 c)) (.int 0)) ∧
  ∀ (O n d : String) (w : Value), RoadKit.Fld Z h x O n d w → RoadKit.slotOf Z O n d ≠ RoadKit.slotOf Z ST "value" "[B" → RoadKit.slotOf Z O n d ≠ RoadKit.slotOf Z ST "coder" "B" → RoadKit.Fld Z h' x O n d w
/-- **new String(chars) AT A CALL, THE ARRAYS AS LISTS**: the char[] at b holds cs, not empty, no char above 255 -/
theorem backArv {p : Program} {l : Launch} {e : Env} {R : Room} {s : State} {args : Array Value} {below : List Frame} {len W : Nat} {Z : State} {a0 : Array Value} {h : Heap} (hZ : Z.Warmed39 s.vm) (hw : ∀ d ∈ words, d.before a0 Z = true) {kI : Nat} (wi : (Jvm.Cond.instantiable ST kI).before a0 Z = true)
    {x b : Addr} {k : ClassId} {zn z : Int32} {cs : List Int32} {dv v0 c0 : Value} (E : RoadKit.Exa Z h x ST) (V : RoadKit.Fld Z h x ST "value" "[B" v0) (C : RoadKit.Fld Z h x ST "coder" "B" c0) (K : RoadKit.Arv Z h b k .char zn (cs.map Value.int) dv) (S : RoadKit.Sta Z h ST "COMPACT_STRINGS" "Z" (.int z)) (hz : ¬ z = 0)
    (hlen : zn.toNatClampNeg = cs.length) (h0 : 0 < cs.length) (hbig : cs.length ≤ 536870912) (hall : ∀ c ∈ cs, ¬ 255 < c) (hfr : 4 ≤ R.frames) (hlo : W + 65 ≤ R.locals) :
    Back l R p e below s args New1.yN len W (fun P a => a = #[.ref x, .ref b] ∧ P.U.heap = h ∧ P.cells + 1 ≤ R.cells ∧ P.slots + cs.length ≤ R.slots)
      (fun P _ v B => ∃ L, QA Z x zn cs h v B.U.heap L ∧ B.locs = P.locs ++ L ∧ B.cells = P.cells + 1 ∧ B.slots = P.slots + cs.length) := by
  obtain ⟨A, K1, K2, K3, K4, K5, K6⟩ := K
  have e : A.slots.size = cs.length := K3.trans hlen
  have hat : ∀ (i : Nat) (hi : i < cs.length), A.slots[i]? = some (.int cs[i]) := fun i hi => by rw [K5 i (by omega)]; simp [List.getD_eq_getElem?_getD, hi]
  have hcv : ∀ (i : Nat) (hi : i < cs.length), cv A i = cs[i] := fun i hi => by unfold cv; rw [hat i hi]
  have hty : Typed .char A := fun i v hv => by
    have hi : i < A.slots.size := (Array.getElem?_eq_some_iff.mp hv).1
    have q := K5 i hi
    rw [hv] at q
    rw [Option.some.inj q]
    exact K6 i hi
  refine Back.mono (back hZ hw wi E V C K1 hty S hz (by omega) (by omega) (fun i hi => by rw [hcv i (by omega)]; exact hall _ (List.getElem_mem _)) hfr hlo) (fun P a hp => ⟨hp.1, hp.2.1, hp.2.2.1, by rw [e]; exact hp.2.2.2⟩) (fun P a v B hp hq => ?_)
  obtain ⟨L, ⟨q1, q2, q3, q4, q5, q6, q7, ⟨V', v1, v2, v3, v4, v5⟩, q9⟩, hl, hc, hs⟩ := hq
  refine ⟨L, ⟨q1, q2, q3, q4, q5, q6, q7, ⟨V'.cls, v3, V', v1, rfl, by rw [v4, e, hlen], K4, fun i hi => ?_, fun i hi => ?_⟩, q9⟩, hl, hc, by rw [hs, e]⟩
  · have hi' : i < cs.length := by omega
    rw [v5 i (by omega), hcv i hi']; simp [List.getD_eq_getElem?_getD, hi']
  · have hi' : i < cs.length := by omega
    simp only [List.getD_eq_getElem?_getD, List.getElem?_map, List.getElem?_eq_getElem hi', Option.map_some, Option.getD_some]
    exact fits_lo8 _
end StrChars.Road
namespace StrChars.Road
open Jvm Sem ClassFile Op Lib Jvm.Stand Jvm.Free Jvm.Free.XT
/-- WHAT COMES BACK, in the writer's own shape -/
def QV (Z : State) (x : Addr) (N : Int32) (bs : List Int32) (h : Heap) (n0 : Nat) (v : Option Value) (h' : Heap) (L : List Loc) : Prop := v = none ∧ RoadKit.Fr n0 L ∧ RoadKit.Keep h h' [x] ∧ RoadKit.Exa Z h' x ST ∧ RoadKit.Fld Z h' x ST "coder" "B" (.int 0) ∧
  ∃ (t : Addr) (kb : ClassId), n0 ≤ t ∧ h.size ≤ t ∧ ¬ t = x ∧ RoadKit.Fld Z h' x ST "value" "[B" (.ref t) ∧ RoadKit.Arv Z h' t kb .byte N (bs.map Value.int) (.int 0)
/-- **new String(chars) AT A CALL, FOR THE WRITER**: a char[] of n known ints, each 0 to 255 -/
theorem backV {p : Program} {l : Launch} {e : Env} {R : Room} {s : State} {args : Array Value} {below : List Frame} {len W : Nat} {Z : State} {a0 : Array Value} {h : Heap} (hZ : Z.Warmed39 s.vm) (hw : ∀ d ∈ words, d.before a0 Z = true) {kI : Nat} (wi : (Jvm.Cond.instantiable ST kI).before a0 Z = true)
    {x b : Addr} {kC : ClassId} {cs bs : List Int32} {d v0 c0 : Value} {z N : Int32} {n n0 : Nat} (hx0 : n0 ≤ x) (hh0 : n0 ≤ h.size) (E : RoadKit.Exa Z h x ST) (V : RoadKit.Fld Z h x ST "value" "[B" v0) (C : RoadKit.Fld Z h x ST "coder" "B" c0) (K : RoadKit.Arv Z h b kC .char N (cs.map Value.int) d) (S : RoadKit.Sta Z h ST "COMPACT_STRINGS" "Z" (.int z)) (hz : ¬ z = 0)
    (hn : cs.length = n) (hN : N = Int32.ofNat n) (l0 : 0 < n) (l2 : n ≤ 4000) (hp : ∀ c ∈ cs, ¬ c < 0 ∧ ¬ (255 : Int32) < c) (hb : bs = cs.map (fun c => c.toInt8.toInt32)) (hfr : 4 ≤ R.frames) (hlo : W + 65 ≤ R.locals) :
    Back l R p e below s args (⟨"java/lang/String", "<init>", "([C)V"⟩ : MethodName) len W (fun P a => a = #[.ref x, .ref b] ∧ P.U.heap = h ∧ P.cells + 1 ≤ R.cells ∧ P.slots + n ≤ R.slots)
      (fun P _ v B => ∃ L, QV Z x N bs h n0 v B.U.heap L ∧ B.locs = P.locs ++ L ∧ B.cells = P.cells + 1 ∧ B.slots = P.slots + n) := by
  subst hn hN hb
  refine Back.mono (backArv hZ hw wi E V C K S hz (n32 (by omega)) l0 (by omega) (fun c hc => (hp c hc).2) hfr hlo) (fun P a hp => hp) (fun P a v B hp hq => ?_)
  obtain ⟨L, ⟨q1, q2, q3, q4, q5, q6, q7, ⟨kb, v1, v2⟩, q9⟩, hl, hc, hs⟩ := hq
  exact ⟨L, ⟨q1, fun y hy => by rw [q2 y hy]; exact hx0, q3, q5, q7, h.size, kb, hh0, Nat.le_refl _, Nat.ne_of_gt E.lt, q6, by rw [List.map_map]; exact v2⟩, hl, hc, hs⟩
end StrChars.Road
namespace StrChars
open Jvm Sem ClassFile Op Lib Jvm.Stand Jvm.Free.XT Jvm.Free.ALB Jvm.Free.JM Jvm.Free
open Jvm.Lib.Cold (StaticIs)
def hi8 (x : Int32) : Int32 := lo8 (x >>> ((8 : Int32) &&& 31))
/-- what StringUTF16.getChar makes of two bytes -/
def pairCh (u v : Int32) : Int32 := (((u &&& 255) <<< ((0 : Int32) &&& 31)) ||| ((v &&& 255) <<< ((8 : Int32) &&& 31))).toUInt32.toUInt16.toUInt32.toInt32
theorem lo8_and (x : Int32) : (lo8 x &&& 255).toBitVec.toNat = x.toBitVec.toNat % 256 := by
  have h : (lo8 x).toBitVec = (x.toBitVec.signExtend 8).signExtend 32 := by rw [lo8, Int8.toBitVec_toInt32, Int32.toBitVec_toInt8]
  rw [Int32.toBitVec_and, BitVec.toNat_and, h]
  have e : ((x.toBitVec.signExtend 8).signExtend 32).toNat % 256 = x.toBitVec.toNat % 256 := by
    rw [BitVec.toNat_signExtend]
    have hlt := x.toBitVec.isLt
    simp only [BitVec.toNat_setWidth, BitVec.toNat_signExtend]
    split <;> split <;> omega
  rw [← e]
  exact Nat.and_two_pow_sub_one_eq_mod _ 8
theorem pair_says {c : Int32} (h0 : ¬ c < 0) (h1 : ¬ 65535 < c) : pairCh (lo8 c) (hi8 c) = c := by
  rw [Int32.lt_iff_toInt_lt] at h0 h1
  have e0 : (0 : Int32).toInt = 0 := rfl
  have e1 : (65535 : Int32).toInt = 65535 := rfl
  have hc : c.toInt = c.toBitVec.toNat := by
    have := c.toBitVec.isLt
    have e : c.toInt = c.toBitVec.toInt := rfl
    rw [e] at h0 h1
    rw [e]
    rw [BitVec.toInt_eq_toNat_cond] at h0 h1 ⊢
    split at h0 <;> split <;> omega
  have hn : c.toBitVec.toNat < 65536 := by omega
  have a1 := lo8_and c
  have a2 : (hi8 c &&& 255).toBitVec.toNat = c.toBitVec.toNat / 256 := by
    rw [hi8, lo8_and]
    have e : ((8 : Int32) &&& 31) = 8 := by decide
    rw [e, Int32.toBitVec_shiftRight]
    have e2 : ((8 : Int32).toBitVec.smod 32) = 8#32 := by decide
    rw [e2, BitVec.sshiftRight_eq', BitVec.toNat_sshiftRight_of_msb_false (by rw [BitVec.msb_eq_false_iff_two_mul_lt]; omega)]
    show c.toBitVec.toNat >>> 8 % 256 = _
    rw [Nat.shiftRight_eq_div_pow]
    omega
  unfold pairCh
  apply Int32.toBitVec_inj.mp
  apply BitVec.eq_of_toNat_eq
  have f0 : ((0 : Int32) &&& 31) = 0 := by decide
  have f8 : ((8 : Int32) &&& 31) = 8 := by decide
  rw [f0, f8]
  have g : (((lo8 c &&& 255) <<< (0 : Int32)) ||| ((hi8 c &&& 255) <<< (8 : Int32))).toBitVec.toNat = c.toBitVec.toNat := by
    rw [Int32.toBitVec_or, Int32.toBitVec_shiftLeft, Int32.toBitVec_shiftLeft]
    have s0 : ((0 : Int32).toBitVec.smod 32) = 0#32 := by decide
    have s8 : ((8 : Int32).toBitVec.smod 32) = 8#32 := by decide
    rw [s0, s8, BitVec.toNat_or]
    simp only [BitVec.shiftLeft_eq', BitVec.toNat_shiftLeft, a1, a2]
    show (c.toBitVec.toNat % 256) <<< 0 % 2 ^ 32 ||| (c.toBitVec.toNat / 256) <<< 8 % 2 ^ 32 = _
    rw [Nat.shiftLeft_zero, Nat.mod_eq_of_lt (show c.toBitVec.toNat % 256 < 2 ^ 32 by omega), Nat.mod_eq_of_lt (show (c.toBitVec.toNat / 256) <<< 8 < 2 ^ 32 by rw [Nat.shiftLeft_eq]; omega), Nat.or_comm, ← Nat.shiftLeft_add_eq_or_of_lt (by omega), Nat.shiftLeft_eq]
    omega
  show BitVec.toNat (((((lo8 c &&& 255) <<< (0 : Int32)) ||| ((hi8 c &&& 255) <<< (8 : Int32))).toBitVec.setWidth 16).setWidth 32) = _
  rw [BitVec.toNat_setWidth, BitVec.toNat_setWidth, g]
  omega
end StrChars
namespace StrChars
open Jvm Sem ClassFile Op Lib Jvm.Stand Jvm.Free.XT Jvm.Free.ALB Jvm.Free.JM Jvm.Free
open Jvm.Lib.Cold (StaticIs)
/-- the array's cell V codes the n chars f 0 .. f (n - 1) by the coder cd, as the JDK does: coder 1 just where some char is above 255 -/
def Cod (cd : Int32) (n : Nat) (f : Nat → Int32) (V : Cell) : Prop := (cd = 0 ∧ V.slots.size = n ∧ ∀ j, j < n → V.slots[j]? = some (.int (lo8 (f j))) ∧ ¬ 255 < f j) ∨ (cd = 1 ∧ V.slots.size = 2 * n ∧ (∀ j, j < n → V.slots[2 * j]? = some (.int (lo8 (f j))) ∧ V.slots[2 * j + 1]? = some (.int (hi8 (f j)))) ∧ ∃ j, j < n ∧ 255 < f j)
/-- **x is a String of the n chars f 0 .. f (n - 1)**, Latin-1 or UTF-16; its array at t has the cell V -/
def Txt (x t : Addr) (V : Cell) (cd : Int32) (n : Nat) (f : Nat → Int32) (U : State) : Prop := Exact "java/lang/String" x U ∧ Has x "java/lang/String" "value" "[B" (.ref t) U ∧ Has x "java/lang/String" "coder" "B" (.int cd) U ∧ XT.Arr .byte t V U ∧ Cod cd n f V ∧ ∀ j, j < n → ¬ f j < 0 ∧ ¬ 65535 < f j
theorem Txt.mv {x t : Addr} {V : Cell} {cd : Int32} {n : Nat} {f : Nat → Int32} {U U' : State} (h : Txt x t V cd n f U) (hal : U.vm.Alike U'.vm) (hh : U'.heap = U.heap) : Txt x t V cd n f U' := ⟨h.1.mv hal hh, h.2.1.mv hal hh, h.2.2.1.mv hal hh, h.2.2.2.1.mv hal hh, h.2.2.2.2⟩
end StrChars
namespace StrChars.Road
open Jvm Sem ClassFile Op Lib Jvm.Stand Jvm.Free Jvm.Free.XT
open Jvm.Lib.Cold (StaticIs)
theorem consq {a : Array Value} {s : State} {c : Jvm.Cond} {L : List Jvm.Cond} (h0 : c.before a s = true) (h : ∀ w ∈ L, w.before a s = true) : ∀ w ∈ c :: L, w.before a s = true := fun w hw => (List.mem_cons.mp hw).elim (fun e => e ▸ h0) (h w)
/-- the bytes of the chars cs, low before high -/
def wideBytes : List Int32 → List Value
  | [] => []
  | c :: cs => .int (lo8 c) :: .int (hi8 c) :: wideBytes cs
theorem wide_lo (d : Value) : ∀ (cs : List Int32) (j : Nat), j < cs.length → (wideBytes cs).getD (2 * j) d = .int (lo8 (cs.getD j 0))
  | [], j, h => absurd h (Nat.not_lt_zero j)
  | c :: cs, 0, _ => rfl
  | c :: cs, j + 1, h => by
    have q := wide_lo d cs j (by simpa using h)
    rw [show 2 * (j + 1) = 2 * j + 1 + 1 from by omega]
    simpa [wideBytes] using q
theorem wide_hi (d : Value) : ∀ (cs : List Int32) (j : Nat), j < cs.length → (wideBytes cs).getD (2 * j + 1) d = .int (hi8 (cs.getD j 0))
  | [], j, h => absurd h (Nat.not_lt_zero j)
  | c :: cs, 0, _ => rfl
  | c :: cs, j + 1, h => by
    have q := wide_hi d cs j (by simpa using h)
    rw [show 2 * (j + 1) + 1 = 2 * j + 1 + 1 + 1 from by omega]
    simpa [wideBytes] using q
theorem low_at (d : Value) (cs : List Int32) (j : Nat) (h : j < cs.length) : (cs.map fun c => Value.int (lo8 c)).getD j d = .int (lo8 (cs.getD j 0)) := by
  simp [List.getD_eq_getElem?_getD, h]
/-- an array of N2 bytes vs codes the chars cs by the coder cd -/
def CodA (cs : List Int32) (cd N2 : Int32) (vs : List Value) : Prop := (cd = 0 ∧ N2 = Int32.ofNat cs.length ∧ vs = (cs.map fun c => Value.int (lo8 c)) ∧ ∀ c ∈ cs, ¬ 255 < c) ∨ (cd = 1 ∧ N2 = Int32.ofNat (2 * cs.length) ∧ vs = wideBytes cs ∧ ∃ c ∈ cs, 255 < c)
theorem CodA.cod {cs : List Int32} {cd N2 : Int32} {vs : List Value} {V : Cell} (h : CodA cs cd N2 vs) (hn : 2 * cs.length < 2 ^ 31) (hs : V.slots.size = N2.toNatClampNeg) (hv : RoadKit.Has V vs (.int 0)) : Cod cd cs.length (fun j => cs.getD j 0) V := by
  rcases h with ⟨rfl, rfl, rfl, h⟩ | ⟨rfl, rfl, rfl, c, hc, hw⟩
  · rw [n32 (by omega)] at hs
    exact Or.inl ⟨rfl, hs, fun j hj => ⟨by rw [hv j (by omega), low_at _ _ _ hj], by
      have e : cs.getD j 0 = cs[j] := by simp [List.getD_eq_getElem?_getD, hj]
      show ¬ 255 < cs.getD j 0
      rw [e]; exact h _ (List.getElem_mem _)⟩⟩
  · rw [n32 (by omega)] at hs
    obtain ⟨j, hj, rfl⟩ := List.getElem_of_mem hc
    exact Or.inr ⟨rfl, hs, fun j hj => ⟨by rw [hv _ (by omega), wide_lo _ _ _ hj], by rw [hv _ (by omega), wide_hi _ _ _ hj]⟩, j, hj, by
      have e : cs.getD j 0 = cs[j] := by simp [List.getD_eq_getElem?_getD, hj]
      show 255 < cs.getD j 0
      rw [e]; exact hw⟩
/-- an object of exactly java/lang/String, its two fields found: as the laws ask it -/
theorem strObj {Z U : State} {a0 : Array Value} {kI : Nat} (wi : (Jvm.Cond.instantiable ST kI).before a0 Z = true) (al : Z.vm.Alike U.vm) {x : Addr} {v0 c0 : Value} (E : RoadKit.Exa Z U.heap x ST) (V : RoadKit.Fld Z U.heap x ST "value" "[B" v0) (C : RoadKit.Fld Z U.heap x ST "coder" "B" c0) :
    ∃ (D : Cell) (fV fC : Field), Blank ST x D U ∧ Found ST "value" "[B" fV U ∧ Found ST "coder" "B" fC U ∧ D.slots[fV.slot]? = some v0 ∧ D.slots[fC.slot]? = some c0 ∧ RoadKit.slotOf Z ST "value" "[B" = fV.slot ∧ RoadKit.slotOf Z ST "coder" "B" = fC.slot := by
  obtain ⟨D, cfV, kV, iV, fV, hD, gV, stV, knV, obV, asV, slV⟩ := V
  obtain ⟨D', cfC, kC, iC, fC, hD', gC, stC, -, -, asC, slC⟩ := C
  cases hD.symm.trans hD'
  obtain ⟨D2, kD, e1, e2, e3, e4, e5⟩ := E
  cases hD.symm.trans e1
  obtain ⟨c2, k2, i1, i2, i3, -⟩ := Cond.instantiable_spec wi
  cases e2.symm.trans i1
  cases e3.symm.trans i2
  obtain ⟨kU, u1, u2⟩ := al.2.2 _ _ e3
  exact ⟨D, fV, fC, ⟨hD, ⟨knV, fun q hq => by rw [hq] at obV; cases obV⟩, by rw [al.findClass]; exact e2, kU, u1, by rw [u2]; exact i3, by rw [u2]; exact e5 i3⟩, ⟨SBG.found_only al ⟨cfV, kV, iV, gV⟩, stV⟩, ⟨SBG.found_only al ⟨cfC, kC, iC, gC⟩, stC⟩, slV, slC, by simp [RoadKit.slotOf, gV], by simp [RoadKit.slotOf, gC]⟩
theorem sta_is {Z U : State} (al : Z.vm.Alike U.vm) {C n d : String} {v : Value} (S : RoadKit.Sta Z U.heap C n d v) : StaticIs U C n d v := by
  obtain ⟨cfS, iS, kS, fS, st, cS, t1, t2, t3, t4, t5, t6, t7⟩ := S
  exact StaticIs.there (s := { Z with heap := U.heap }) ⟨cfS, iS, kS, fS, st, cS, t1, t2, t3, t4, t5, (fun q => by rw [q] at t6; cases t6), t7⟩ al rfl
end StrChars.Road
namespace StrChars
open Jvm Sem ClassFile Op Lib Jvm.Stand Jvm.Free.XT Jvm.Free.ALB Jvm.Free.JM Jvm.Free
open Jvm.Lib.Cold (StaticIs)
/-- what place i of a byte[]'s cell holds -/
def yv (A : Cell) (i : Nat) : Int32 := match A.slots[i]? with | some (.int x) => x | _ => 0
theorem yv_get {a : Addr} {A : Cell} {U : State} (h : XT.Arr .byte a A U) (ht : Typed .byte A) {i : Nat} (hi : i < A.slots.size) : A.slots[i]? = some (.int (yv A i)) := by
  have e := Array.getElem?_eq_getElem hi
  have f := ht i _ e
  unfold yv; rw [e]
  generalize A.slots[i] = v at f
  cases v <;> simp [fits] at f ⊢
/-- the two arrays are equal, place for place -/
def EqC (A B : Cell) : Prop := A.slots.size = B.slots.size ∧ ∀ i, i < A.slots.size → yv A i = yv B i
/-- a boolean that says whether p -/
def Says01 (q : Prop) (r : Option Value) (s u : State) : Prop := ∃ v : Int32, r = some (.int v) ∧ u.heap = s.heap ∧ ((v = 1 ∧ q) ∨ (v = 0 ∧ ¬ q))
theorem Says01.mv {q : Prop} : ∀ r (U U' V V' : State), U'.heap = U.heap → V.vm.Alike V'.vm → V'.heap = V.heap → Says01 q r U V → Says01 q r U' V' :=
  fun r U U' V V' h1 _ h2 ⟨v, a, b, c⟩ => ⟨v, a, by rw [h1, h2]; exact b, c⟩
namespace LEq
def yN : MethodName := ⟨"java/lang/StringLatin1", "equals", "([B[B)Z"⟩
abbrev yB : ByteArray := jdk_43_method_13_code
theorem d0 : decode yB 0 = .ok (.aload_n 0, 1) := by decide +kernel
theorem d1 : decode yB 1 = .ok (.arraylength, 1) := by decide +kernel
theorem d2 : decode yB 2 = .ok (.aload_n 1, 1) := by decide +kernel
theorem d3 : decode yB 3 = .ok (.arraylength, 1) := by decide +kernel
theorem d4 : decode yB 4 = .ok (.if_icmp (.ne) 30, 3) := by decide +kernel
theorem d7 : decode yB 7 = .ok (.iconst 0, 1) := by decide +kernel
theorem d8 : decode yB 8 = .ok (.istore_n 2, 1) := by decide +kernel
theorem d9 : decode yB 9 = .ok (.iload_n 2, 1) := by decide +kernel
theorem d10 : decode yB 10 = .ok (.aload_n 0, 1) := by decide +kernel
theorem d11 : decode yB 11 = .ok (.arraylength, 1) := by decide +kernel
theorem d12 : decode yB 12 = .ok (.if_icmp (.ge) 20, 3) := by decide +kernel
theorem d15 : decode yB 15 = .ok (.aload_n 0, 1) := by decide +kernel
theorem d16 : decode yB 16 = .ok (.iload_n 2, 1) := by decide +kernel
theorem d17 : decode yB 17 = .ok (.baload, 1) := by decide +kernel
theorem d18 : decode yB 18 = .ok (.aload_n 1, 1) := by decide +kernel
theorem d19 : decode yB 19 = .ok (.iload_n 2, 1) := by decide +kernel
theorem d20 : decode yB 20 = .ok (.baload, 1) := by decide +kernel
theorem d21 : decode yB 21 = .ok (.if_icmp (.eq) 5, 3) := by decide +kernel
theorem d24 : decode yB 24 = .ok (.iconst 0, 1) := by decide +kernel
theorem d25 : decode yB 25 = .ok (.ireturn, 1) := by decide +kernel
theorem d26 : decode yB 26 = .ok (.iinc 2 1, 3) := by decide +kernel
theorem d29 : decode yB 29 = .ok (.goto (-20), 3) := by decide +kernel
theorem d32 : decode yB 32 = .ok (.iconst 1, 1) := by decide +kernel
theorem d33 : decode yB 33 = .ok (.ireturn, 1) := by decide +kernel
theorem d34 : decode yB 34 = .ok (.iconst 0, 1) := by decide +kernel
theorem d35 : decode yB 35 = .ok (.ireturn, 1) := by decide +kernel
def site : List Cond := []
def tab : Cond := tabOf yN yB 3 (some .boolean) site
def P (a : Addr) (A : Cell) (b : Addr) (B : Cell) (args : Array Value) (s : State) : Prop := args = #[.ref a, .ref b] ∧ XT.Arr .byte a A s ∧ Typed .byte A ∧ XT.Arr .byte b B s ∧ Typed .byte B
/-- whether two byte[] are equal, place for place -/
theorem law (l : Launch) (a : Addr) (A : Cell) (b : Addr) (B : Cell) : Law l yN 2 2 0 0 yB 3 (some .boolean) site (P a A b B) (Says01 (EqC A B)) [] 0 0 := by
  refine Law.of_walk (plainFor_of_name (by decide +kernel)) (by decide +kernel) (by decide +kernel) (by decide) (fun _ _ h => by rw [h.1]; rfl) (fun _ U U' hal hh h => ⟨h.1, h.2.1.mv hal hh, h.2.2.1, h.2.2.2.1.mv hal hh, h.2.2.2.2⟩) (fun r U U' V V' h1 hal h2 h => Says01.mv r U U' V V' h1 hal h2 h) ?_
  intro p e s m args below meth c s₁ X0 hexec hbytes hml hret hlk hnm hown hh0 W hP
  obtain ⟨rfl, hA, tA, hB, tB⟩ := hP
  have a31 := hA.2.2.2
  have b31 := hB.2.2.2
  have hA0 := hA.mv X0.warmed.alike hh0
  have hB0 := hB.mv X0.warmed.alike hh0
  have c1 : Steps p.tables e below (s₁.setTop (entryFrame m #[.ref a, .ref b] 3)) (s₁.setTop (mkF m 0 #[.val (.ref a), .val (.ref b), .unset] [])) := entry rfl
  have c2 : Steps p.tables e below (s₁.setTop (entryFrame m #[.ref a, .ref b] 3)) (s₁.setTop (mkF m 4 #[.val (.ref a), .val (.ref b), .unset] [.int (Int32.ofNat B.slots.size), .int (Int32.ofNat A.slots.size)])) := c1.trans (by
    refine XS.aloadN X0.here hexec rfl (hb hbytes d0) rfl rfl ?_
    refine X0.alen hexec hA0 rfl rfl (hb hbytes d1) ?_
    refine XS.aloadN X0.here hexec rfl (hb hbytes d2) rfl rfl ?_
    refine X0.alen hexec hB0 rfl rfl (hb hbytes d3) ?_
    exact Steps.refl _)
  by_cases hs : A.slots.size = B.slots.size
  · have c3 : Steps p.tables e below (s₁.setTop (entryFrame m #[.ref a, .ref b] 3)) (s₁.setTop (mkF m 9 #[.val (.ref a), .val (.ref b), .val (.int 0)] [])) := c2.trans (by
      refine XS.icmpNo X0.here hexec rfl (hb hbytes d4) rfl (ii_ne_f (by rw [hs])) ?_
      refine iconstV X0.here hexec rfl 0 (hb hbytes d7) (by decide) ?_
      refine XS.istoreN X0.here hexec rfl (hb hbytes d8) rfl rfl ?_
      exact Steps.refl _)
    have loop : ∀ (r i : Nat), i + r = A.slots.size → (∀ j, j < i → yv A j = yv B j) → Steps p.tables e below (s₁.setTop (entryFrame m #[.ref a, .ref b] 3)) (s₁.setTop (mkF m 9 #[.val (.ref a), .val (.ref b), .val (.int (Int32.ofNat i))] [])) → ∃ (pc : Nat) (Ls : Array Slot) (v : Int32), (pc = 25 ∨ pc = 33) ∧ ((v = 1 ∧ EqC A B) ∨ (v = 0 ∧ ¬ EqC A B)) ∧ Steps p.tables e below (s₁.setTop (entryFrame m #[.ref a, .ref b] 3)) (s₁.setTop (mkF m pc Ls [.int v])) := by
      intro r
      induction r with
      | zero =>
        intro i hi he cl
        exact ⟨33, _, 1, Or.inr rfl, Or.inl ⟨rfl, hs, fun j hj => he j (by omega)⟩, cl.trans (by
          refine XS.iloadN X0.here hexec rfl (hb hbytes d9) rfl ?_
          refine XS.aloadN X0.here hexec rfl (hb hbytes d10) rfl rfl ?_
          refine X0.alen hexec hA0 rfl rfl (hb hbytes d11) ?_
          refine XS.icmpYes X0.here hexec rfl (pc0 := 12) rfl (hb hbytes d12) rfl (ii_ge_t (nlt32 (by omega) (by omega))) (by decide) rfl ?_
          refine iconstV X0.here hexec rfl 1 (hb hbytes d32) (by decide) ?_
          exact Steps.refl _)⟩
      | succ r ih =>
        intro i hi he cl
        have c4 : Steps p.tables e below (s₁.setTop (entryFrame m #[.ref a, .ref b] 3)) (s₁.setTop (mkF m 21 #[.val (.ref a), .val (.ref b), .val (.int (Int32.ofNat i))] [.int (yv B i), .int (yv A i)])) := cl.trans (by
          refine XS.iloadN X0.here hexec rfl (hb hbytes d9) rfl ?_
          refine XS.aloadN X0.here hexec rfl (hb hbytes d10) rfl rfl ?_
          refine X0.alen hexec hA0 rfl rfl (hb hbytes d11) ?_
          refine XS.icmpNo X0.here hexec rfl (hb hbytes d12) rfl (ii_ge_f (lt32 (by omega) (by omega))) ?_
          refine XS.aloadN X0.here hexec rfl (hb hbytes d15) rfl rfl ?_
          refine XS.iloadN X0.here hexec rfl (hb hbytes d16) rfl ?_
          refine X0.aget hexec hA0 rfl (yv_get hA tA (i := i) (by omega)) rfl rfl (hb hbytes d17) ?_
          refine XS.aloadN X0.here hexec rfl (hb hbytes d18) rfl rfl ?_
          refine XS.iloadN X0.here hexec rfl (hb hbytes d19) rfl ?_
          refine X0.aget hexec hB0 rfl (yv_get hB tB (i := i) (by omega)) rfl rfl (hb hbytes d20) ?_
          exact Steps.refl _)
        by_cases hv : yv A i = yv B i
        · have c5 : Steps p.tables e below (s₁.setTop (entryFrame m #[.ref a, .ref b] 3)) (s₁.setTop (mkF m 9 #[.val (.ref a), .val (.ref b), .val (.int (Int32.ofNat i + 1))] [])) := c4.trans (by
            refine XS.icmpYes X0.here hexec rfl (pc0 := 21) rfl (hb hbytes d21) rfl (ii_eq_t hv) (by decide) rfl ?_
            refine iincV X0.here hexec rfl 1 (hb hbytes d26) (by decide) rfl rfl ?_
            refine XS.goto X0.here hexec rfl (pc0 := 29) rfl (hb hbytes d29) (by decide) rfl ?_
            exact Steps.refl _)
          rw [succ32] at c5
          exact ih (i + 1) (by omega) (fun j hj => by
            by_cases e : j = i
            · rw [e]; exact hv
            · exact he j (by omega)) c5
        · exact ⟨25, _, 0, Or.inl rfl, Or.inr ⟨rfl, fun q => hv (q.2 i (by omega))⟩, c4.trans (by
            refine XS.icmpNo X0.here hexec rfl (hb hbytes d21) rfl (ii_eq_f hv) ?_
            refine iconstV X0.here hexec rfl 0 (hb hbytes d24) (by decide) ?_
            exact Steps.refl _)⟩
    obtain ⟨pc, Ls, v, hpc, hv, cz⟩ := loop A.slots.size 0 (by omega) (fun j hj => absurd hj (Nat.not_lt_zero j)) c3
    have nv : narrow .boolean (.int v) = .int v := by rcases hv with ⟨rfl, -⟩ | ⟨rfl, -⟩ <;> rfl
    rcases hpc with rfl | rfl
    · exact ⟨s₁, some (.int v), _, _, _, X0, rfl, rfl, rfl, (fun h => by cases h), ⟨v, rfl, hh0, hv⟩, fun fs hl => cz.trans (X0.ireturnOut hexec hret nv (Or.inr (Or.inl rfl)) (hb hbytes d25) hl)⟩
    · exact ⟨s₁, some (.int v), _, _, _, X0, rfl, rfl, rfl, (fun h => by cases h), ⟨v, rfl, hh0, hv⟩, fun fs hl => cz.trans (X0.ireturnOut hexec hret nv (Or.inr (Or.inl rfl)) (hb hbytes d33) hl)⟩
  · have c3 : Steps p.tables e below (s₁.setTop (entryFrame m #[.ref a, .ref b] 3)) (s₁.setTop (mkF m 35 #[.val (.ref a), .val (.ref b), .unset] [.int 0])) := c2.trans (by
      refine XS.icmpYes X0.here hexec rfl (pc0 := 4) rfl (hb hbytes d4) rfl (ii_ne_t (ne32 a31 b31 hs)) (by decide) rfl ?_
      refine iconstV X0.here hexec rfl 0 (hb hbytes d34) (by decide) ?_
      exact Steps.refl _)
    exact ⟨s₁, some (.int 0), _, _, _, X0, rfl, rfl, rfl, (fun h => by cases h), ⟨0, rfl, hh0, Or.inr ⟨rfl, fun q => hs q.1⟩⟩, fun fs hl => c3.trans (X0.ireturnOut hexec hret rfl (Or.inr (Or.inl rfl)) (hb hbytes d35) hl)⟩
end LEq
theorem Cod.ty {cd : Int32} {n : Nat} {f : Nat → Int32} {V : Cell} (h : Cod cd n f V) : Typed .byte V := fun i v hv => by
  have hi : i < V.slots.size := (Array.getElem?_eq_some_iff.mp hv).1
  rcases h with ⟨-, k1, k2⟩ | ⟨-, k1, k2, -⟩
  · rw [(k2 i (by omega)).1] at hv; cases hv; exact fits_lo8 _
  · rcases Nat.mod_two_eq_zero_or_one i with e | e
    · obtain ⟨j, rfl⟩ : ∃ j, i = 2 * j := ⟨i / 2, by omega⟩
      rw [(k2 j (by omega)).1] at hv; cases hv; exact fits_lo8 _
    · obtain ⟨j, rfl⟩ : ∃ j, i = 2 * j + 1 := ⟨i / 2, by omega⟩
      rw [(k2 j (by omega)).2] at hv; cases hv; exact fits_lo8 _
/-- the same text -/
def SameT (n : Nat) (f : Nat → Int32) (k : Nat) (g : Nat → Int32) : Prop := n = k ∧ ∀ j, j < n → f j = g j
theorem lo8_inj {x y : Int32} (h0 : ¬ x < 0) (h1 : ¬ 255 < x) (k0 : ¬ y < 0) (k1 : ¬ 255 < y) (h : lo8 x = lo8 y) : x = y := by
  rw [← lo8_mask h0 h1, ← lo8_mask k0 k1, h]
/-- arrays coded by one coder are equal just where the texts are -/
theorem Cod.eqv {cd : Int32} {n k : Nat} {f g : Nat → Int32} {V V' : Cell} (h : Cod cd n f V) (h' : Cod cd k g V') (hf : ∀ j, j < n → ¬ f j < 0 ∧ ¬ 65535 < f j) (hg : ∀ j, j < k → ¬ g j < 0 ∧ ¬ 65535 < g j) : EqC V V' ↔ SameT n f k g := by
  have yvv : ∀ {W : Cell} {i : Nat} {x : Int32}, W.slots[i]? = some (.int x) → yv W i = x := fun q => by unfold yv; rw [q]
  rcases h with ⟨rfl, k1, k2⟩ | ⟨rfl, k1, k2, -⟩
  · rcases h' with ⟨-, m1, m2⟩ | ⟨e, -⟩
    · constructor
      · rintro ⟨e1, e2⟩
        refine ⟨by omega, fun j hj => ?_⟩
        have q := e2 j (by omega)
        rw [yvv (k2 j hj).1, yvv (m2 j (by omega)).1] at q
        exact lo8_inj (hf j hj).1 (k2 j hj).2 (hg j (by omega)).1 (m2 j (by omega)).2 q
      · rintro ⟨rfl, e2⟩
        refine ⟨by omega, fun j hj => ?_⟩
        rw [yvv (k2 j (by omega)).1, yvv (m2 j (by omega)).1, e2 j (by omega)]
    · exact absurd e (by decide)
  · rcases h' with ⟨e, -⟩ | ⟨-, m1, m2, -⟩
    · exact absurd e (by decide)
    · constructor
      · rintro ⟨e1, e2⟩
        refine ⟨by omega, fun j hj => ?_⟩
        have q1 := e2 (2 * j) (by omega)
        have q2 := e2 (2 * j + 1) (by omega)
        rw [yvv (k2 j hj).1, yvv (m2 j (by omega)).1] at q1
        rw [yvv (k2 j hj).2, yvv (m2 j (by omega)).2] at q2
        rw [← pair_says (hf j hj).1 (hf j hj).2, ← pair_says (hg j (by omega)).1 (hg j (by omega)).2, q1, q2]
      · rintro ⟨rfl, e2⟩
        refine ⟨by omega, fun i hi => ?_⟩
        rcases Nat.mod_two_eq_zero_or_one i with e | e
        · obtain ⟨j, rfl⟩ : ∃ j, i = 2 * j := ⟨i / 2, by omega⟩
          rw [yvv (k2 j (by omega)).1, yvv (m2 j (by omega)).1, e2 j (by omega)]
        · obtain ⟨j, rfl⟩ : ∃ j, i = 2 * j + 1 := ⟨i / 2, by omega⟩
          rw [yvv (k2 j (by omega)).2, yvv (m2 j (by omega)).2, e2 j (by omega)]
/-- two codings differ: so do the texts -/
theorem Cod.dif {cd cd' : Int32} {n k : Nat} {f g : Nat → Int32} {V V' : Cell} (h : Cod cd n f V) (h' : Cod cd' k g V') (hne : ¬ cd = cd') : ¬ SameT n f k g := by
  rintro ⟨rfl, e⟩
  rcases h with ⟨rfl, -, k2⟩ | ⟨rfl, -, -, j, hj, hw⟩
  · rcases h' with ⟨rfl, -⟩ | ⟨-, -, -, j, hj, hw⟩
    · exact hne rfl
    · exact (k2 j hj).2 (by rw [e j hj]; exact hw)
  · rcases h' with ⟨-, -, m2⟩ | ⟨rfl, -⟩
    · exact (m2 j hj).2 (by rw [← e j hj]; exact hw)
    · exact hne rfl
/-- an object of exactly C is an instance of C -/
theorem cinst {p : Program} {l : Launch} {e : Env} {R : Room} {s : State} {m : MethodId} {args : Array Value} {below : List Frame} {meth : Method} {c : Code} {T : State} {locs : List Loc} {cells slots : Nat} (X : Stand p l e R s m args below meth c T locs cells slots) (hexec : p.tables.exec = Jvm.exec) {own C : String} {index : Nat} (hown : s.vm.findClass own = some m.cls) (hlink : (Cond.classLink own index C).before args s = true) {a : Addr} (hE : Exact C a T)
    {g : JFrame} (hg : g.method = m) {rest : List Value} (hstack : g.stack = .ref a :: rest) (hdg : decode c.code g.pc = .ok (.instanceof index, 3)) :
    ∃ T', Stand p l e R s m args below meth c T' locs cells slots ∧ T'.heap = T.heap ∧ ∀ target, Steps p.tables e below (T'.setTop { g with pc := g.pc + 3, stack := .int 1 :: rest }) target → Steps p.tables e below (T.setTop g) target := by
  obtain ⟨cB, h1, D, h2, h3, h4⟩ := hE
  have h1' : s.vm.findClass C = some cB := by rw [← X.warmed.alike.findClass]; exact h1
  obtain ⟨vm', X', st⟩ := X.instanceofYes hexec hown hlink h2 h4 h1' (by rw [h3]; exact Jvm.Free.SB.assignable_self _ _) hg hstack hdg
  exact ⟨_, X', rfl, st⟩
theorem cself {p : Program} {l : Launch} {e : Env} {R : Room} {s : State} {m : MethodId} {args : Array Value} {below : List Frame} {meth : Method} {c : Code} {T : State} {locs : List Loc} {cells slots : Nat} (X : Stand p l e R s m args below meth c T locs cells slots) (hexec : p.tables.exec = Jvm.exec) {own C : String} {index : Nat} (hown : s.vm.findClass own = some m.cls) (hlink : (Cond.classLink own index C).before args s = true) {a : Addr} (hE : Exact C a T)
    {g : JFrame} (hg : g.method = m) {rest : List Value} (hstack : g.stack = .ref a :: rest) (hdg : decode c.code g.pc = .ok (.checkcast index, 3)) :
    ∃ T', Stand p l e R s m args below meth c T' locs cells slots ∧ T'.heap = T.heap ∧ ∀ target, Steps p.tables e below (T'.setTop { g with pc := g.pc + 3, stack := .ref a :: rest }) target → Steps p.tables e below (T.setTop g) target := by
  obtain ⟨cB, h1, D, h2, h3, h4⟩ := hE
  have h1' : s.vm.findClass C = some cB := by rw [← X.warmed.alike.findClass]; exact h1
  obtain ⟨vm', X', st⟩ := X.checkcastYes hexec hown hlink h2 h4 h1' (by rw [h3]; exact Jvm.Free.SB.assignable_self _ _) hg hstack hdg
  exact ⟨_, X', rfl, fun t h => st t (by rw [← hstack] at h; exact h)⟩
namespace SEq
def yN : MethodName := ⟨"java/lang/String", "equals", "(Ljava/lang/Object;)Z"⟩
abbrev yB : ByteArray := jdk_42_method_66_code
theorem d0 : decode yB 0 = .ok (.aload_n 0, 1) := by decide +kernel
theorem d1 : decode yB 1 = .ok (.aload_n 1, 1) := by decide +kernel
theorem d2 : decode yB 2 = .ok (.if_acmp (.ne) 5, 3) := by decide +kernel
theorem d5 : decode yB 5 = .ok (.iconst 1, 1) := by decide +kernel
theorem d6 : decode yB 6 = .ok (.ireturn, 1) := by decide +kernel
theorem d7 : decode yB 7 = .ok (.aload_n 1, 1) := by decide +kernel
theorem d8 : decode yB 8 = .ok (.instanceof 10, 3) := by decide +kernel
theorem d11 : decode yB 11 = .ok (.ifCond (.eq) 43, 3) := by decide +kernel
theorem d14 : decode yB 14 = .ok (.aload_n 1, 1) := by decide +kernel
theorem d15 : decode yB 15 = .ok (.checkcast 10, 3) := by decide +kernel
theorem d18 : decode yB 18 = .ok (.astore_n 2, 1) := by decide +kernel
theorem d19 : decode yB 19 = .ok (.getstatic 38, 3) := by decide +kernel
theorem d22 : decode yB 22 = .ok (.ifCond (.eq) 14, 3) := by decide +kernel
theorem d25 : decode yB 25 = .ok (.aload_n 0, 1) := by decide +kernel
theorem d26 : decode yB 26 = .ok (.getfield 15, 3) := by decide +kernel
theorem d29 : decode yB 29 = .ok (.aload_n 2, 1) := by decide +kernel
theorem d30 : decode yB 30 = .ok (.getfield 15, 3) := by decide +kernel
theorem d33 : decode yB 33 = .ok (.if_icmp (.ne) 21, 3) := by decide +kernel
theorem d36 : decode yB 36 = .ok (.aload_n 0, 1) := by decide +kernel
theorem d37 : decode yB 37 = .ok (.getfield 9, 3) := by decide +kernel
theorem d40 : decode yB 40 = .ok (.aload_n 2, 1) := by decide +kernel
theorem d41 : decode yB 41 = .ok (.getfield 9, 3) := by decide +kernel
theorem d44 : decode yB 44 = .ok (.invokestatic 541, 3) := by decide +kernel
theorem d47 : decode yB 47 = .ok (.ifCond (.eq) 7, 3) := by decide +kernel
theorem d50 : decode yB 50 = .ok (.iconst 1, 1) := by decide +kernel
theorem d51 : decode yB 51 = .ok (.goto 4, 3) := by decide +kernel
theorem d54 : decode yB 54 = .ok (.iconst 0, 1) := by decide +kernel
theorem d55 : decode yB 55 = .ok (.ireturn, 1) := by decide +kernel
def site : List Cond := [.classLink "java/lang/String" 10 "java/lang/String", .fieldLink "java/lang/String" 38 "java/lang/String" "COMPACT_STRINGS" "Z", .fieldLink "java/lang/String" 15 "java/lang/String" "coder" "B", .fieldLink "java/lang/String" 9 "java/lang/String" "value" "[B", LEq.tab] ++ staticW "java/lang/String" 541 LEq.yN
def tab : Cond := tabOf yN yB 3 (some .boolean) site
def P (x t : Addr) (V : Cell) (cd : Int32) (n : Nat) (f : Nat → Int32) (y t' : Addr) (V' : Cell) (cd' : Int32) (k : Nat) (g : Nat → Int32) (z : Int32) (args : Array Value) (s : State) : Prop := args = #[.ref x, .ref y] ∧ Txt x t V cd n f s ∧ Txt y t' V' cd' k g s ∧ StaticIs s "java/lang/String" "COMPACT_STRINGS" "Z" (.int z) ∧ ¬ z = 0
/-- equals(Object) of two Strings: whether the texts are the same -/
theorem law (l : Launch) (x t : Addr) (V : Cell) (cd : Int32) (n : Nat) (f : Nat → Int32) (y t' : Addr) (V' : Cell) (cd' : Int32) (k : Nat) (g : Nat → Int32) (z : Int32) : Law l yN 2 1 1 14 yB 3 (some .boolean) site (P x t V cd n f y t' V' cd' k g z) (Says01 (SameT n f k g)) [] 0 0 := by
  refine Law.of_walk (plainFor_of_name (by decide +kernel)) (by decide +kernel) (by decide +kernel) (by decide) (fun _ _ h => by rw [h.1]; rfl) (fun _ U U' hal hh h => ⟨h.1, h.2.1.mv hal hh, h.2.2.1.mv hal hh, h.2.2.2.1.there hal hh, h.2.2.2.2⟩) (fun r U U' V V' h1 hal h2 h => Says01.mv r U U' V V' h1 hal h2 h) ?_
  intro p e s m args below meth c s₁ X0 hexec hbytes hml hret hlk hnm hown hh0 W hP
  obtain ⟨rfl, hx, hy, s1, hz⟩ := hP
  have c1 : Steps p.tables e below (s₁.setTop (entryFrame m #[.ref x, .ref y] 3)) (s₁.setTop (mkF m 2 #[.val (.ref x), .val (.ref y), .unset] [.ref y, .ref x])) := Steps.trans (entry rfl) (by
    show Steps p.tables e below (s₁.setTop (mkF m 0 #[.val (.ref x), .val (.ref y), .unset] [])) _
    refine XS.aloadN X0.here hexec rfl (hb hbytes d0) rfl rfl ?_
    refine XS.aloadN X0.here hexec rfl (hb hbytes d1) rfl rfl ?_
    exact Steps.refl _)
  by_cases hxy : x = y
  · have c2 : Steps p.tables e below (s₁.setTop (entryFrame m #[.ref x, .ref y] 3)) (s₁.setTop (mkF m 6 #[.val (.ref x), .val (.ref y), .unset] [.int 1])) := c1.trans (by
      refine acmpNo X0.here hexec rfl (hb hbytes d2) rfl rfl rfl (by simp [acmp, hxy]) ?_
      refine iconstV X0.here hexec rfl 1 (hb hbytes d5) (by decide) ?_
      exact Steps.refl _)
    subst hxy
    have ec : cd = cd' := by
      obtain ⟨D, fd, a1, a2, a3⟩ := hx.2.2.1
      obtain ⟨D', fd', b1, b2, b3⟩ := hy.2.2.1
      cases a1.symm.trans b1
      obtain ⟨q1, q2, q3, q4⟩ := a2.1
      obtain ⟨r1, r2, r3, r4⟩ := b2.1
      cases q4.symm.trans r4
      cases a3.symm.trans b3; rfl
    have et : t = t' := by
      obtain ⟨D, fd, a1, a2, a3⟩ := hx.2.1
      obtain ⟨D', fd', b1, b2, b3⟩ := hy.2.1
      cases a1.symm.trans b1
      obtain ⟨q1, q2, q3, q4⟩ := a2.1
      obtain ⟨r1, r2, r3, r4⟩ := b2.1
      cases q4.symm.trans r4
      cases a3.symm.trans b3; rfl
    subst ec et
    have ev : V = V' := by cases hx.2.2.2.1.1.symm.trans hy.2.2.2.1.1; rfl
    subst ev
    have hs : SameT n f k g := (Cod.eqv hx.2.2.2.2.1 hy.2.2.2.2.1 hx.2.2.2.2.2 hy.2.2.2.2.2).mp ⟨rfl, fun _ _ => rfl⟩
    exact ⟨s₁, some (.int 1), _, _, _, X0, rfl, rfl, rfl, (fun h => by cases h), ⟨1, rfl, hh0, Or.inl ⟨rfl, hs⟩⟩, fun fs hl => c2.trans (X0.ireturnOut hexec hret rfl (Or.inr (Or.inl rfl)) (hb hbytes d6) hl)⟩
  · have c2 : Steps p.tables e below (s₁.setTop (entryFrame m #[.ref x, .ref y] 3)) (s₁.setTop (mkF m 8 #[.val (.ref x), .val (.ref y), .unset] [.ref y])) := c1.trans (by
      refine acmpYes X0.here hexec rfl (pc0 := 2) rfl (hb hbytes d2) rfl rfl rfl (by simp [acmp, hxy]) (by decide) rfl ?_
      refine XS.aloadN X0.here hexec rfl (hb hbytes d7) rfl rfl ?_
      exact Steps.refl _)
    obtain ⟨T3, X3, q3, st3⟩ := cinst X0 hexec hown (wk W (.classLink "java/lang/String" 10 "java/lang/String")) (hy.mv X0.warmed.alike hh0).1 (g := (mkF m 8 #[.val (.ref x), .val (.ref y), .unset] [.ref y])) rfl (rest := []) rfl (hb hbytes d8)
    have hh3 := q3.trans hh0
    have c4 : Steps p.tables e below (s₁.setTop (entryFrame m #[.ref x, .ref y] 3)) (T3.setTop (mkF m 15 #[.val (.ref x), .val (.ref y), .unset] [.ref y])) := (c2.trans (st3 _ (Steps.refl _))).trans (by
      refine XS.ifNo X3.here hexec rfl (hb hbytes d11) rfl (i0_eq_f (by decide)) ?_
      refine XS.aloadN X3.here hexec rfl (hb hbytes d14) rfl rfl ?_
      exact Steps.refl _)
    obtain ⟨T5, X5, q5, st5⟩ := cself X3 hexec hown (wk W (.classLink "java/lang/String" 10 "java/lang/String")) (hy.mv X3.warmed.alike hh3).1 (g := (mkF m 15 #[.val (.ref x), .val (.ref y), .unset] [.ref y])) rfl (rest := []) rfl (hb hbytes d15)
    have hh5 := q5.trans hh3
    have c6 : Steps p.tables e below (s₁.setTop (entryFrame m #[.ref x, .ref y] 3)) (T5.setTop (mkF m 19 #[.val (.ref x), .val (.ref y), .val (.ref y)] [])) := (c4.trans (st5 _ (Steps.refl _))).trans (by
      refine XS.astoreN X5.here hexec rfl (hb hbytes d18) rfl rfl rfl ?_
      exact Steps.refl _)
    obtain ⟨T7, X7, q7, st7⟩ := X5.sget hexec hown (wk W (.fieldLink "java/lang/String" 38 "java/lang/String" "COMPACT_STRINGS" "Z")) s1 (fun _ _ h => by rw [hh5]; exact h) (g := (mkF m 19 #[.val (.ref x), .val (.ref y), .val (.ref y)] [])) rfl (hb hbytes d19)
    have hh7 := q7.trans hh5
    have c8 : Steps p.tables e below (s₁.setTop (entryFrame m #[.ref x, .ref y] 3)) (T7.setTop (mkF m 26 #[.val (.ref x), .val (.ref y), .val (.ref y)] [.ref x])) := (c6.trans (st7 _ (Steps.refl _))).trans (by
      refine XS.ifNo X7.here hexec rfl (hb hbytes d22) rfl (i0_eq_f hz) ?_
      refine XS.aloadN X7.here hexec rfl (hb hbytes d25) rfl rfl ?_
      exact Steps.refl _)
    obtain ⟨T9, X9, q9, st9⟩ := X7.hget hexec hown (wk W (.fieldLink "java/lang/String" 15 "java/lang/String" "coder" "B")) (hx.mv X7.warmed.alike hh7).2.2.1 (g := (mkF m 26 #[.val (.ref x), .val (.ref y), .val (.ref y)] [.ref x])) rfl (rest := []) rfl (hb hbytes d26)
    have hh9 := q9.trans hh7
    have c10 : Steps p.tables e below (s₁.setTop (entryFrame m #[.ref x, .ref y] 3)) (T9.setTop (mkF m 30 #[.val (.ref x), .val (.ref y), .val (.ref y)] [.ref y, .int cd])) := (c8.trans (st9 _ (Steps.refl _))).trans (by
      refine XS.aloadN X9.here hexec rfl (hb hbytes d29) rfl rfl ?_
      exact Steps.refl _)
    obtain ⟨T11, X11, q11, st11⟩ := X9.hget hexec hown (wk W (.fieldLink "java/lang/String" 15 "java/lang/String" "coder" "B")) (hy.mv X9.warmed.alike hh9).2.2.1 (g := (mkF m 30 #[.val (.ref x), .val (.ref y), .val (.ref y)] [.ref y, .int cd])) rfl (rest := [.int cd]) rfl (hb hbytes d30)
    have hh11 := q11.trans hh9
    have c12 : Steps p.tables e below (s₁.setTop (entryFrame m #[.ref x, .ref y] 3)) (T11.setTop (mkF m 33 #[.val (.ref x), .val (.ref y), .val (.ref y)] [.int cd', .int cd])) := c10.trans (st11 _ (Steps.refl _))
    by_cases hcd : cd = cd'
    · subst hcd
      have c13 : Steps p.tables e below (s₁.setTop (entryFrame m #[.ref x, .ref y] 3)) (T11.setTop (mkF m 37 #[.val (.ref x), .val (.ref y), .val (.ref y)] [.ref x])) := c12.trans (by
        refine XS.icmpNo X11.here hexec rfl (hb hbytes d33) rfl (ii_ne_f rfl) ?_
        refine XS.aloadN X11.here hexec rfl (hb hbytes d36) rfl rfl ?_
        exact Steps.refl _)
      obtain ⟨T14, X14, q14, st14⟩ := X11.hget hexec hown (wk W (.fieldLink "java/lang/String" 9 "java/lang/String" "value" "[B")) (hx.mv X11.warmed.alike hh11).2.1 (g := (mkF m 37 #[.val (.ref x), .val (.ref y), .val (.ref y)] [.ref x])) rfl (rest := []) rfl (hb hbytes d37)
      have hh14 := q14.trans hh11
      have c15 : Steps p.tables e below (s₁.setTop (entryFrame m #[.ref x, .ref y] 3)) (T14.setTop (mkF m 41 #[.val (.ref x), .val (.ref y), .val (.ref y)] [.ref y, .ref t])) := (c13.trans (st14 _ (Steps.refl _))).trans (by
        refine XS.aloadN X14.here hexec rfl (hb hbytes d40) rfl rfl ?_
        exact Steps.refl _)
      obtain ⟨T16, X16, q16, st16⟩ := X14.hget hexec hown (wk W (.fieldLink "java/lang/String" 9 "java/lang/String" "value" "[B")) (hy.mv X14.warmed.alike hh14).2.1 (g := (mkF m 41 #[.val (.ref x), .val (.ref y), .val (.ref y)] [.ref y, .ref t])) rfl (rest := [.ref t]) rfl (hb hbytes d41)
      have hh16 := q16.trans hh14
      have c17 : Steps p.tables e below (s₁.setTop (entryFrame m #[.ref x, .ref y] 3)) (T16.setTop (mkF m 44 #[.val (.ref x), .val (.ref y), .val (.ref y)] [.ref t', .ref t])) := c15.trans (st16 _ (Steps.refl _))
      obtain ⟨v18, T18, X18, E18, g18⟩ := X16.callS hexec (LEq.law l t V t' V') hown (wks W (staticW "java/lang/String" 541 LEq.yN)) (wk W LEq.tab) (W := 0) (Nat.le_of_ble_eq_true rfl) (Nat.le_of_ble_eq_true rfl) (Nat.le_refl _) (Nat.le_refl _) (g := (mkF m 44 #[.val (.ref x), .val (.ref y), .val (.ref y)] [.ref t', .ref t])) rfl (by rw [hml]; rfl) c17 (argsL := [.ref t, .ref t']) (rest := []) rfl rfl (by show 2 * 0 + 0 ≤ _; decide) (hb hbytes d44) (⟨rfl, hx.2.2.2.1.mv X16.warmed.alike hh16, hx.2.2.2.2.1.ty, hy.2.2.2.1.mv X16.warmed.alike hh16, hy.2.2.2.2.1.ty⟩)
      obtain ⟨v, rfl, q18, hv⟩ := E18
      have iff := Cod.eqv hx.2.2.2.2.1 hy.2.2.2.2.1 hx.2.2.2.2.2 hy.2.2.2.2.2
      rcases hv with ⟨rfl, he⟩ | ⟨rfl, he⟩
      · have c19 : Steps p.tables e below (s₁.setTop (entryFrame m #[.ref x, .ref y] 3)) (T18.setTop (mkF m 55 #[.val (.ref x), .val (.ref y), .val (.ref y)] [.int 1])) := Steps.trans g18 (by
          refine XS.ifNo X18.here hexec rfl (hb hbytes d47) rfl (i0_eq_f (by decide)) ?_
          refine iconstV X18.here hexec rfl 1 (hb hbytes d50) (by decide) ?_
          refine XS.goto X18.here hexec rfl (pc0 := 51) rfl (hb hbytes d51) (by decide) rfl ?_
          exact Steps.refl _)
        exact ⟨T18, some (.int 1), _, _, _, X18, rfl, rfl, rfl, (fun h => by cases h), ⟨1, rfl, q18.trans hh16, Or.inl ⟨rfl, iff.mp he⟩⟩, fun fs hl => c19.trans (X18.ireturnOut hexec hret rfl (Or.inr (Or.inl rfl)) (hb hbytes d55) hl)⟩
      · have c19 : Steps p.tables e below (s₁.setTop (entryFrame m #[.ref x, .ref y] 3)) (T18.setTop (mkF m 55 #[.val (.ref x), .val (.ref y), .val (.ref y)] [.int 0])) := Steps.trans g18 (by
          refine XS.ifYes X18.here hexec rfl (pc0 := 47) rfl (hb hbytes d47) rfl (i0_eq_t rfl) (by decide) rfl ?_
          refine iconstV X18.here hexec rfl 0 (hb hbytes d54) (by decide) ?_
          exact Steps.refl _)
        exact ⟨T18, some (.int 0), _, _, _, X18, rfl, rfl, rfl, (fun h => by cases h), ⟨0, rfl, q18.trans hh16, Or.inr ⟨rfl, fun q => he (iff.mpr q)⟩⟩, fun fs hl => c19.trans (X18.ireturnOut hexec hret rfl (Or.inr (Or.inl rfl)) (hb hbytes d55) hl)⟩
    · have c13 : Steps p.tables e below (s₁.setTop (entryFrame m #[.ref x, .ref y] 3)) (T11.setTop (mkF m 55 #[.val (.ref x), .val (.ref y), .val (.ref y)] [.int 0])) := c12.trans (by
        refine XS.icmpYes X11.here hexec rfl (pc0 := 33) rfl (hb hbytes d33) rfl (ii_ne_t hcd) (by decide) rfl ?_
        refine iconstV X11.here hexec rfl 0 (hb hbytes d54) (by decide) ?_
        exact Steps.refl _)
      exact ⟨T11, some (.int 0), _, _, _, X11, rfl, rfl, rfl, (fun h => by cases h), ⟨0, rfl, hh11, Or.inr ⟨rfl, Cod.dif hx.2.2.2.2.1 hy.2.2.2.2.1 hcd⟩⟩, fun fs hl => c13.trans (X11.ireturnOut hexec hret rfl (Or.inr (Or.inl rfl)) (hb hbytes d55) hl)⟩
theorem pays {l : Launch} {R : Room} {p : Program} {e : Env} {below : List Frame} {s : State} {sargs : Array Value} {len W : Nat} (x t : Addr) (V : Cell) (cd : Int32) (n : Nat) (f : Nat → Int32) (y t' : Addr) (V' : Cell) (cd' : Int32) (k : Nat) (g : Nat → Int32) (z : Int32) (htab : tab.before sargs s = true) (hfr : 2 ≤ R.frames) (hlo : W + 28 ≤ R.locals) :
    Back l R p e below s sargs yN len W (fun A₁ a₁ => A₁.cells + 0 ≤ R.cells ∧ A₁.slots + 0 ≤ R.slots ∧ P x t V cd n f y t' V' cd' k g z a₁ A₁.U) (fun A₁ _ v₁ B₁ => Says01 (SameT n f k g) v₁ A₁.U B₁.U ∧ B₁.locs = A₁.locs ++ [] ∧ B₁.cells = A₁.cells + 0 ∧ B₁.slots = A₁.slots + 0) :=
  (law l x t V cd n f y t' V' cd' k g z).pays htab hfr (by omega)
end SEq
end StrChars
namespace StrChars.Road
open Jvm Sem ClassFile Op Lib Jvm.Stand Jvm.Free Jvm.Free.XT
open Jvm.Lib.Cold (StaticIs)
/-- the words of String.equals(Object) -/
abbrev wordsEq : List Jvm.Cond := [.code SEq.yN SEq.yB 3 (some .boolean), .initialized ST, .classLink ST 10 ST, .fieldLink ST 38 ST "COMPACT_STRINGS" "Z", .fieldLink ST 15 ST "coder" "B", .fieldLink ST 9 ST "value" "[B", .methodLink ST 541 LEq.yN, .static LEq.yN, .code LEq.yN LEq.yB 3 (some .boolean), .initialized "java/lang/StringLatin1"]
theorem tabEq_of {a : Array Value} {s : State} (h : ∀ w ∈ wordsEq, w.before a s = true) : SEq.tab.before a s = true := by
  have hl : LEq.tab.before a s = true := unparts (wk h (.code LEq.yN LEq.yB 3 (some .boolean))) (wks h (.initialized LEq.yN.cls :: LEq.site))
  have q := consq hl h
  exact unparts (wk q (.code SEq.yN SEq.yB 3 (some .boolean))) (wks q (.initialized SEq.yN.cls :: SEq.site))
theorem movedEq {Z s : State} {a0 args : Array Value} (hZ : Z.Warmed39 s.vm) (hw : ∀ d ∈ wordsEq, d.before a0 Z = true) : ∀ d ∈ wordsEq, d.before args s = true := fun d hd => by
  have t : ∀ d ∈ wordsEq, (d.onTables && d.keepsFace) = true := by decide +kernel
  exact RoadKit.mv hZ (hw d hd) (t d hd)
/-- the road's facts of a String, as the laws ask it -/
theorem txt_of {Z U : State} {a0 : Array Value} {kI : Nat} (wi : (Jvm.Cond.instantiable ST kI).before a0 Z = true) (al : Z.vm.Alike U.vm) {x t : Addr} {kb : ClassId} {cs : List Int32} {cd N2 : Int32} {vs : List Value} (E : RoadKit.Exa Z U.heap x ST) (V : RoadKit.Fld Z U.heap x ST "value" "[B" (.ref t)) (C : RoadKit.Fld Z U.heap x ST "coder" "B" (.int cd)) (K : RoadKit.Arv Z U.heap t kb .byte N2 vs (.int 0)) (hc : CodA cs cd N2 vs) (hb : ∀ c ∈ cs, ¬ c < 0 ∧ ¬ (65535 : Int32) < c) (l2 : cs.length ≤ 4000) :
    ∃ A, Txt x t A cd cs.length (fun j => cs.getD j 0) U := by
  obtain ⟨A, K1, K2, K3, K4, K5, K6⟩ := K
  have hcod := hc.cod (by omega) K3 K5
  obtain ⟨D, fV, fC, hB, F1, F2, g1, g2, -, -⟩ := strObj wi al E V C
  exact ⟨A, ⟨_, hB.2.2.1, D, hB.1, rfl, by cases q : D.vm <;> first | rfl | exact absurd q (hB.2.1.2 _)⟩, Has.of hB F1 g1, Has.of hB F2 g2, ⟨K1.1, State.isArrayOf_alike al K1.2.1, K1.2.2, by rcases hcod with ⟨-, q, -⟩ | ⟨-, q, -⟩ <;> omega⟩, hcod, fun j hj => by
    have e : cs.getD j 0 = cs[j] := by simp [List.getD_eq_getElem?_getD, hj]
    show ¬ cs.getD j 0 < 0 ∧ ¬ 65535 < cs.getD j 0
    rw [e]; exact hb _ (List.getElem_mem _)⟩
theorem same_list (cs ds : List Int32) : SameT cs.length (fun j => cs.getD j 0) ds.length (fun j => ds.getD j 0) ↔ cs = ds := by
  constructor
  · rintro ⟨e, q⟩
    refine List.ext_getElem e fun j h1 h2 => ?_
    have := q j h1
    simpa [List.getD_eq_getElem?_getD, h1, h2] using this
  · rintro rfl
    exact ⟨rfl, fun _ _ => rfl⟩
/-- **equals(Object) OF TWO SUCH STRINGS**: 1 just where the chars are the same -/
theorem eqW {p : Program} {l : Launch} {e : Env} {R : Room} {s : State} {args : Array Value} {below : List Frame} {len W : Nat} {Z : State} {a0 : Array Value} {h : Heap} (hZ : Z.Warmed39 s.vm) (hw : ∀ d ∈ wordsEq, d.before a0 Z = true) {kI : Nat} (wi : (Jvm.Cond.instantiable ST kI).before a0 Z = true)
    {x t : Addr} {kb : ClassId} {cs : List Int32} {cd N2 : Int32} {vs : List Value} (E : RoadKit.Exa Z h x ST) (V : RoadKit.Fld Z h x ST "value" "[B" (.ref t)) (C : RoadKit.Fld Z h x ST "coder" "B" (.int cd)) (K : RoadKit.Arv Z h t kb .byte N2 vs (.int 0)) (hc : CodA cs cd N2 vs) (hb : ∀ c ∈ cs, ¬ c < 0 ∧ ¬ (65535 : Int32) < c) (l2 : cs.length ≤ 4000)
    {y t' : Addr} {kb' : ClassId} {ds : List Int32} {cd' N2' : Int32} {vs' : List Value} (E' : RoadKit.Exa Z h y ST) (V' : RoadKit.Fld Z h y ST "value" "[B" (.ref t')) (C' : RoadKit.Fld Z h y ST "coder" "B" (.int cd')) (K' : RoadKit.Arv Z h t' kb' .byte N2' vs' (.int 0)) (hc' : CodA ds cd' N2' vs') (hb' : ∀ c ∈ ds, ¬ c < 0 ∧ ¬ (65535 : Int32) < c) (l2' : ds.length ≤ 4000)
    {z : Int32} (S : RoadKit.Sta Z h ST "COMPACT_STRINGS" "Z" (.int z)) (hz : ¬ z = 0) (hfr : 2 ≤ R.frames) (hlo : W + 28 ≤ R.locals) :
    Back l R p e below s args (⟨"java/lang/String", "equals", "(Ljava/lang/Object;)Z"⟩ : MethodName) len W (fun P a => a = #[.ref x, .ref y] ∧ P.U.heap = h ∧ P.cells + 0 ≤ R.cells ∧ P.slots + 0 ≤ R.slots)
      (fun P _ v B => ∃ L, (((v = some (.int 1) ∧ cs = ds) ∨ (v = some (.int 0) ∧ ¬ cs = ds)) ∧ L = [] ∧ B.U.heap = h) ∧ B.locs = P.locs ++ L ∧ B.cells = P.cells + 0 ∧ B.slots = P.slots + 0) := by
  intro m meth c P g ig mk a X hg hsize hdg hW hn hp'
  obtain ⟨rfl, rfl, r1, r2⟩ := hp'
  have al : Z.vm.Alike P.U.vm := hZ.alike.trans X.warmed.alike
  obtain ⟨A, hx⟩ := txt_of wi al E V C K hc hb l2
  obtain ⟨A', hy⟩ := txt_of wi al E' V' C' K' hc' hb' l2'
  obtain ⟨v, B, X', ⟨⟨w, hv, hh, hq⟩, hl, hk, hs⟩, st⟩ := SEq.pays x t A cd cs.length (fun j => cs.getD j 0) y t' A' cd' ds.length (fun j => ds.getD j 0) z (tabEq_of (movedEq hZ hw)) hfr hlo m meth c P g ig mk _ X hg hsize hdg hW hn ⟨r1, r2, rfl, hx, hy, sta_is al S, hz⟩
  refine ⟨v, B, X', ⟨[], ⟨?_, rfl, hh⟩, hl, hk, hs⟩, st⟩
  rcases hq with ⟨rfl, q⟩ | ⟨rfl, q⟩
  · exact Or.inl ⟨hv, (same_list cs ds).mp q⟩
  · exact Or.inr ⟨hv, fun e => q ((same_list cs ds).mpr e)⟩
end StrChars.Road
namespace StrChars.Road
open Jvm Sem ClassFile Op Lib Jvm.Stand Jvm.Free Jvm.Free.XT
open Jvm.Lib.Cold (StaticIs)
/-- what backV says of its String, as the contracts of this text ask it: cs's low bytes, coder 0 -/
theorem codOf {cs : List Int32} {n : Nat} (hn : cs.length = n) (hb : ∀ c ∈ cs, ¬ 255 < c) : CodA cs 0 (Int32.ofNat n) ((cs.map lo8).map Value.int) := Or.inl ⟨rfl, by rw [hn], by simp [List.map_map, Function.comp_def], hb⟩
end StrChars.Road
end Jvm.Pilot.@@N@@
namespace Jvm.Pilot.@@N@@
open Jvm Jvm.ClassFile Sem Op Lib Jvm.Free Jvm.Stand Jvm.LawKit Jvm.RoadKit Bundle Jvm.Pilot.@@N@@.Jvm.D

namespace Own
open Jvm Jvm.ClassFile Sem Op Lib Jvm.Free Jvm.Stand Jvm.LawKit Jvm.RoadKit Bundle
abbrev Cx : Type := Program × Launch × Env × State × MethodId × Array Value × List Frame × Method × Code
abbrev Cx.p (X : Cx) : Program := X.1
abbrev Cx.l (X : Cx) : Launch := X.2.1
abbrev Cx.e (X : Cx) : Env := X.2.2.1
abbrev Cx.s (X : Cx) : State := X.2.2.2.1
abbrev Cx.m (X : Cx) : MethodId := X.2.2.2.2.1
abbrev Cx.args (X : Cx) : Array Value := X.2.2.2.2.2.1
abbrev Cx.below (X : Cx) : List Frame := X.2.2.2.2.2.2.1
abbrev Cx.meth (X : Cx) : Method := X.2.2.2.2.2.2.2.1
abbrev Cx.c (X : Cx) : Code := X.2.2.2.2.2.2.2.2
abbrev Rm (f k s l : Nat) : Room := { frames := f, cells := k, slots := s, locals := l }
/-- what never changes in one activation -/
def Fix (X : Cx) (Z : State) (a0 : Array Value) (EL : List (String × Nat)) (y : MethodName) (bs : ByteArray) (ml : Nat) (rt : Option FieldType) : Prop :=
  X.p.tables.exec = Jvm.exec ∧ X.c.code = bs ∧ X.c.maxLocals = ml ∧ X.meth.sig.returnType = rt ∧ X.meth.name = y.name ∧ X.meth.locks = false ∧ EW Z a0 EL
/-- where the walk stands: heap h, at most k cells and n slots made; sf: addresses that no booked literal lives at -/
def Spot (X : Cx) (R : Room) (Z : State) (a0 : Array Value) (EL : List (String × Nat)) (nw : Bool) (y : MethodName) (bs : ByteArray) (ml : Nat) (rt : Option FieldType) (sf : List Addr) (T : State) (h : Heap) (k n : Nat) : Prop :=
  Fix X Z a0 EL y bs ml rt ∧
  ∃ (vm0 : Vm) (L : List Loc), Stand X.p X.l X.e R (X.s.setVm vm0) X.m X.args X.below X.meth X.c T L k n ∧ T.heap = h ∧ X.s.Since vm0 h.size ∧ Z.Warmed39 vm0 ∧ vm0.findClass y.cls = some X.m.cls ∧ CHr Z EL X.s.vm X.s.heap vm0 h ∧ Fr Z.heap.size L ∧ Ext Z.heap h ∧ (∀ x ∈ sf, x < h.size ∧ Safe Z EL vm0 h x) ∧ (nw = true → X.s.WarmedH vm0)
def Done (X : Cx) (Z : State) (EL : List (String × Nat)) (nw : Bool) (Q : Option Value → Heap → Prop) (kc ks : Nat) (T : State) (g : JFrame) : Prop :=
  ∃ s₂ o, Steps X.p.tables X.e X.below (T.setTop g) s₂ ∧ s₂.status = .running ∧ Ended s₂ X.below o ∧ ∃ v L, o = .returned v ∧ (Q v s₂.heap ∧ Fr Z.heap.size L ∧ Ext Z.heap s₂.heap) ∧ CHr Z EL X.s.vm X.s.heap s₂.vm s₂.heap ∧ (nw = true → X.s.WarmedH s₂.vm) ∧ ReturnedEndW X.s o s₂ L kc ks
/-- from every state that stands so, the frame g runs to a return that Q allows -/
def Go (X : Cx) (R : Room) (Z : State) (a0 : Array Value) (EL : List (String × Nat)) (nw : Bool) (y : MethodName) (bs : ByteArray) (ml : Nat) (rt : Option FieldType) (Q : Option Value → Heap → Prop) (kc ks : Nat) (sf : List Addr) (h : Heap) (k n : Nat) (g : JFrame) : Prop :=
  ∀ T, Spot X R Z a0 EL nw y bs ml rt sf T h k n → Done X Z EL nw Q kc ks T g
section Kit
variable {X : Cx} {R : Room} {Z : State} {a0 : Array Value} {EL : List (String × Nat)} {nw : Bool} {y : MethodName} {bs : ByteArray} {ml : Nat} {rt : Option FieldType} {Q : Option Value → Heap → Prop} {kc ks : Nat} {sf sf' : List Addr} {h h' : Heap} {k n k' n' : Nat} {pc pc' pc2 : Nat} {Ls Ls' : Array Slot} {st : List Value} {g g' : JFrame} {T T' : State}
theorem acmp_eq (v w : Value) : XT.acmp .eq v w = decide (v = w) := rfl
theorem acmp_ne (v w : Value) : XT.acmp .ne v w = decide (v ≠ w) := rfl
theorem ble {a b : Nat} (q : Nat.ble a b = true) : a ≤ b := Nat.le_of_ble_eq_true q
theorem Done.back (st : ∀ t, Steps X.p.tables X.e X.below (T'.setTop g') t → Steps X.p.tables X.e X.below (T.setTop g) t) (D : Done X Z EL nw Q kc ks T' g') : Done X Z EL nw Q kc ks T g := by
  obtain ⟨s₂, o, h1, r⟩ := D
  exact ⟨s₂, o, st _ h1, r⟩
theorem Spot.mono (S : Spot X R Z a0 EL nw y bs ml rt sf T h k n) (hk : k ≤ k') (hn : n ≤ n') (hs : ∀ x ∈ sf', x ∈ sf) : Spot X R Z a0 EL nw y bs ml rt sf' T h k' n' := by
  obtain ⟨F, vm0, L, X1, r1, r2, r3, r4, r5, r6, r7, r8, r9⟩ := S
  exact ⟨F, vm0, L, X1.mono hk hn, r1, r2, r3, r4, r5, r6, r7, fun x hx => r8 x (hs x hx), r9⟩
theorem Go.mono (k' n' : Nat) (hk : Nat.ble k k' = true) (hn : Nat.ble n n' = true) (G : Go X R Z a0 EL nw y bs ml rt Q kc ks sf h k' n' g) : Go X R Z a0 EL nw y bs ml rt Q kc ks sf h k n g := fun T S => G T (S.mono (ble hk) (ble hn) fun _ q => q)
theorem Go.drop (G : Go X R Z a0 EL nw y bs ml rt Q kc ks [] h k n g) : Go X R Z a0 EL nw y bs ml rt Q kc ks sf h k n g := fun T S => G T (S.mono (Nat.le_refl _) (Nat.le_refl _) fun _ q => nomatch q)
theorem Go.step (st : ∀ T t, At T X.m X.c X.below → X.p.tables.exec = Jvm.exec → X.c.code = bs → Steps X.p.tables X.e X.below (T.setTop g') t → Steps X.p.tables X.e X.below (T.setTop g) t) (G : Go X R Z a0 EL nw y bs ml rt Q kc ks sf h k n g') : Go X R Z a0 EL nw y bs ml rt Q kc ks sf h k n g := fun T S => by
  have S' := S
  obtain ⟨⟨hx, hc, -⟩, vm0, L, X1, -⟩ := S'
  exact (G T S).back fun t q => st T t X1.here hx hc q
/-- what is known of the tables at hand, for a step that wants more -/
theorem Go.look (G : ∀ vm0, Z.Warmed39 vm0 → CHv Z EL vm0 h → Ext Z.heap h → (∀ x ∈ sf, x < h.size ∧ Safe Z EL vm0 h x) → Go X R Z a0 EL nw y bs ml rt Q kc ks sf h k n g) : Go X R Z a0 EL nw y bs ml rt Q kc ks sf h k n g := fun T S => by
  have S' := S
  obtain ⟨-, vm0, L, -, -, -, hZ, -, hC, -, hE, hs, -⟩ := S'
  exact G vm0 hZ hC.1 hE hs T S
/-- the statics and the old cells stand -/
theorem Go.old (G : Ext Z.heap h → Go X R Z a0 EL nw y bs ml rt Q kc ks sf h k n g) : Go X R Z a0 EL nw y bs ml rt Q kc ks sf h k n g := Go.look fun _ _ _ E _ => G E
theorem g_aloadN {i : Fin 4} {v : Value} (hd : decode bs pc = .ok (.aload_n i, 1)) (hp : pc + 1 = pc') (hv : Ls[i.val]? = some (.val v)) (hr : v.isRef = true) (G : Go X R Z a0 EL nw y bs ml rt Q kc ks sf h k n (mkF X.m pc' Ls (v :: st))) : Go X R Z a0 EL nw y bs ml rt Q kc ks sf h k n (mkF X.m pc Ls (st)) := by
  subst hp
  exact Go.step (fun T t hT hx hc q => XS.aloadN hT hx rfl (hb hc hd) hv hr q) G
theorem g_aload {i : Nat} {v : Value} (hd : decode bs pc = .ok (.aload i, 2)) (hp : pc + 2 = pc') (hv : Ls[i]? = some (.val v)) (hr : v.isRef = true) (G : Go X R Z a0 EL nw y bs ml rt Q kc ks sf h k n (mkF X.m pc' Ls (v :: st))) : Go X R Z a0 EL nw y bs ml rt Q kc ks sf h k n (mkF X.m pc Ls (st)) := by
  subst hp
  exact Go.step (fun T t hT hx hc q => XS.aload hT hx rfl (hb hc hd) hv hr q) G
theorem g_iloadN {i : Fin 4} {v : Int32} (hd : decode bs pc = .ok (.iload_n i, 1)) (hp : pc + 1 = pc') (hv : Ls[i.val]? = some (.val (.int v))) (G : Go X R Z a0 EL nw y bs ml rt Q kc ks sf h k n (mkF X.m pc' Ls (.int v :: st))) : Go X R Z a0 EL nw y bs ml rt Q kc ks sf h k n (mkF X.m pc Ls (st)) := by
  subst hp
  exact Go.step (fun T t hT hx hc q => XS.iloadN hT hx rfl (hb hc hd) hv q) G
theorem g_iload {i : Nat} {v : Int32} (hd : decode bs pc = .ok (.iload i, 2)) (hp : pc + 2 = pc') (hv : Ls[i]? = some (.val (.int v))) (G : Go X R Z a0 EL nw y bs ml rt Q kc ks sf h k n (mkF X.m pc' Ls (.int v :: st))) : Go X R Z a0 EL nw y bs ml rt Q kc ks sf h k n (mkF X.m pc Ls (st)) := by
  subst hp
  exact Go.step (fun T t hT hx hc q => XS.iload hT hx rfl (hb hc hd) hv q) G
theorem g_lloadN {i : Fin 4} {v : Int64} (hd : decode bs pc = .ok (.lload_n i, 1)) (hp : pc + 1 = pc') (hv : Ls[i.val]? = some (.val (.long v))) (G : Go X R Z a0 EL nw y bs ml rt Q kc ks sf h k n (mkF X.m pc' Ls (.long v :: st))) : Go X R Z a0 EL nw y bs ml rt Q kc ks sf h k n (mkF X.m pc Ls (st)) := by
  subst hp
  exact Go.step (fun T t hT hx hc q => XS.lloadN hT hx rfl (hb hc hd) hv q) G
theorem g_lload {i : Nat} {v : Int64} (hd : decode bs pc = .ok (.lload i, 2)) (hp : pc + 2 = pc') (hv : Ls[i]? = some (.val (.long v))) (G : Go X R Z a0 EL nw y bs ml rt Q kc ks sf h k n (mkF X.m pc' Ls (.long v :: st))) : Go X R Z a0 EL nw y bs ml rt Q kc ks sf h k n (mkF X.m pc Ls (st)) := by
  subst hp
  exact Go.step (fun T t hT hx hc q => XS.lload hT hx rfl (hb hc hd) hv q) G
theorem g_iconst {i : Int} {w : Int32} (hd : decode bs pc = .ok (.iconst i, 1)) (hp : pc + 1 = pc') (hw : Int32.ofInt i = w) (G : Go X R Z a0 EL nw y bs ml rt Q kc ks sf h k n (mkF X.m pc' Ls (.int w :: st))) : Go X R Z a0 EL nw y bs ml rt Q kc ks sf h k n (mkF X.m pc Ls st) := by
  subst hp hw
  exact Go.step (fun T t hT hx hc q => XS.iconst hT hx rfl (hb hc hd) q) G
theorem g_bipush {i : Int} {w : Int32} (hd : decode bs pc = .ok (.bipush i, 2)) (hp : pc + 2 = pc') (hw : (Int8.ofInt i).toInt32 = w) (G : Go X R Z a0 EL nw y bs ml rt Q kc ks sf h k n (mkF X.m pc' Ls (.int w :: st))) : Go X R Z a0 EL nw y bs ml rt Q kc ks sf h k n (mkF X.m pc Ls st) := by
  subst hp hw
  exact Go.step (fun T t hT hx hc q => XS.bipush hT hx rfl (hb hc hd) q) G
theorem g_sipush {i : Int} {w : Int32} (hd : decode bs pc = .ok (.sipush i, 3)) (hp : pc + 3 = pc') (hw : (Int16.ofInt i).toInt32 = w) (G : Go X R Z a0 EL nw y bs ml rt Q kc ks sf h k n (mkF X.m pc' Ls (.int w :: st))) : Go X R Z a0 EL nw y bs ml rt Q kc ks sf h k n (mkF X.m pc Ls st) := by
  subst hp hw
  exact Go.step (fun T t hT hx hc q => XS.sipush hT hx rfl (hb hc hd) q) G
theorem g_lconst {i : Fin 2} {w : Int64} (hd : decode bs pc = .ok (.lconst i, 1)) (hp : pc + 1 = pc') (hw : Int64.ofNat i = w) (G : Go X R Z a0 EL nw y bs ml rt Q kc ks sf h k n (mkF X.m pc' Ls (.long w :: st))) : Go X R Z a0 EL nw y bs ml rt Q kc ks sf h k n (mkF X.m pc Ls st) := by
  subst hp hw
  exact Go.step (fun T t hT hx hc q => XS.lconst hT hx rfl (hb hc hd) q) G
theorem g_aconst_null  (hd : decode bs pc = .ok (.aconst_null, 1)) (hp : pc + 1 = pc')  (G : Go X R Z a0 EL nw y bs ml rt Q kc ks sf h k n (mkF X.m pc' Ls (.null :: st))) : Go X R Z a0 EL nw y bs ml rt Q kc ks sf h k n (mkF X.m pc Ls (st)) := by
  subst hp
  exact Go.step (fun T t hT hx hc q => XS.aconstNull hT hx rfl (hb hc hd)  q) G
theorem g_iadd {x1 x2 : Int32} (hd : decode bs pc = .ok (.iadd, 1)) (hp : pc + 1 = pc')  (G : Go X R Z a0 EL nw y bs ml rt Q kc ks sf h k n (mkF X.m pc' Ls (.int (x1 + x2) :: st))) : Go X R Z a0 EL nw y bs ml rt Q kc ks sf h k n (mkF X.m pc Ls (.int x2 :: .int x1 :: st)) := by
  subst hp
  exact Go.step (fun T t hT hx hc q => XS.iadd hT hx rfl (hb hc hd) rfl  q) G
theorem g_isub {x1 x2 : Int32} (hd : decode bs pc = .ok (.isub, 1)) (hp : pc + 1 = pc')  (G : Go X R Z a0 EL nw y bs ml rt Q kc ks sf h k n (mkF X.m pc' Ls (.int (x1 - x2) :: st))) : Go X R Z a0 EL nw y bs ml rt Q kc ks sf h k n (mkF X.m pc Ls (.int x2 :: .int x1 :: st)) := by
  subst hp
  exact Go.step (fun T t hT hx hc q => XS.isub hT hx rfl (hb hc hd) rfl  q) G
theorem g_imul {x1 x2 : Int32} (hd : decode bs pc = .ok (.imul, 1)) (hp : pc + 1 = pc')  (G : Go X R Z a0 EL nw y bs ml rt Q kc ks sf h k n (mkF X.m pc' Ls (.int (x1 * x2) :: st))) : Go X R Z a0 EL nw y bs ml rt Q kc ks sf h k n (mkF X.m pc Ls (.int x2 :: .int x1 :: st)) := by
  subst hp
  exact Go.step (fun T t hT hx hc q => XS.imul hT hx rfl (hb hc hd) rfl  q) G
theorem g_iand {x1 x2 : Int32} (hd : decode bs pc = .ok (.iand, 1)) (hp : pc + 1 = pc')  (G : Go X R Z a0 EL nw y bs ml rt Q kc ks sf h k n (mkF X.m pc' Ls (.int (x1 &&& x2) :: st))) : Go X R Z a0 EL nw y bs ml rt Q kc ks sf h k n (mkF X.m pc Ls (.int x2 :: .int x1 :: st)) := by
  subst hp
  exact Go.step (fun T t hT hx hc q => XS.iand hT hx rfl (hb hc hd) rfl  q) G
theorem g_ior {x1 x2 : Int32} (hd : decode bs pc = .ok (.ior, 1)) (hp : pc + 1 = pc')  (G : Go X R Z a0 EL nw y bs ml rt Q kc ks sf h k n (mkF X.m pc' Ls (.int (x1 ||| x2) :: st))) : Go X R Z a0 EL nw y bs ml rt Q kc ks sf h k n (mkF X.m pc Ls (.int x2 :: .int x1 :: st)) := by
  subst hp
  exact Go.step (fun T t hT hx hc q => XS.ior hT hx rfl (hb hc hd) rfl  q) G
theorem g_ixor {x1 x2 : Int32} (hd : decode bs pc = .ok (.ixor, 1)) (hp : pc + 1 = pc')  (G : Go X R Z a0 EL nw y bs ml rt Q kc ks sf h k n (mkF X.m pc' Ls (.int (x1 ^^^ x2) :: st))) : Go X R Z a0 EL nw y bs ml rt Q kc ks sf h k n (mkF X.m pc Ls (.int x2 :: .int x1 :: st)) := by
  subst hp
  exact Go.step (fun T t hT hx hc q => XS.ixor hT hx rfl (hb hc hd) rfl  q) G
theorem g_ishl {x1 x2 : Int32} (hd : decode bs pc = .ok (.ishl, 1)) (hp : pc + 1 = pc')  (G : Go X R Z a0 EL nw y bs ml rt Q kc ks sf h k n (mkF X.m pc' Ls (.int (x1 <<< (x2 &&& 31)) :: st))) : Go X R Z a0 EL nw y bs ml rt Q kc ks sf h k n (mkF X.m pc Ls (.int x2 :: .int x1 :: st)) := by
  subst hp
  exact Go.step (fun T t hT hx hc q => XS.ishl hT hx rfl (hb hc hd) rfl  q) G
theorem g_ishr {x1 x2 : Int32} (hd : decode bs pc = .ok (.ishr, 1)) (hp : pc + 1 = pc')  (G : Go X R Z a0 EL nw y bs ml rt Q kc ks sf h k n (mkF X.m pc' Ls (.int (x1 >>> (x2 &&& 31)) :: st))) : Go X R Z a0 EL nw y bs ml rt Q kc ks sf h k n (mkF X.m pc Ls (.int x2 :: .int x1 :: st)) := by
  subst hp
  exact Go.step (fun T t hT hx hc q => XS.ishr hT hx rfl (hb hc hd) rfl  q) G
theorem g_iushr {x1 x2 : Int32} (hd : decode bs pc = .ok (.iushr, 1)) (hp : pc + 1 = pc')  (G : Go X R Z a0 EL nw y bs ml rt Q kc ks sf h k n (mkF X.m pc' Ls (.int (x1.toUInt32 >>> (x2 &&& 31).toUInt32).toInt32 :: st))) : Go X R Z a0 EL nw y bs ml rt Q kc ks sf h k n (mkF X.m pc Ls (.int x2 :: .int x1 :: st)) := by
  subst hp
  exact Go.step (fun T t hT hx hc q => XS.iushr hT hx rfl (hb hc hd) rfl  q) G
theorem g_idiv {x1 x2 : Int32} (hd : decode bs pc = .ok (.idiv, 1)) (hp : pc + 1 = pc') (hy : x2 ≠ 0) (G : Go X R Z a0 EL nw y bs ml rt Q kc ks sf h k n (mkF X.m pc' Ls (.int (x1 / x2) :: st))) : Go X R Z a0 EL nw y bs ml rt Q kc ks sf h k n (mkF X.m pc Ls (.int x2 :: .int x1 :: st)) := by
  subst hp
  exact Go.step (fun T t hT hx hc q => XS.idiv hT hx rfl (hb hc hd) rfl hy q) G
theorem g_ladd {x1 x2 : Int64} (hd : decode bs pc = .ok (.ladd, 1)) (hp : pc + 1 = pc')  (G : Go X R Z a0 EL nw y bs ml rt Q kc ks sf h k n (mkF X.m pc' Ls (.long (x1 + x2) :: st))) : Go X R Z a0 EL nw y bs ml rt Q kc ks sf h k n (mkF X.m pc Ls (.long x2 :: .long x1 :: st)) := by
  subst hp
  exact Go.step (fun T t hT hx hc q => XS.ladd hT hx rfl (hb hc hd) rfl  q) G
theorem g_lsub {x1 x2 : Int64} (hd : decode bs pc = .ok (.lsub, 1)) (hp : pc + 1 = pc')  (G : Go X R Z a0 EL nw y bs ml rt Q kc ks sf h k n (mkF X.m pc' Ls (.long (x1 - x2) :: st))) : Go X R Z a0 EL nw y bs ml rt Q kc ks sf h k n (mkF X.m pc Ls (.long x2 :: .long x1 :: st)) := by
  subst hp
  exact Go.step (fun T t hT hx hc q => XS.lsub hT hx rfl (hb hc hd) rfl  q) G
theorem g_lmul {x1 x2 : Int64} (hd : decode bs pc = .ok (.lmul, 1)) (hp : pc + 1 = pc')  (G : Go X R Z a0 EL nw y bs ml rt Q kc ks sf h k n (mkF X.m pc' Ls (.long (x1 * x2) :: st))) : Go X R Z a0 EL nw y bs ml rt Q kc ks sf h k n (mkF X.m pc Ls (.long x2 :: .long x1 :: st)) := by
  subst hp
  exact Go.step (fun T t hT hx hc q => XS.lmul hT hx rfl (hb hc hd) rfl  q) G
theorem g_land {x1 x2 : Int64} (hd : decode bs pc = .ok (.land, 1)) (hp : pc + 1 = pc')  (G : Go X R Z a0 EL nw y bs ml rt Q kc ks sf h k n (mkF X.m pc' Ls (.long (x1 &&& x2) :: st))) : Go X R Z a0 EL nw y bs ml rt Q kc ks sf h k n (mkF X.m pc Ls (.long x2 :: .long x1 :: st)) := by
  subst hp
  exact Go.step (fun T t hT hx hc q => XS.land hT hx rfl (hb hc hd) rfl  q) G
theorem g_lor {x1 x2 : Int64} (hd : decode bs pc = .ok (.lor, 1)) (hp : pc + 1 = pc')  (G : Go X R Z a0 EL nw y bs ml rt Q kc ks sf h k n (mkF X.m pc' Ls (.long (x1 ||| x2) :: st))) : Go X R Z a0 EL nw y bs ml rt Q kc ks sf h k n (mkF X.m pc Ls (.long x2 :: .long x1 :: st)) := by
  subst hp
  exact Go.step (fun T t hT hx hc q => XS.lor hT hx rfl (hb hc hd) rfl  q) G
theorem g_ldiv {x1 x2 : Int64} (hd : decode bs pc = .ok (.ldiv, 1)) (hp : pc + 1 = pc') (hy : x2 ≠ 0) (G : Go X R Z a0 EL nw y bs ml rt Q kc ks sf h k n (mkF X.m pc' Ls (.long (x1 / x2) :: st))) : Go X R Z a0 EL nw y bs ml rt Q kc ks sf h k n (mkF X.m pc Ls (.long x2 :: .long x1 :: st)) := by
  subst hp
  exact Go.step (fun T t hT hx hc q => XS.ldiv hT hx rfl (hb hc hd) rfl hy q) G
theorem g_lcmp {x1 x2 : Int64} (hd : decode bs pc = .ok (.lcmp, 1)) (hp : pc + 1 = pc')  (G : Go X R Z a0 EL nw y bs ml rt Q kc ks sf h k n (mkF X.m pc' Ls (.int (lcmpW x1 x2) :: st))) : Go X R Z a0 EL nw y bs ml rt Q kc ks sf h k n (mkF X.m pc Ls (.long x2 :: .long x1 :: st)) := by
  subst hp
  exact Go.step (fun T t hT hx hc q => XS.lcmp hT hx rfl (hb hc hd) rfl  q) G
theorem g_lshl {x1 : Int64} {x2 : Int32} (hd : decode bs pc = .ok (.lshl, 1)) (hp : pc + 1 = pc')  (G : Go X R Z a0 EL nw y bs ml rt Q kc ks sf h k n (mkF X.m pc' Ls (.long (x1 <<< (x2 &&& 63).toInt64) :: st))) : Go X R Z a0 EL nw y bs ml rt Q kc ks sf h k n (mkF X.m pc Ls (.int x2 :: .long x1 :: st)) := by
  subst hp
  exact Go.step (fun T t hT hx hc q => XS.lshl hT hx rfl (hb hc hd) rfl q) G
theorem g_lshr {x1 : Int64} {x2 : Int32} (hd : decode bs pc = .ok (.lshr, 1)) (hp : pc + 1 = pc')  (G : Go X R Z a0 EL nw y bs ml rt Q kc ks sf h k n (mkF X.m pc' Ls (.long (x1 >>> (x2 &&& 63).toInt64) :: st))) : Go X R Z a0 EL nw y bs ml rt Q kc ks sf h k n (mkF X.m pc Ls (.int x2 :: .long x1 :: st)) := by
  subst hp
  exact Go.step (fun T t hT hx hc q => XS.lshr hT hx rfl (hb hc hd) rfl q) G
theorem g_lushr {x1 : Int64} {x2 : Int32} (hd : decode bs pc = .ok (.lushr, 1)) (hp : pc + 1 = pc')  (G : Go X R Z a0 EL nw y bs ml rt Q kc ks sf h k n (mkF X.m pc' Ls (.long ((x1.toUInt64 >>> (x2 &&& 63).toInt64.toUInt64).toInt64) :: st))) : Go X R Z a0 EL nw y bs ml rt Q kc ks sf h k n (mkF X.m pc Ls (.int x2 :: .long x1 :: st)) := by
  subst hp
  exact Go.step (fun T t hT hx hc q => XS.lushr hT hx rfl (hb hc hd) rfl q) G
theorem g_irem {x1 x2 : Int32} (hd : decode bs pc = .ok (.irem, 1)) (hp : pc + 1 = pc') (hy : x2 ≠ 0) (G : Go X R Z a0 EL nw y bs ml rt Q kc ks sf h k n (mkF X.m pc' Ls (.int (x1 % x2) :: st))) : Go X R Z a0 EL nw y bs ml rt Q kc ks sf h k n (mkF X.m pc Ls (.int x2 :: .int x1 :: st)) := by
  subst hp
  exact Go.step (fun T t hT hx hc q => XS.irem hT hx rfl (hb hc hd) rfl hy (by rw [irem_eq_mod]; exact q)) G
theorem g_lrem {x1 x2 : Int64} (hd : decode bs pc = .ok (.lrem, 1)) (hp : pc + 1 = pc') (hy : x2 ≠ 0) (G : Go X R Z a0 EL nw y bs ml rt Q kc ks sf h k n (mkF X.m pc' Ls (.long (x1 - (x1 / x2) * x2) :: st))) : Go X R Z a0 EL nw y bs ml rt Q kc ks sf h k n (mkF X.m pc Ls (.long x2 :: .long x1 :: st)) := by
  subst hp
  exact Go.step (fun T t hT hx hc q => XS.lrem hT hx rfl (hb hc hd) rfl hy q) G
theorem g_ineg {x1 : Int32} (hd : decode bs pc = .ok (.ineg, 1)) (hp : pc + 1 = pc')  (G : Go X R Z a0 EL nw y bs ml rt Q kc ks sf h k n (mkF X.m pc' Ls (.int (-x1) :: st))) : Go X R Z a0 EL nw y bs ml rt Q kc ks sf h k n (mkF X.m pc Ls (.int x1 :: st)) := by
  subst hp
  exact Go.step (fun T t hT hx hc q => XS.ineg hT hx rfl (hb hc hd) rfl q) G
theorem g_lneg {x1 : Int64} (hd : decode bs pc = .ok (.lneg, 1)) (hp : pc + 1 = pc')  (G : Go X R Z a0 EL nw y bs ml rt Q kc ks sf h k n (mkF X.m pc' Ls (.long (-x1) :: st))) : Go X R Z a0 EL nw y bs ml rt Q kc ks sf h k n (mkF X.m pc Ls (.long x1 :: st)) := by
  subst hp
  exact Go.step (fun T t hT hx hc q => XS.lneg hT hx rfl (hb hc hd) rfl q) G
theorem g_i2l {x1 : Int32} (hd : decode bs pc = .ok (.i2l, 1)) (hp : pc + 1 = pc')  (G : Go X R Z a0 EL nw y bs ml rt Q kc ks sf h k n (mkF X.m pc' Ls (.long (x1.toInt64) :: st))) : Go X R Z a0 EL nw y bs ml rt Q kc ks sf h k n (mkF X.m pc Ls (.int x1 :: st)) := by
  subst hp
  exact Go.step (fun T t hT hx hc q => XS.i2l hT hx rfl (hb hc hd) rfl q) G
theorem g_l2i {x1 : Int64} (hd : decode bs pc = .ok (.l2i, 1)) (hp : pc + 1 = pc')  (G : Go X R Z a0 EL nw y bs ml rt Q kc ks sf h k n (mkF X.m pc' Ls (.int (x1.toInt32) :: st))) : Go X R Z a0 EL nw y bs ml rt Q kc ks sf h k n (mkF X.m pc Ls (.long x1 :: st)) := by
  subst hp
  exact Go.step (fun T t hT hx hc q => XS.l2i hT hx rfl (hb hc hd) rfl q) G
theorem g_i2b {x1 : Int32} (hd : decode bs pc = .ok (.i2b, 1)) (hp : pc + 1 = pc')  (G : Go X R Z a0 EL nw y bs ml rt Q kc ks sf h k n (mkF X.m pc' Ls (.int (x1.toInt8.toInt32) :: st))) : Go X R Z a0 EL nw y bs ml rt Q kc ks sf h k n (mkF X.m pc Ls (.int x1 :: st)) := by
  subst hp
  exact Go.step (fun T t hT hx hc q => XS.i2b hT hx rfl (hb hc hd) rfl q) G
theorem g_i2c {x1 : Int32} (hd : decode bs pc = .ok (.i2c, 1)) (hp : pc + 1 = pc')  (G : Go X R Z a0 EL nw y bs ml rt Q kc ks sf h k n (mkF X.m pc' Ls (.int (x1.toUInt32.toUInt16.toUInt32.toInt32) :: st))) : Go X R Z a0 EL nw y bs ml rt Q kc ks sf h k n (mkF X.m pc Ls (.int x1 :: st)) := by
  subst hp
  exact Go.step (fun T t hT hx hc q => XS.i2c hT hx rfl (hb hc hd) rfl q) G
theorem g_i2s {x1 : Int32} (hd : decode bs pc = .ok (.i2s, 1)) (hp : pc + 1 = pc')  (G : Go X R Z a0 EL nw y bs ml rt Q kc ks sf h k n (mkF X.m pc' Ls (.int (x1.toInt16.toInt32) :: st))) : Go X R Z a0 EL nw y bs ml rt Q kc ks sf h k n (mkF X.m pc Ls (.int x1 :: st)) := by
  subst hp
  exact Go.step (fun T t hT hx hc q => XS.i2s hT hx rfl (hb hc hd) rfl q) G
theorem g_dup {x1 : Value} (hd : decode bs pc = .ok (.dup, 1)) (hp : pc + 1 = pc') (hc1 : x1.category = 1) (G : Go X R Z a0 EL nw y bs ml rt Q kc ks sf h k n (mkF X.m pc' Ls (x1 :: x1 :: st))) : Go X R Z a0 EL nw y bs ml rt Q kc ks sf h k n (mkF X.m pc Ls (x1 :: st)) := by
  subst hp
  exact Go.step (fun T t hT hx hc q => XS.dup hT hx rfl (hb hc hd) rfl hc1 q) G
theorem g_pop {x1 : Value} (hd : decode bs pc = .ok (.pop, 1)) (hp : pc + 1 = pc') (hc1 : x1.category = 1) (G : Go X R Z a0 EL nw y bs ml rt Q kc ks sf h k n (mkF X.m pc' Ls (st))) : Go X R Z a0 EL nw y bs ml rt Q kc ks sf h k n (mkF X.m pc Ls (x1 :: st)) := by
  subst hp
  exact Go.step (fun T t hT hx hc q => XS.pop hT hx rfl (hb hc hd) rfl hc1 q) G
theorem g_dup_x1 {x1 x2 : Value} (hd : decode bs pc = .ok (.dup_x1, 1)) (hp : pc + 1 = pc') (hc1 : x1.category = 1) (hc2 : x2.category = 1) (G : Go X R Z a0 EL nw y bs ml rt Q kc ks sf h k n (mkF X.m pc' Ls (x1 :: x2 :: x1 :: st))) : Go X R Z a0 EL nw y bs ml rt Q kc ks sf h k n (mkF X.m pc Ls (x1 :: x2 :: st)) := by
  subst hp
  exact Go.step (fun T t hT hx hc q => XT.dupX1 hT hx rfl (hb hc hd) rfl hc1 hc2 q) G
theorem g_dup2 {x1 x2 : Value} (hd : decode bs pc = .ok (.dup2, 1)) (hp : pc + 1 = pc') (hc1 : x1.category = 1) (hc2 : x2.category = 1) (G : Go X R Z a0 EL nw y bs ml rt Q kc ks sf h k n (mkF X.m pc' Ls (x1 :: x2 :: x1 :: x2 :: st))) : Go X R Z a0 EL nw y bs ml rt Q kc ks sf h k n (mkF X.m pc Ls (x1 :: x2 :: st)) := by
  subst hp
  exact Go.step (fun T t hT hx hc q => XT.dup2 hT hx rfl (hb hc hd) rfl hc1 hc2 q) G
theorem g_istoreN {i : Fin 4} {x1 : Int32} (hd : decode bs pc = .ok (.istore_n i, 1)) (hp : pc + 1 = pc') (hl : storeLocals Ls i.val (.int x1) = some Ls') (G : Go X R Z a0 EL nw y bs ml rt Q kc ks sf h k n (mkF X.m pc' Ls' (st))) : Go X R Z a0 EL nw y bs ml rt Q kc ks sf h k n (mkF X.m pc Ls (.int x1 :: st)) := by
  subst hp
  exact Go.step (fun T t hT hx hc q => XS.istoreN hT hx rfl (hb hc hd) rfl hl q) G
theorem g_istore {i : Nat} {x1 : Int32} (hd : decode bs pc = .ok (.istore i, 2)) (hp : pc + 2 = pc') (hl : storeLocals Ls i (.int x1) = some Ls') (G : Go X R Z a0 EL nw y bs ml rt Q kc ks sf h k n (mkF X.m pc' Ls' (st))) : Go X R Z a0 EL nw y bs ml rt Q kc ks sf h k n (mkF X.m pc Ls (.int x1 :: st)) := by
  subst hp
  exact Go.step (fun T t hT hx hc q => XS.istore hT hx rfl (hb hc hd) rfl hl q) G
theorem g_lstoreN {i : Fin 4} {x1 : Int64} (hd : decode bs pc = .ok (.lstore_n i, 1)) (hp : pc + 1 = pc') (hl : storeLocals Ls i.val (.long x1) = some Ls') (G : Go X R Z a0 EL nw y bs ml rt Q kc ks sf h k n (mkF X.m pc' Ls' (st))) : Go X R Z a0 EL nw y bs ml rt Q kc ks sf h k n (mkF X.m pc Ls (.long x1 :: st)) := by
  subst hp
  exact Go.step (fun T t hT hx hc q => XS.lstoreN hT hx rfl (hb hc hd) rfl hl q) G
theorem g_lstore {i : Nat} {x1 : Int64} (hd : decode bs pc = .ok (.lstore i, 2)) (hp : pc + 2 = pc') (hl : storeLocals Ls i (.long x1) = some Ls') (G : Go X R Z a0 EL nw y bs ml rt Q kc ks sf h k n (mkF X.m pc' Ls' (st))) : Go X R Z a0 EL nw y bs ml rt Q kc ks sf h k n (mkF X.m pc Ls (.long x1 :: st)) := by
  subst hp
  exact Go.step (fun T t hT hx hc q => XS.lstore hT hx rfl (hb hc hd) rfl hl q) G
theorem g_astoreN {i : Fin 4} {x1 : Value} (hd : decode bs pc = .ok (.astore_n i, 1)) (hp : pc + 1 = pc') (hr : x1.isRef = true) (hl : storeLocals Ls i.val x1 = some Ls') (G : Go X R Z a0 EL nw y bs ml rt Q kc ks sf h k n (mkF X.m pc' Ls' (st))) : Go X R Z a0 EL nw y bs ml rt Q kc ks sf h k n (mkF X.m pc Ls (x1 :: st)) := by
  subst hp
  exact Go.step (fun T t hT hx hc q => XS.astoreN hT hx rfl (hb hc hd) rfl hr hl q) G
theorem g_astore {i : Nat} {x1 : Value} (hd : decode bs pc = .ok (.astore i, 2)) (hp : pc + 2 = pc') (hr : x1.isRef = true) (hl : storeLocals Ls i x1 = some Ls') (G : Go X R Z a0 EL nw y bs ml rt Q kc ks sf h k n (mkF X.m pc' Ls' (st))) : Go X R Z a0 EL nw y bs ml rt Q kc ks sf h k n (mkF X.m pc Ls (x1 :: st)) := by
  subst hp
  exact Go.step (fun T t hT hx hc q => XS.astore hT hx rfl (hb hc hd) rfl hr hl q) G
theorem g_iinc {i : Nat} {cst : Int} {x1 : Int32} (hd : decode bs pc = .ok (.iinc i cst, 3)) (hp : pc + 3 = pc') (hv : Ls[i]? = some (.val (.int x1))) (hl : storeLocals Ls i (.int (x1 + Int32.ofInt cst)) = some Ls') (G : Go X R Z a0 EL nw y bs ml rt Q kc ks sf h k n (mkF X.m pc' Ls' st)) : Go X R Z a0 EL nw y bs ml rt Q kc ks sf h k n (mkF X.m pc Ls st) := by
  subst hp
  exact Go.step (fun T t hT hx hc q => XS.iinc hT hx rfl (hb hc hd) hv hl q) G
theorem g_goto {o : Int} (hd : decode bs pc = .ok (.goto o, 3)) (ho : 0 ≤ (pc : Int) + o) (hp : ((pc : Int) + o).toNat = pc') (G : Go X R Z a0 EL nw y bs ml rt Q kc ks sf h k n (mkF X.m pc' Ls st)) : Go X R Z a0 EL nw y bs ml rt Q kc ks sf h k n (mkF X.m pc Ls st) :=
  Go.step (fun T t hT hx hc q => XS.goto hT hx rfl rfl (hb hc hd) ho hp q) G
theorem g_icmpeq {o : Int} {x1 x2 : Int32} (hd : decode bs pc = .ok (.if_icmp .eq o, 3)) (hp : pc + 3 = pc') (ho : 0 ≤ (pc : Int) + o) (hp2 : ((pc : Int) + o).toNat = pc2) (Gn : ¬ x1 = x2 → Go X R Z a0 EL nw y bs ml rt Q kc ks sf h k n (mkF X.m pc' Ls st)) (Gy : x1 = x2 → Go X R Z a0 EL nw y bs ml rt Q kc ks sf h k n (mkF X.m pc2 Ls st)) : Go X R Z a0 EL nw y bs ml rt Q kc ks sf h k n (mkF X.m pc Ls (.int x2 :: .int x1 :: st)) := by
  subst hp
  by_cases q : x1 = x2
  · exact Go.step (fun T t hT hx hc r => XS.icmpYes hT hx rfl rfl (hb hc hd) rfl ((teq q).1) ho hp2 r) (Gy q)
  · have q : ¬ x1 = x2 := q
    exact Go.step (fun T t hT hx hc r => XS.icmpNo hT hx rfl (hb hc hd) rfl ((feq q).1) r) (Gn q)
theorem g_ifeq {o : Int} {x1 : Int32} (hd : decode bs pc = .ok (.ifCond .eq o, 3)) (hp : pc + 3 = pc') (ho : 0 ≤ (pc : Int) + o) (hp2 : ((pc : Int) + o).toNat = pc2) (Gn : ¬ x1 = 0 → Go X R Z a0 EL nw y bs ml rt Q kc ks sf h k n (mkF X.m pc' Ls st)) (Gy : x1 = 0 → Go X R Z a0 EL nw y bs ml rt Q kc ks sf h k n (mkF X.m pc2 Ls st)) : Go X R Z a0 EL nw y bs ml rt Q kc ks sf h k n (mkF X.m pc Ls (.int x1 :: st)) := by
  subst hp
  by_cases q : x1 = 0
  · exact Go.step (fun T t hT hx hc r => XS.ifYes hT hx rfl rfl (hb hc hd) rfl (by rw [if0]; exact (teq q).1) ho hp2 r) (Gy q)
  · have q : ¬ x1 = 0 := q
    exact Go.step (fun T t hT hx hc r => XS.ifNo hT hx rfl (hb hc hd) rfl (by rw [if0]; exact (feq q).1) r) (Gn q)
theorem g_icmpne {o : Int} {x1 x2 : Int32} (hd : decode bs pc = .ok (.if_icmp .ne o, 3)) (hp : pc + 3 = pc') (ho : 0 ≤ (pc : Int) + o) (hp2 : ((pc : Int) + o).toNat = pc2) (Gn : x1 = x2 → Go X R Z a0 EL nw y bs ml rt Q kc ks sf h k n (mkF X.m pc' Ls st)) (Gy : ¬ x1 = x2 → Go X R Z a0 EL nw y bs ml rt Q kc ks sf h k n (mkF X.m pc2 Ls st)) : Go X R Z a0 EL nw y bs ml rt Q kc ks sf h k n (mkF X.m pc Ls (.int x2 :: .int x1 :: st)) := by
  subst hp
  by_cases q : ¬ x1 = x2
  · exact Go.step (fun T t hT hx hc r => XS.icmpYes hT hx rfl rfl (hb hc hd) rfl ((feq q).2) ho hp2 r) (Gy q)
  · have q : x1 = x2 := Decidable.not_not.mp q
    exact Go.step (fun T t hT hx hc r => XS.icmpNo hT hx rfl (hb hc hd) rfl ((teq q).2) r) (Gn q)
theorem g_ifne {o : Int} {x1 : Int32} (hd : decode bs pc = .ok (.ifCond .ne o, 3)) (hp : pc + 3 = pc') (ho : 0 ≤ (pc : Int) + o) (hp2 : ((pc : Int) + o).toNat = pc2) (Gn : x1 = 0 → Go X R Z a0 EL nw y bs ml rt Q kc ks sf h k n (mkF X.m pc' Ls st)) (Gy : ¬ x1 = 0 → Go X R Z a0 EL nw y bs ml rt Q kc ks sf h k n (mkF X.m pc2 Ls st)) : Go X R Z a0 EL nw y bs ml rt Q kc ks sf h k n (mkF X.m pc Ls (.int x1 :: st)) := by
  subst hp
  by_cases q : ¬ x1 = 0
  · exact Go.step (fun T t hT hx hc r => XS.ifYes hT hx rfl rfl (hb hc hd) rfl (by rw [if0]; exact (feq q).2) ho hp2 r) (Gy q)
  · have q : x1 = 0 := Decidable.not_not.mp q
    exact Go.step (fun T t hT hx hc r => XS.ifNo hT hx rfl (hb hc hd) rfl (by rw [if0]; exact (teq q).2) r) (Gn q)
theorem g_icmplt {o : Int} {x1 x2 : Int32} (hd : decode bs pc = .ok (.if_icmp .lt o, 3)) (hp : pc + 3 = pc') (ho : 0 ≤ (pc : Int) + o) (hp2 : ((pc : Int) + o).toNat = pc2) (Gn : ¬ x1 < x2 → Go X R Z a0 EL nw y bs ml rt Q kc ks sf h k n (mkF X.m pc' Ls st)) (Gy : x1 < x2 → Go X R Z a0 EL nw y bs ml rt Q kc ks sf h k n (mkF X.m pc2 Ls st)) : Go X R Z a0 EL nw y bs ml rt Q kc ks sf h k n (mkF X.m pc Ls (.int x2 :: .int x1 :: st)) := by
  subst hp
  by_cases q : x1 < x2
  · exact Go.step (fun T t hT hx hc r => XS.icmpYes hT hx rfl rfl (hb hc hd) rfl ((tlt q).1) ho hp2 r) (Gy q)
  · have q : ¬ x1 < x2 := q
    exact Go.step (fun T t hT hx hc r => XS.icmpNo hT hx rfl (hb hc hd) rfl ((flt q).1) r) (Gn q)
theorem g_iflt {o : Int} {x1 : Int32} (hd : decode bs pc = .ok (.ifCond .lt o, 3)) (hp : pc + 3 = pc') (ho : 0 ≤ (pc : Int) + o) (hp2 : ((pc : Int) + o).toNat = pc2) (Gn : ¬ x1 < 0 → Go X R Z a0 EL nw y bs ml rt Q kc ks sf h k n (mkF X.m pc' Ls st)) (Gy : x1 < 0 → Go X R Z a0 EL nw y bs ml rt Q kc ks sf h k n (mkF X.m pc2 Ls st)) : Go X R Z a0 EL nw y bs ml rt Q kc ks sf h k n (mkF X.m pc Ls (.int x1 :: st)) := by
  subst hp
  by_cases q : x1 < 0
  · exact Go.step (fun T t hT hx hc r => XS.ifYes hT hx rfl rfl (hb hc hd) rfl (by rw [if0]; exact (tlt q).1) ho hp2 r) (Gy q)
  · have q : ¬ x1 < 0 := q
    exact Go.step (fun T t hT hx hc r => XS.ifNo hT hx rfl (hb hc hd) rfl (by rw [if0]; exact (flt q).1) r) (Gn q)
theorem g_icmpge {o : Int} {x1 x2 : Int32} (hd : decode bs pc = .ok (.if_icmp .ge o, 3)) (hp : pc + 3 = pc') (ho : 0 ≤ (pc : Int) + o) (hp2 : ((pc : Int) + o).toNat = pc2) (Gn : x1 < x2 → Go X R Z a0 EL nw y bs ml rt Q kc ks sf h k n (mkF X.m pc' Ls st)) (Gy : ¬ x1 < x2 → Go X R Z a0 EL nw y bs ml rt Q kc ks sf h k n (mkF X.m pc2 Ls st)) : Go X R Z a0 EL nw y bs ml rt Q kc ks sf h k n (mkF X.m pc Ls (.int x2 :: .int x1 :: st)) := by
  subst hp
  by_cases q : ¬ x1 < x2
  · exact Go.step (fun T t hT hx hc r => XS.icmpYes hT hx rfl rfl (hb hc hd) rfl ((flt q).2.1) ho hp2 r) (Gy q)
  · have q : x1 < x2 := Decidable.not_not.mp q
    exact Go.step (fun T t hT hx hc r => XS.icmpNo hT hx rfl (hb hc hd) rfl ((tlt q).2.1) r) (Gn q)
theorem g_ifge {o : Int} {x1 : Int32} (hd : decode bs pc = .ok (.ifCond .ge o, 3)) (hp : pc + 3 = pc') (ho : 0 ≤ (pc : Int) + o) (hp2 : ((pc : Int) + o).toNat = pc2) (Gn : x1 < 0 → Go X R Z a0 EL nw y bs ml rt Q kc ks sf h k n (mkF X.m pc' Ls st)) (Gy : ¬ x1 < 0 → Go X R Z a0 EL nw y bs ml rt Q kc ks sf h k n (mkF X.m pc2 Ls st)) : Go X R Z a0 EL nw y bs ml rt Q kc ks sf h k n (mkF X.m pc Ls (.int x1 :: st)) := by
  subst hp
  by_cases q : ¬ x1 < 0
  · exact Go.step (fun T t hT hx hc r => XS.ifYes hT hx rfl rfl (hb hc hd) rfl (by rw [if0]; exact (flt q).2.1) ho hp2 r) (Gy q)
  · have q : x1 < 0 := Decidable.not_not.mp q
    exact Go.step (fun T t hT hx hc r => XS.ifNo hT hx rfl (hb hc hd) rfl (by rw [if0]; exact (tlt q).2.1) r) (Gn q)
theorem g_icmpgt {o : Int} {x1 x2 : Int32} (hd : decode bs pc = .ok (.if_icmp .gt o, 3)) (hp : pc + 3 = pc') (ho : 0 ≤ (pc : Int) + o) (hp2 : ((pc : Int) + o).toNat = pc2) (Gn : ¬ x2 < x1 → Go X R Z a0 EL nw y bs ml rt Q kc ks sf h k n (mkF X.m pc' Ls st)) (Gy : x2 < x1 → Go X R Z a0 EL nw y bs ml rt Q kc ks sf h k n (mkF X.m pc2 Ls st)) : Go X R Z a0 EL nw y bs ml rt Q kc ks sf h k n (mkF X.m pc Ls (.int x2 :: .int x1 :: st)) := by
  subst hp
  by_cases q : x2 < x1
  · exact Go.step (fun T t hT hx hc r => XS.icmpYes hT hx rfl rfl (hb hc hd) rfl ((tlt q).2.2.1) ho hp2 r) (Gy q)
  · have q : ¬ x2 < x1 := q
    exact Go.step (fun T t hT hx hc r => XS.icmpNo hT hx rfl (hb hc hd) rfl ((flt q).2.2.1) r) (Gn q)
theorem g_ifgt {o : Int} {x1 : Int32} (hd : decode bs pc = .ok (.ifCond .gt o, 3)) (hp : pc + 3 = pc') (ho : 0 ≤ (pc : Int) + o) (hp2 : ((pc : Int) + o).toNat = pc2) (Gn : ¬ 0 < x1 → Go X R Z a0 EL nw y bs ml rt Q kc ks sf h k n (mkF X.m pc' Ls st)) (Gy : 0 < x1 → Go X R Z a0 EL nw y bs ml rt Q kc ks sf h k n (mkF X.m pc2 Ls st)) : Go X R Z a0 EL nw y bs ml rt Q kc ks sf h k n (mkF X.m pc Ls (.int x1 :: st)) := by
  subst hp
  by_cases q : 0 < x1
  · exact Go.step (fun T t hT hx hc r => XS.ifYes hT hx rfl rfl (hb hc hd) rfl (by rw [if0]; exact (tlt q).2.2.1) ho hp2 r) (Gy q)
  · have q : ¬ 0 < x1 := q
    exact Go.step (fun T t hT hx hc r => XS.ifNo hT hx rfl (hb hc hd) rfl (by rw [if0]; exact (flt q).2.2.1) r) (Gn q)
theorem g_icmple {o : Int} {x1 x2 : Int32} (hd : decode bs pc = .ok (.if_icmp .le o, 3)) (hp : pc + 3 = pc') (ho : 0 ≤ (pc : Int) + o) (hp2 : ((pc : Int) + o).toNat = pc2) (Gn : x2 < x1 → Go X R Z a0 EL nw y bs ml rt Q kc ks sf h k n (mkF X.m pc' Ls st)) (Gy : ¬ x2 < x1 → Go X R Z a0 EL nw y bs ml rt Q kc ks sf h k n (mkF X.m pc2 Ls st)) : Go X R Z a0 EL nw y bs ml rt Q kc ks sf h k n (mkF X.m pc Ls (.int x2 :: .int x1 :: st)) := by
  subst hp
  by_cases q : ¬ x2 < x1
  · exact Go.step (fun T t hT hx hc r => XS.icmpYes hT hx rfl rfl (hb hc hd) rfl ((flt q).2.2.2) ho hp2 r) (Gy q)
  · have q : x2 < x1 := Decidable.not_not.mp q
    exact Go.step (fun T t hT hx hc r => XS.icmpNo hT hx rfl (hb hc hd) rfl ((tlt q).2.2.2) r) (Gn q)
theorem g_ifle {o : Int} {x1 : Int32} (hd : decode bs pc = .ok (.ifCond .le o, 3)) (hp : pc + 3 = pc') (ho : 0 ≤ (pc : Int) + o) (hp2 : ((pc : Int) + o).toNat = pc2) (Gn : 0 < x1 → Go X R Z a0 EL nw y bs ml rt Q kc ks sf h k n (mkF X.m pc' Ls st)) (Gy : ¬ 0 < x1 → Go X R Z a0 EL nw y bs ml rt Q kc ks sf h k n (mkF X.m pc2 Ls st)) : Go X R Z a0 EL nw y bs ml rt Q kc ks sf h k n (mkF X.m pc Ls (.int x1 :: st)) := by
  subst hp
  by_cases q : ¬ 0 < x1
  · exact Go.step (fun T t hT hx hc r => XS.ifYes hT hx rfl rfl (hb hc hd) rfl (by rw [if0]; exact (flt q).2.2.2) ho hp2 r) (Gy q)
  · have q : 0 < x1 := Decidable.not_not.mp q
    exact Go.step (fun T t hT hx hc r => XS.ifNo hT hx rfl (hb hc hd) rfl (by rw [if0]; exact (tlt q).2.2.2) r) (Gn q)
theorem g_ifnullY {o : Int} (hd : decode bs pc = .ok (.ifnull o, 3)) (ho : 0 ≤ (pc : Int) + o) (hp2 : ((pc : Int) + o).toNat = pc2) (G : Go X R Z a0 EL nw y bs ml rt Q kc ks sf h k n (mkF X.m pc2 Ls st)) : Go X R Z a0 EL nw y bs ml rt Q kc ks sf h k n (mkF X.m pc Ls (.null :: st)) :=
  Go.step (fun T t hT hx hc r => XS.ifnullYes hT hx rfl rfl (hb hc hd) rfl ho hp2 r) G
theorem g_ifnullN {o : Int} {b : Addr} (hd : decode bs pc = .ok (.ifnull o, 3)) (hp : pc + 3 = pc') (G : Go X R Z a0 EL nw y bs ml rt Q kc ks sf h k n (mkF X.m pc' Ls st)) : Go X R Z a0 EL nw y bs ml rt Q kc ks sf h k n (mkF X.m pc Ls (.ref b :: st)) := by
  subst hp
  exact Go.step (fun T t hT hx hc r => XS.ifnullNo hT hx rfl (hb hc hd) rfl r) G
theorem g_ifnonnullY {o : Int} {b : Addr} (hd : decode bs pc = .ok (.ifnonnull o, 3)) (ho : 0 ≤ (pc : Int) + o) (hp2 : ((pc : Int) + o).toNat = pc2) (G : Go X R Z a0 EL nw y bs ml rt Q kc ks sf h k n (mkF X.m pc2 Ls st)) : Go X R Z a0 EL nw y bs ml rt Q kc ks sf h k n (mkF X.m pc Ls (.ref b :: st)) :=
  Go.step (fun T t hT hx hc r => XS.ifnonnullYes hT hx rfl rfl (hb hc hd) rfl ho hp2 r) G
theorem g_ifnonnullN {o : Int} (hd : decode bs pc = .ok (.ifnonnull o, 3)) (hp : pc + 3 = pc') (G : Go X R Z a0 EL nw y bs ml rt Q kc ks sf h k n (mkF X.m pc' Ls st)) : Go X R Z a0 EL nw y bs ml rt Q kc ks sf h k n (mkF X.m pc Ls (.null :: st)) := by
  subst hp
  exact Go.step (fun T t hT hx hc r => XS.ifnonnullNo hT hx rfl (hb hc hd) rfl r) G
theorem g_acmp {cd : ClassFile.ACond} {o : Int} {x1 x2 : Value} (hd : decode bs pc = .ok (.if_acmp cd o, 3)) (hp : pc + 3 = pc') (ho : 0 ≤ (pc : Int) + o) (hp2 : ((pc : Int) + o).toNat = pc2) (hr1 : x1.isRef = true) (hr2 : x2.isRef = true) (Gn : XT.acmp cd x1 x2 = false → Go X R Z a0 EL nw y bs ml rt Q kc ks sf h k n (mkF X.m pc' Ls st)) (Gy : XT.acmp cd x1 x2 = true → Go X R Z a0 EL nw y bs ml rt Q kc ks sf h k n (mkF X.m pc2 Ls st)) : Go X R Z a0 EL nw y bs ml rt Q kc ks sf h k n (mkF X.m pc Ls (x2 :: x1 :: st)) := by
  subst hp
  cases q : XT.acmp cd x1 x2 with
  | true => exact Go.step (fun T t hT hx hc r => XT.acmpYes hT hx rfl rfl (hb hc hd) rfl hr1 hr2 q ho hp2 r) (Gy q)
  | false => exact Go.step (fun T t hT hx hc r => XT.acmpNo hT hx rfl (hb hc hd) rfl hr1 hr2 q r) (Gn q)
/-! returns -/
theorem Go.out {v : Option Value} (hv : rt = none → v = none) (hk : Nat.ble k kc = true) (hn : Nat.ble n ks = true) (hQ : Q v h)
    (stp : ∀ {s0 : State} {L : List Loc} {T : State} {fs : List Frame}, Stand X.p X.l X.e R s0 X.m X.args X.below X.meth X.c T L k n → X.p.tables.exec = Jvm.exec → X.c.code = bs → X.meth.sig.returnType = rt → (∀ (f : JFrame) (acts : List Action), f.method = X.m → f.locked = none → f.entered = [] → (doReturn X.e (T.setTop f) acts v).1 = T.setFrames fs) → Steps X.p.tables X.e X.below (T.setTop g) (T.setFrames fs)) : Go X R Z a0 EL nw y bs ml rt Q kc ks sf h k n g := fun T S => by
  obtain ⟨⟨hx, hc, hml, hrt, hnm, hlk, hEL⟩, vm0, L, X1, rfl, hS, hZ, hown, hC, hF, hE, hs, hN⟩ := S
  obtain ⟨fs, hr, hrun, hended, hW, hsame⟩ := X1.leave (v := v) (fun q => hv (hrt ▸ q)) hlk
  refine ⟨_, _, stp X1 hx hc hrt hr, hrun, hended, v, L, rfl, ⟨hQ, hF, hE⟩, hC.trans (show CHr Z EL vm0 T.heap T.vm T.heap from CHv.at X1 hZ hEL hC.1), fun q => State.WarmedH.trans (hN q) hW, ⟨v, rfl⟩, State.Warmed39.trans (t := X.s.setVm vm0) hS.1 hW.wide, fun j q hj hp => ?_, (hsame.setVm X.s.vm).mono (ble hk) (ble hn)⟩
  exact hS.2 j q hj (by have := hW.interned_eq; rw [this] at hp; exact hp)
theorem g_ireturn {w : Int32} {t : FieldType} (hd : decode bs pc = .ok (.ireturn, 1)) (hrt : rt = some t) (ht : t = .int ∨ t = .boolean ∨ t = .byte ∨ t = .char ∨ t = .short) (hw : narrow t (.int w) = .int w) (hk : Nat.ble k kc = true) (hn : Nat.ble n ks = true) (hQ : Q (some (.int w)) h) : Go X R Z a0 EL nw y bs ml rt Q kc ks sf h k n (mkF X.m pc Ls (.int w :: st)) :=
  Go.out (fun q => by rw [hrt] at q; cases q) hk hn hQ fun X1 hx hc hr hl => retOut X1 hx (hr.trans hrt) hw (Or.inl ⟨rfl, ht, _, rfl⟩) (hb hc hd) hl
theorem g_lreturn {w : Int64} (hd : decode bs pc = .ok (.lreturn, 1)) (hrt : rt = some .long) (hk : Nat.ble k kc = true) (hn : Nat.ble n ks = true) (hQ : Q (some (.long w)) h) : Go X R Z a0 EL nw y bs ml rt Q kc ks sf h k n (mkF X.m pc Ls (.long w :: st)) :=
  Go.out (fun q => by rw [hrt] at q; cases q) hk hn hQ fun X1 hx hc hr hl => retOut X1 hx (hr.trans hrt) rfl (Or.inr (Or.inl ⟨rfl, rfl, _, rfl⟩)) (hb hc hd) hl
theorem g_areturn {w : Value} {t : FieldType} (hd : decode bs pc = .ok (.areturn, 1)) (hrt : rt = some t) (ht : t.isReference = true) (hw : w.isRef = true) (hnw : narrow t w = w) (hk : Nat.ble k kc = true) (hn : Nat.ble n ks = true) (hQ : Q (some w) h) : Go X R Z a0 EL nw y bs ml rt Q kc ks sf h k n (mkF X.m pc Ls (w :: st)) :=
  Go.out (fun q => by rw [hrt] at q; cases q) hk hn hQ fun X1 hx hc hr hl => retOut X1 hx (hr.trans hrt) hnw (Or.inr (Or.inr (Or.inr (Or.inr ⟨rfl, ht, hw⟩)))) (hb hc hd) hl
theorem g_return (hd : decode bs pc = .ok (.return_, 1)) (hrt : rt = none) (hk : Nat.ble k kc = true) (hn : Nat.ble n ks = true) (hQ : Q none h) : Go X R Z a0 EL nw y bs ml rt Q kc ks sf h k n (mkF X.m pc Ls []) :=
  Go.out (fun _ => rfl) hk hn hQ fun X1 hx hc hr hl => X1.returnOut hx (hr.trans hrt) (hb hc hd) hl
/-! steps that move the heap, the tables not interned anew -/
theorem Spot.next {vm0 : Vm} {L' : List Loc} (F : Fix X Z a0 EL y bs ml rt) (X1 : Stand X.p X.l X.e R (X.s.setVm vm0) X.m X.args X.below X.meth X.c T' L' k' n') (e : T'.heap = h') (hS : X.s.Since vm0 h.size) (hZ : Z.Warmed39 vm0) (hown : vm0.findClass y.cls = some X.m.cls) (hC : CHr Z EL X.s.vm X.s.heap vm0 h) (hC' : CHr Z EL vm0 h vm0 h') (hF : Fr Z.heap.size L') (hE : Ext Z.heap h') (hs : ∀ x ∈ sf, x < h.size ∧ Safe Z EL vm0 h x) (hN : nw = true → X.s.WarmedH vm0) : Spot X R Z a0 EL nw y bs ml rt sf T' h' k' n' :=
  ⟨F, vm0, L', X1, e, ⟨hS.1, hS.2.mono hC'.2.1⟩, hZ, hown, hC.trans hC', hF, hE, fun x hx => ⟨Nat.lt_of_lt_of_le (hs x hx).1 hC'.2.1, hC'.safe (hs x hx).1 (hs x hx).2⟩, hN⟩
theorem ext_trans {h1 h2 h3 : Heap} (E : Ext h1 h2) (E' : Ext h2 h3) : Ext h1 h3 := ⟨Nat.le_trans E.1 E'.1, fun a c q => E'.2 a c (E.2 a c q)⟩
theorem ext_refl (h1 : Heap) : Ext h1 h1 := ⟨Nat.le_refl _, fun _ _ q => q⟩
/-- what is written lies behind the first heap's end: the first heap stands -/
theorem ext_keep {h1 h2 h3 : Heap} {ws : List Addr} (E : Ext h1 h2) (K : Keep h2 h3 ws) (q : ∀ x ∈ ws, h1.size ≤ x) : Ext h1 h3 := ⟨Nat.le_trans E.1 K.1, fun a c r => K.2.1 a c (E.2 a c r) fun z => absurd (Array.getElem?_eq_some_iff.mp r).1 (Nat.not_lt.mpr (q a z))⟩
theorem keep_ext {h1 h2 : Heap} (E : Ext h1 h2) : Keep h1 h2 [] := (Keep.refl _ _).ext E
theorem g_new {C : String} {ix sz : Nat} (hd : decode bs pc = .ok (.new ix, 3)) (hp : pc + 3 = pc') (w : (Jvm.Cond.classLink y.cls ix C).before a0 Z = true) (wi : (Jvm.Cond.instantiable C sz).before a0 Z = true) (wz : (Jvm.Cond.initialized C).before a0 Z = true) (hk : Nat.ble (k + 1) R.cells = true) (hn : Nat.ble (n + sz) R.slots = true)
    (G : ∀ h' a, a = h.size → Ext h h' → Exa Z h' a C → (∀ {O nm d : String} {ty : FieldType}, Laid Z a0 C O nm d → parseFieldDescriptor d = some ty → Fld Z h' a O nm d (defaultValue ty)) → Go X R Z a0 EL nw y bs ml rt Q kc ks (a :: sf) h' (k + 1) (n + sz) (mkF X.m pc' Ls (.ref a :: st))) : Go X R Z a0 EL nw y bs ml rt Q kc ks sf h k n (mkF X.m pc Ls st) := fun T S => by
  subst hp
  obtain ⟨F, vm0, L, X1, eT, hS, hZ, hown, hC, hF, hE, hs, hN⟩ := S
  obtain ⟨T', h', X2, e2, E2, A2, D2, -, stp⟩ := newO X1 F.1 (Z := Z) hZ hown w wi wz eT (g := mkF X.m pc Ls st) rfl (hb F.2.1 hd) (ble hk) (ble hn)
  refine (G h' _ rfl E2 A2 D2 T' ?_).back stp
  exact ⟨F, vm0, _, X2, e2, ⟨hS.1, hS.2.mono E2.1⟩, hZ, hown, hC.trans (CHr.ext E2 hC.1), hF, ext_trans hE E2, fun x hx => by
    rcases List.mem_cons.mp hx with rfl | hx
    · exact ⟨A2.lt, Safe.ext E2 hC.1 (Safe.new (Nat.le_refl _))⟩
    · exact ⟨Nat.lt_of_lt_of_le (hs x hx).1 E2.1, Safe.ext E2 hC.1 (hs x hx).2⟩, hN⟩
theorem g_newarray {aty : ArrayType} {z : Int32} {cap : Nat} (hd : decode bs pc = .ok (.newarray aty, 2)) (hp : pc + 2 = pc') (w : (Jvm.Cond.arrayClass (newarray.typeOf aty)).before a0 Z = true) (hz : ¬ z < 0) (hcap : z.toNatClampNeg = cap) (h8 : Nat.ble (cap * 8) 536870912 = true) (hk : Nat.ble (k + 1) R.cells = true) (hn : Nat.ble (n + cap) R.slots = true)
    (G : ∀ h' a kA, a = h.size → Ext h h' → Arv Z h' a kA (newarray.typeOf aty) z (List.replicate cap (defaultValue (newarray.typeOf aty))) (defaultValue (newarray.typeOf aty)) → Go X R Z a0 EL nw y bs ml rt Q kc ks (a :: sf) h' (k + 1) (n + cap) (mkF X.m pc' Ls (.ref a :: st))) : Go X R Z a0 EL nw y bs ml rt Q kc ks sf h k n (mkF X.m pc Ls (.int z :: st)) := fun T S => by
  subst hp
  obtain ⟨F, vm0, L, X1, eT, hS, hZ, hown, hC, hF, hE, hs, hN⟩ := S
  obtain ⟨T', h', cA, X2, e2, E2, A2, stp⟩ := newP X1 F.1 (Z := Z) hZ w eT (g := mkF X.m pc Ls (.int z :: st)) rfl (hb F.2.1 hd) rfl hz (cap := cap) (Nat.le_of_eq hcap) (ble h8) (ble hk) (ble hn)
  have A3 := (Arv.new A2 hz).pad (vs' := List.replicate cap (defaultValue (newarray.typeOf aty))) (fun i => by have := pad_rep [] (defaultValue (newarray.typeOf aty)) cap i; simpa using this)
  refine (G h' _ cA rfl E2 A3 T' ?_).back stp
  exact ⟨F, vm0, _, X2, e2, ⟨hS.1, hS.2.mono E2.1⟩, hZ, hown, hC.trans (CHr.ext E2 hC.1), hF, ext_trans hE E2, fun x hx => by
    rcases List.mem_cons.mp hx with rfl | hx
    · exact ⟨A3.lt, Safe.ext E2 hC.1 (Safe.new (Nat.le_refl _))⟩
    · exact ⟨Nat.lt_of_lt_of_le (hs x hx).1 E2.1, Safe.ext E2 hC.1 (hs x hx).2⟩, hN⟩
theorem g_anewarray {C : String} {ix : Nat} {z : Int32} {cap : Nat} (hd : decode bs pc = .ok (.anewarray ix, 3)) (hp : pc + 3 = pc') (w : (Jvm.Cond.classLink y.cls ix C).before a0 Z = true) (w2 : (Jvm.Cond.arrayOver (.object C)).before a0 Z = true) (hz : ¬ z < 0) (hcap : z.toNatClampNeg = cap) (h8 : Nat.ble (cap * 8) 536870912 = true) (hk : Nat.ble (k + 1) R.cells = true) (hn : Nat.ble (n + cap) R.slots = true)
    (G : ∀ h' a kA, a = h.size → Ext h h' → Ovr Z kA C → Arv Z h' a kA (.object C) z (List.replicate cap .null) .null → Go X R Z a0 EL nw y bs ml rt Q kc ks (a :: sf) h' (k + 1) (n + cap) (mkF X.m pc' Ls (.ref a :: st))) : Go X R Z a0 EL nw y bs ml rt Q kc ks sf h k n (mkF X.m pc Ls (.int z :: st)) := fun T S => by
  subst hp
  obtain ⟨F, vm0, L, X1, eT, hS, hZ, hown, hC, hF, hE, hs, hN⟩ := S
  obtain ⟨T', h', cA, X2, e2, E2, A2, O2, stp⟩ := newR X1 F.1 (Z := Z) hZ hown w w2 eT (g := mkF X.m pc Ls (.int z :: st)) rfl (hb F.2.1 hd) rfl hz (cap := cap) (Nat.le_of_eq hcap) (ble h8) (ble hk) (ble hn)
  have A3 := (Arv.new A2 hz).pad (vs' := List.replicate cap (defaultValue (.object C))) (fun i => by have := pad_rep [] (defaultValue (.object C)) cap i; simpa using this)
  refine (G h' _ cA rfl E2 O2 A3 T' ?_).back stp
  exact ⟨F, vm0, _, X2, e2, ⟨hS.1, hS.2.mono E2.1⟩, hZ, hown, hC.trans (CHr.ext E2 hC.1), hF, ext_trans hE E2, fun x hx => by
    rcases List.mem_cons.mp hx with rfl | hx
    · exact ⟨A3.lt, Safe.ext E2 hC.1 (Safe.new (Nat.le_refl _))⟩
    · exact ⟨Nat.lt_of_lt_of_le (hs x hx).1 E2.1, Safe.ext E2 hC.1 (hs x hx).2⟩, hN⟩
/-- a step over one Stand that moves nothing but the tables (narrowly) -/
theorem Go.same (stp : ∀ {vm0 : Vm} {L : List Loc} {T : State}, Fix X Z a0 EL y bs ml rt → Stand X.p X.l X.e R (X.s.setVm vm0) X.m X.args X.below X.meth X.c T L k n → T.heap = h → Z.Warmed39 vm0 → vm0.findClass y.cls = some X.m.cls →
      ∃ T', Stand X.p X.l X.e R (X.s.setVm vm0) X.m X.args X.below X.meth X.c T' L k n ∧ T'.heap = h ∧ ∀ t, Steps X.p.tables X.e X.below (T'.setTop g') t → Steps X.p.tables X.e X.below (T.setTop g) t)
    (G : Go X R Z a0 EL nw y bs ml rt Q kc ks sf h k n g') : Go X R Z a0 EL nw y bs ml rt Q kc ks sf h k n g := fun T S => by
  obtain ⟨F, vm0, L, X1, eT, hS, hZ, hown, r⟩ := S
  obtain ⟨T', X2, e2, q⟩ := stp F X1 eT hZ hown
  exact (G T' ⟨F, vm0, L, X2, e2, hS, hZ, hown, r⟩).back q
theorem g_ldcI {ix : Nat} {v : Int32} (hd : decode bs pc = .ok (.ldc ix, 2)) (hp : pc + 2 = pc') (w : (Jvm.Cond.constant y.cls ix v).before a0 Z = true) (G : Go X R Z a0 EL nw y bs ml rt Q kc ks sf h k n (mkF X.m pc' Ls (.int v :: st))) : Go X R Z a0 EL nw y bs ml rt Q kc ks sf h k n (mkF X.m pc Ls st) := by
  subst hp
  exact Go.same (fun F X1 eT hZ hown => ⟨_, X1, eT, fun t q => X1.ldcI F.1 hown (mvT hZ w) rfl (hb F.2.1 hd) q⟩) G
theorem g_ldc2J {ix : Nat} {v : Int64} (hd : decode bs pc = .ok (.ldc2_w ix, 3)) (hp : pc + 3 = pc') (w : (Jvm.Cond.constantLong y.cls ix v).before a0 Z = true) (G : Go X R Z a0 EL nw y bs ml rt Q kc ks sf h k n (mkF X.m pc' Ls (.long v :: st))) : Go X R Z a0 EL nw y bs ml rt Q kc ks sf h k n (mkF X.m pc Ls st) := by
  subst hp
  exact Go.same (fun F X1 eT hZ hown => ⟨_, X1, eT, fun t q => X1.ldc2J F.1 hown (mvT hZ w) rfl (hb F.2.1 hd) q⟩) G
/-! arrays read -/
section Arrays
variable {a : Addr} {kA : ClassId} {z j : Int32} {vs : List Value} {d v : Value}
theorem g_arraylength {ty : FieldType} (hd : decode bs pc = .ok (.arraylength, 1)) (hp : pc + 1 = pc') (A : Arv Z h a kA ty z vs d) (G : Go X R Z a0 EL nw y bs ml rt Q kc ks sf h k n (mkF X.m pc' Ls (.int z :: st))) : Go X R Z a0 EL nw y bs ml rt Q kc ks sf h k n (mkF X.m pc Ls (.ref a :: st)) := by
  subst hp
  refine Go.same (fun F X1 eT hZ hown => ⟨_, X1, eT, fun t q => ?_⟩) G
  obtain ⟨c, Ar, -, s1, n1, -⟩ := A
  refine X1.arraylength F.1 (by rw [eT]; exact Ar.1) (State.isArrayOf_alike hZ.alike Ar.2.1) (g := mkF X.m pc Ls (.ref a :: st)) rfl rfl (hb F.2.1 hd) _ ?_
  rw [len_of s1 n1]
  exact q
theorem g_caload {w : Int32} (hd : decode bs pc = .ok (.caload, 1)) (hp : pc + 1 = pc') (A : Arv Z h a kA .char z vs d) (hj : ¬ j < 0 ∧ j < z) (hv : vs.getD j.toNatClampNeg d = .int w) (G : Go X R Z a0 EL nw y bs ml rt Q kc ks sf h k n (mkF X.m pc' Ls (.int w :: st))) : Go X R Z a0 EL nw y bs ml rt Q kc ks sf h k n (mkF X.m pc Ls (.int j :: .ref a :: st)) := by
  subst hp
  refine Go.same (fun F X1 eT hZ hown => ⟨_, X1, eT, fun t q => ?_⟩) G
  obtain ⟨c, Ar, -, s1, n1, H, -⟩ := A
  exact X1.caload F.1 (by rw [eT]; exact Ar.1) (State.isArrayOf_alike hZ.alike Ar.2.1) Ar.2.2 (inb_of s1 hj) (H.at (inb_of s1 hj) hv) (g := mkF X.m pc Ls (.int j :: .ref a :: st)) rfl rfl (hb F.2.1 hd) _ q
theorem g_iaload {w : Int32} (hd : decode bs pc = .ok (.iaload, 1)) (hp : pc + 1 = pc') (A : Arv Z h a kA .int z vs d) (hj : ¬ j < 0 ∧ j < z) (hv : vs.getD j.toNatClampNeg d = .int w) (G : Go X R Z a0 EL nw y bs ml rt Q kc ks sf h k n (mkF X.m pc' Ls (.int w :: st))) : Go X R Z a0 EL nw y bs ml rt Q kc ks sf h k n (mkF X.m pc Ls (.int j :: .ref a :: st)) := by
  subst hp
  refine Go.same (fun F X1 eT hZ hown => ⟨_, X1, eT, fun t q => ?_⟩) G
  obtain ⟨c, Ar, -, s1, n1, H, -⟩ := A
  exact X1.iaload F.1 (by rw [eT]; exact Ar.1) (State.isArrayOf_alike hZ.alike Ar.2.1) Ar.2.2 (inb_of s1 hj) (H.at (inb_of s1 hj) hv) (g := mkF X.m pc Ls (.int j :: .ref a :: st)) rfl rfl (hb F.2.1 hd) _ q
theorem g_baload {w : Int32} (hd : decode bs pc = .ok (.baload, 1)) (hp : pc + 1 = pc') (A : Arv Z h a kA .byte z vs d) (hj : ¬ j < 0 ∧ j < z) (hv : vs.getD j.toNatClampNeg d = .int w) (G : Go X R Z a0 EL nw y bs ml rt Q kc ks sf h k n (mkF X.m pc' Ls (.int w :: st))) : Go X R Z a0 EL nw y bs ml rt Q kc ks sf h k n (mkF X.m pc Ls (.int j :: .ref a :: st)) := by
  subst hp
  refine Go.same (fun F X1 eT hZ hown => ⟨_, X1, eT, fun t q => ?_⟩) G
  obtain ⟨c, Ar, -, s1, n1, H, -⟩ := A
  exact X1.baloadBytes F.1 (by rw [eT]; exact Ar.1) (State.isArrayOf_alike hZ.alike Ar.2.1) Ar.2.2 (inb_of s1 hj) (H.at (inb_of s1 hj) hv) (g := mkF X.m pc Ls (.int j :: .ref a :: st)) rfl rfl (hb F.2.1 hd) _ q
theorem g_aaload {ty : FieldType} (hd : decode bs pc = .ok (.aaload, 1)) (hp : pc + 1 = pc') (A : Arv Z h a kA ty z vs d) (ht : ty.isReference = true) (hj : ¬ j < 0 ∧ j < z) (hv : vs.getD j.toNatClampNeg d = v) (G : Go X R Z a0 EL nw y bs ml rt Q kc ks sf h k n (mkF X.m pc' Ls (v :: st))) : Go X R Z a0 EL nw y bs ml rt Q kc ks sf h k n (mkF X.m pc Ls (.int j :: .ref a :: st)) := by
  subst hp
  refine Go.same (fun F X1 eT hZ hown => ⟨_, X1, eT, fun t q => ?_⟩) G
  obtain ⟨c, Ar, -, s1, n1, H, -⟩ := A
  exact X1.aaload F.1 (by rw [eT]; exact Ar.1) (State.isArrayOf_alike hZ.alike Ar.2.1) ht Ar.2.2 (inb_of s1 hj) (H.at (inb_of s1 hj) hv) (g := mkF X.m pc Ls (.int j :: .ref a :: st)) rfl rfl (hb F.2.1 hd) _ q
/-! writes: one place of one cell, made since the start, that is no literal's -/
theorem Go.write {sl : Nat} {v : Value} (ha : Z.heap.size ≤ a) (hsafe : ∀ vm, Z.Warmed39 vm → CHv Z EL vm h → (∀ x ∈ sf, x < h.size ∧ Safe Z EL vm h x) → Safe Z EL vm h a)
    (stp : ∀ {vm0 : Vm} {L : List Loc} {T : State}, Fix X Z a0 EL y bs ml rt → Stand X.p X.l X.e R (X.s.setVm vm0) X.m X.args X.below X.meth X.c T L k n → T.heap = h → Z.Warmed39 vm0 → vm0.findClass y.cls = some X.m.cls →
      ∃ T' h', Stand X.p X.l X.e R (X.s.setVm vm0) X.m X.args X.below X.meth X.c T' (L ++ [⟨a, sl⟩]) k n ∧ T'.heap = h' ∧ Wr h h' a sl v ∧ ∀ t, Steps X.p.tables X.e X.below (T'.setTop g') t → Steps X.p.tables X.e X.below (T.setTop g) t)
    (G : ∀ h', Wr h h' a sl v → Go X R Z a0 EL nw y bs ml rt Q kc ks sf h' k n g') : Go X R Z a0 EL nw y bs ml rt Q kc ks sf h k n g := fun T S => by
  obtain ⟨F, vm0, L, X1, eT, hS, hZ, hown, hC, hF, hE, hs, hN⟩ := S
  obtain ⟨T', h', X2, e2, W, q⟩ := stp F X1 eT hZ hown
  exact (G h' W T' (Spot.next F X2 e2 hS hZ hown hC (CHr.wr W (hsafe vm0 hZ hC.1 hs) hC.1) (Fr.snoc X2 hF ha) (ext_keep hE (Keep.of_wr W) (allS ha all0)) hs hN)).back q
theorem sfIn (hm : a ∈ sf) : ∀ vm, Z.Warmed39 vm → CHv Z EL vm h → (∀ x ∈ sf, x < h.size ∧ Safe Z EL vm h x) → Safe Z EL vm h a := fun _ _ _ q => (q a hm).2
theorem sfArv {ty : FieldType} (A : Arv Z h a kA ty z vs d) (ht : ty ≠ .byte) : ∀ vm, Z.Warmed39 vm → CHv Z EL vm h → (∀ x ∈ sf, x < h.size ∧ Safe Z EL vm h x) → Safe Z EL vm h a := fun _ hZ _ _ => Safe.arv hZ.alike A ht
theorem sfExa {C : String} (E : Exa Z h a C) (h1 : C ≠ "java/lang/String") (h2 : C ≠ "[B") : ∀ vm, Z.Warmed39 vm → CHv Z EL vm h → (∀ x ∈ sf, x < h.size ∧ Safe Z EL vm h x) → Safe Z EL vm h a := fun _ hZ _ _ => Safe.exa hZ.alike E h1 h2
theorem g_castore {x1 : Int32} {i : Nat} (hd : decode bs pc = .ok (.castore, 1)) (hp : pc + 1 = pc') (A : Arv Z h a kA .char z vs d) (ha : Z.heap.size ≤ a) (hj : ¬ j < 0 ∧ j < z) (hi : j.toNatClampNeg = i) (hl : i < vs.length)
    (G : ∀ h', Keep h h' [a] → Arv Z h' a kA .char z (vs.set i (.int (nar .char x1))) d → Go X R Z a0 EL nw y bs ml rt Q kc ks sf h' k n (mkF X.m pc' Ls st)) : Go X R Z a0 EL nw y bs ml rt Q kc ks sf h k n (mkF X.m pc Ls (.int x1 :: .int j :: .ref a :: st)) := by
  subst hp
  have A' := A
  obtain ⟨c, Ar, k1, s1, n1, H, G1⟩ := A'
  refine Go.write (v := .int (nar .char x1)) ha (sfArv A (by decide)) (fun F X1 eT hZ hown => stC X1 F.1 (Z := Z) hZ eT Ar (x := x1) (inb_of s1 hj) (g := mkF X.m pc Ls (.int x1 :: .int j :: .ref a :: st)) rfl rfl (hb F.2.1 hd)) (fun h' W => G h' (Keep.of_wr W) (Arv.set Ar k1 s1 n1 H G1 (fits_nar_char x1) W i hi hl))
theorem g_castoreX {x1 : Int32} {i : Nat} (hd : decode bs pc = .ok (.castore, 1)) (hp : pc + 1 = pc') (hx1 : nar .char x1 = x1) (A : Arv Z h a kA .char z vs d) (ha : Z.heap.size ≤ a) (hj : ¬ j < 0 ∧ j < z) (hi : j.toNatClampNeg = i) (hl : i < vs.length)
    (G : ∀ h', Keep h h' [a] → Arv Z h' a kA .char z (vs.set i (.int x1)) d → Go X R Z a0 EL nw y bs ml rt Q kc ks sf h' k n (mkF X.m pc' Ls st)) : Go X R Z a0 EL nw y bs ml rt Q kc ks sf h k n (mkF X.m pc Ls (.int x1 :: .int j :: .ref a :: st)) :=
  g_castore hd hp A ha hj hi hl fun h' K A' => G h' K (by rw [hx1] at A'; exact A')
theorem g_bastore {x1 : Int32} {i : Nat} (hd : decode bs pc = .ok (.bastore, 1)) (hp : pc + 1 = pc') (A : Arv Z h a kA .byte z vs d) (ha : Z.heap.size ≤ a) (hm : a ∈ sf) (hj : ¬ j < 0 ∧ j < z) (hi : j.toNatClampNeg = i) (hl : i < vs.length)
    (G : ∀ h', Keep h h' [a] → Arv Z h' a kA .byte z (vs.set i (.int (nar .byte x1))) d → Go X R Z a0 EL nw y bs ml rt Q kc ks sf h' k n (mkF X.m pc' Ls st)) : Go X R Z a0 EL nw y bs ml rt Q kc ks sf h k n (mkF X.m pc Ls (.int x1 :: .int j :: .ref a :: st)) := by
  subst hp
  obtain ⟨c, Ar, k1, s1, n1, H, G1⟩ := A
  refine Go.write (v := .int (nar .byte x1)) ha (sfIn hm) (fun F X1 eT hZ hown => stB X1 F.1 (Z := Z) hZ eT Ar (x := x1) (inb_of s1 hj) (g := mkF X.m pc Ls (.int x1 :: .int j :: .ref a :: st)) rfl rfl (hb F.2.1 hd)) (fun h' W => G h' (Keep.of_wr W) (Arv.set Ar k1 s1 n1 H G1 (fits_nar_byte x1) W i hi hl))
theorem g_iastore {x1 : Int32} {i : Nat} (hd : decode bs pc = .ok (.iastore, 1)) (hp : pc + 1 = pc') (A : Arv Z h a kA .int z vs d) (ha : Z.heap.size ≤ a) (hj : ¬ j < 0 ∧ j < z) (hi : j.toNatClampNeg = i) (hl : i < vs.length)
    (G : ∀ h', Keep h h' [a] → Arv Z h' a kA .int z (vs.set i (.int x1)) d → Go X R Z a0 EL nw y bs ml rt Q kc ks sf h' k n (mkF X.m pc' Ls st)) : Go X R Z a0 EL nw y bs ml rt Q kc ks sf h k n (mkF X.m pc Ls (.int x1 :: .int j :: .ref a :: st)) := by
  subst hp
  have A' := A
  obtain ⟨c, Ar, k1, s1, n1, H, G1⟩ := A'
  refine Go.write (v := .int x1) ha (sfArv A (by decide)) (fun F X1 eT hZ hown => stI X1 F.1 (Z := Z) hZ eT Ar (x := x1) (inb_of s1 hj) (g := mkF X.m pc Ls (.int x1 :: .int j :: .ref a :: st)) rfl rfl (hb F.2.1 hd)) (fun h' W => G h' (Keep.of_wr W) (Arv.set Ar k1 s1 n1 H G1 rfl W i hi hl))
theorem g_aastore {C : String} {w : Addr} {i : Nat} (hd : decode bs pc = .ok (.aastore, 1)) (hp : pc + 1 = pc') (A : Arv Z h a kA (.object C) z vs d) (O : Ovr Z kA C) (I : Ins Z h w C true) (ha : Z.heap.size ≤ a) (hj : ¬ j < 0 ∧ j < z) (hi : j.toNatClampNeg = i) (hl : i < vs.length)
    (G : ∀ h', Keep h h' [a] → Arv Z h' a kA (.object C) z (vs.set i (.ref w)) d → Go X R Z a0 EL nw y bs ml rt Q kc ks sf h' k n (mkF X.m pc' Ls st)) : Go X R Z a0 EL nw y bs ml rt Q kc ks sf h k n (mkF X.m pc Ls (.ref w :: .int j :: .ref a :: st)) := by
  subst hp
  have A' := A
  obtain ⟨c, Ar, k1, s1, n1, H, G1⟩ := A'
  refine Go.write (v := .ref w) ha (sfArv A (by intro q; cases q)) (fun F X1 eT hZ hown => stR X1 F.1 (Z := Z) hZ eT Ar (inb_of s1 hj) rfl (Sto.ofV Ar k1 O I) (g := mkF X.m pc Ls (.ref w :: .int j :: .ref a :: st)) rfl rfl (hb F.2.1 hd)) (fun h' W => G h' (Keep.of_wr W) (Arv.set Ar k1 s1 n1 H G1 rfl W i hi hl))
end Arrays
/-! fields -/
theorem g_getfield {O nm d : String} {ix : Nat} {a : Addr} {v : Value} (hd : decode bs pc = .ok (.getfield ix, 3)) (hp : pc + 3 = pc') (w : (Jvm.Cond.fieldLink y.cls ix O nm d).before a0 Z = true) (Fl : Fld Z h a O nm d v) (G : Go X R Z a0 EL nw y bs ml rt Q kc ks sf h k n (mkF X.m pc' Ls (v :: st))) : Go X R Z a0 EL nw y bs ml rt Q kc ks sf h k n (mkF X.m pc Ls (.ref a :: st)) := by
  subst hp
  exact Go.same (fun F X1 eT hZ hown => getF X1 F.1 (Z := Z) hZ hown (host := "") (Or.inl w) Via.refl eT Fl (g := mkF X.m pc Ls (.ref a :: st)) rfl rfl (hb F.2.1 hd)) G
theorem g_getstatic {O nm d : String} {ix : Nat} {v : Value} (hd : decode bs pc = .ok (.getstatic ix, 3)) (hp : pc + 3 = pc') (w : (Jvm.Cond.fieldLink y.cls ix O nm d).before a0 Z = true) (Fl : Sta Z Z.heap O nm d v) (G : Go X R Z a0 EL nw y bs ml rt Q kc ks sf h k n (mkF X.m pc' Ls (v :: st))) : Go X R Z a0 EL nw y bs ml rt Q kc ks sf h k n (mkF X.m pc Ls st) := by
  subst hp
  exact Go.old fun E => Go.same (fun F X1 eT hZ hown => getS X1 F.1 (Z := Z) hZ (host := "") hown w Via.refl eT (Fl.ext E) (g := mkF X.m pc Ls st) rfl (hb F.2.1 hd)) G
theorem g_putfield {O nm d C : String} {ix kk : Nat} {ty : FieldType} {a : Addr} {v old : Value} (hd : decode bs pc = .ok (.putfield ix, 3)) (hp : pc + 3 = pc') (w : (Jvm.Cond.fieldLink y.cls ix O nm d).before a0 Z = true) (Fl : Fld Z h a O nm d old) (E : Exa Z h a C)
    (L : (Jvm.Cond.lays C O nm d).before a0 Z = true ∨ ((Jvm.Cond.laysFinal C O nm d).before a0 Z = true ∧ y.cls = O ∧ y.name = "<init>")) (wi : (Jvm.Cond.instantiable C kk).before a0 Z = true) (hty : parseFieldDescriptor d = some ty) (hn : narrow ty v = v) (hf : fits ty v = true) (ha : Z.heap.size ≤ a) (hm : a ∈ sf)
    (G : ∀ h', Wr h h' a (RoadKit.slotOf Z O nm d) v → Go X R Z a0 EL nw y bs ml rt Q kc ks sf h' k n (mkF X.m pc' Ls st)) : Go X R Z a0 EL nw y bs ml rt Q kc ks sf h k n (mkF X.m pc Ls (v :: .ref a :: st)) := by
  subst hp
  exact Go.write (v := v) ha (sfIn hm) (fun F X1 eT hZ hown => putF X1 F.1 (Z := Z) hZ hown (host := "") (Or.inl w) Via.refl eT Fl E (L.imp id fun q => ⟨q.1, q.2.1, F.2.2.2.2.1.trans q.2.2⟩) wi hty hn hf (g := mkF X.m pc Ls (v :: .ref a :: st)) rfl rfl (hb F.2.1 hd)) G
theorem g_checkcast {K : String} {ix : Nat} {a : Addr} (hd : decode bs pc = .ok (.checkcast ix, 3)) (hp : pc + 3 = pc') (w : (Jvm.Cond.classLink y.cls ix K).before a0 Z = true) (I : Ins Z h a K true) (G : Go X R Z a0 EL nw y bs ml rt Q kc ks sf h k n (mkF X.m pc' Ls (.ref a :: st))) : Go X R Z a0 EL nw y bs ml rt Q kc ks sf h k n (mkF X.m pc Ls (.ref a :: st)) := by
  subst hp
  exact Go.same (fun F X1 eT hZ hown => castY X1 F.1 (Z := Z) hZ hown w eT I (g := mkF X.m pc Ls (.ref a :: st)) rfl rfl (hb F.2.1 hd)) G
theorem g_instanceofY {K : String} {ix : Nat} {a : Addr} (hd : decode bs pc = .ok (.instanceof ix, 3)) (hp : pc + 3 = pc') (w : (Jvm.Cond.classLink y.cls ix K).before a0 Z = true) (I : Ins Z h a K true) (G : Go X R Z a0 EL nw y bs ml rt Q kc ks sf h k n (mkF X.m pc' Ls (.int 1 :: st))) : Go X R Z a0 EL nw y bs ml rt Q kc ks sf h k n (mkF X.m pc Ls (.ref a :: st)) := by
  subst hp
  exact Go.same (fun F X1 eT hZ hown => instY X1 F.1 (Z := Z) hZ hown w eT I (g := mkF X.m pc Ls (.ref a :: st)) rfl rfl (hb F.2.1 hd)) G
/-- Object's constructor -/
theorem g_objinit {ix : Nat} {a : Addr} (hd : decode bs pc = .ok (.invokespecial ix, 3)) (hp : pc + 3 = pc') (w1 : (Jvm.Cond.methodLink y.cls ix Lib.objectInit).before a0 Z = true) (w2 : (Jvm.Cond.instanceMethod Lib.objectInit).before a0 Z = true) (w3 : (Jvm.Cond.code Lib.objectInit ⟨#[0xb1]⟩ 1 none).before a0 Z = true)
    (hz : Ls.size = ml) (hf : Nat.ble 1 R.frames = true) (hl : Nat.ble ((st.map fun v => v.category).sum + 12) R.locals = true) (G : Go X R Z a0 EL nw y bs ml rt Q kc ks sf h k n (mkF X.m pc' Ls st)) : Go X R Z a0 EL nw y bs ml rt Q kc ks sf h k n (mkF X.m pc Ls (.ref a :: st)) := by
  subst hp
  exact Go.same (fun F X1 eT hZ hown => initO X1 F.1 (Z := Z) hZ hown w1 w2 w3 eT (g := mkF X.m pc Ls (.ref a :: st)) rfl (by rw [F.2.2.1]; exact hz) rfl (hb F.2.1 hd) (ble hf) (W := (st.map fun v => v.category).sum) (by show 2 * 0 + _ ≤ _; omega) (ble hl)) G
/-- an array's clone() -/
theorem g_clone {ix cap : Nat} {ad : String} {a : Addr} {kA : ClassId} {ty : FieldType} {z : Int32} {vs : List Value} {d : Value} (hd : decode bs pc = .ok (.invokevirtual ix, 3)) (hp : pc + 3 = pc')
    (w1 : (Jvm.Cond.methodLink y.cls ix ⟨ad, "clone", "()Ljava/lang/Object;"⟩).before a0 Z = true) (w2 : (Jvm.Cond.sameMethod ad "java/lang/Object" "clone" "()Ljava/lang/Object;").before a0 Z = true) (w3 : (Jvm.Cond.native ⟨"java/lang/Object", "clone", "()Ljava/lang/Object;"⟩).before a0 Z = true)
    (w4 : (Jvm.Cond.instanceMethod ⟨"java/lang/Object", "clone", "()Ljava/lang/Object;"⟩).before a0 Z = true) (w5 : (Jvm.Cond.selects ad ⟨ad, "clone", "()Ljava/lang/Object;"⟩ ⟨"java/lang/Object", "clone", "()Ljava/lang/Object;"⟩).before a0 Z = true) (w6 : (Jvm.Cond.castable ad "java/lang/Cloneable").before a0 Z = true)
    (A : Arv Z h a kA ty z vs d) (E : Exa Z h a ad) (hz : Ls.size = ml) (hf : Nat.ble 1 R.frames = true) (hl : Nat.ble ((st.map fun v => v.category).sum + 14) R.locals = true) (hcap : z.toNatClampNeg ≤ cap) (hk : Nat.ble (k + 1) R.cells = true) (hn : Nat.ble (n + cap) R.slots = true)
    (G : ∀ h' b, b = h.size → Ext h h' → Arv Z h' b kA ty z vs d → Exa Z h' b ad → Go X R Z a0 EL nw y bs ml rt Q kc ks (b :: sf) h' (k + 1) (n + cap) (mkF X.m pc' Ls (.ref b :: st))) : Go X R Z a0 EL nw y bs ml rt Q kc ks sf h k n (mkF X.m pc Ls (.ref a :: st)) := fun T S => by
  subst hp
  obtain ⟨F, vm0, L, X1, eT, hS, hZ, hown, hC, hF, hE, hs, hN⟩ := S
  obtain ⟨c, Ar, k1, s1, n1, H, G1⟩ := A
  have hfit : FitC Z c := fitC_of Ar fun i hi v hv => by
    have q := H i hi
    rw [hv] at q
    cases q
    exact G1 i hi
  obtain ⟨T', h', X2, e2, E2, A2, B2, stp⟩ := cloneA X1 F.1 (Z := Z) hZ hown w1 w2 w3 w4 w5 w6 eT Ar E hfit (g := mkF X.m pc Ls (.ref a :: st)) rfl (by rw [F.2.2.1]; exact hz) rfl (hb F.2.1 hd) (ble hf) (W := (st.map fun v => v.category).sum) (cap := cap) (by show 2 * 0 + _ ≤ _; omega) (ble hl) (by rw [s1]; exact hcap) (ble hk) (ble hn)
  have A3 : Arv Z h' h.size kA ty z vs d := ⟨cloneOf c, A2, k1, s1, n1, H, G1⟩
  refine (G h' _ rfl E2 A3 B2 T' ?_).back stp
  exact ⟨F, vm0, _, X2, e2, ⟨hS.1, hS.2.mono E2.1⟩, hZ, hown, hC.trans (CHr.ext E2 hC.1), hF, ext_trans hE E2, fun x hx => by
    rcases List.mem_cons.mp hx with rfl | hx
    · exact ⟨A3.lt, Safe.ext E2 hC.1 (Safe.new (Nat.le_refl _))⟩
    · exact ⟨Nat.lt_of_lt_of_le (hs x hx).1 E2.1, Safe.ext E2 hC.1 (hs x hx).2⟩, hN⟩
/-! a String constant -/
theorem g_ldcS (hnw : nw = false) {text : String} {ix nn : Nat} {vs : List Value} {z : Int32} (hd : decode bs pc = .ok (.ldc ix, 2)) (hp : pc + 2 = pc') (w : (Jvm.Cond.stringLink y.cls ix text).before a0 Z = true) (wS : ∀ a ∈ Bundle.stringAtoms, a.before a0 Z = true) (hm : (y.cls, ix) ∈ EL)
    (ht : (∀ c ∈ text.toList, c.toNat < 256) ∧ text.toList.map (fun c => Value.int (Jvm.Lit.byteI c.toNat.toUInt16)) = vs) (hz : ¬ z < 0) (hl : z.toNatClampNeg = vs.length) (h4 : Nat.ble (4 * text.toList.length) nn = true) (hbig : Nat.ble nn 536870912 = true) (hk : Nat.ble (k + 2) R.cells = true) (hn : Nat.ble (n + (nn + 4)) R.slots = true)
    (G : ∀ h' a b kb, Ext h h' → Exa Z h' a "java/lang/String" → Fld Z h' a "java/lang/String" "coder" "B" (.int 0) → Fld Z h' a "java/lang/String" "value" "[B" (.ref b) → Arv Z h' b kb .byte z vs (.int 0) → (∀ x ∈ sf, x ≠ a ∧ x ≠ b) → Go X R Z a0 EL nw y bs ml rt Q kc ks sf h' (k + 2) (n + (nn + 4)) (mkF X.m pc' Ls (.ref a :: st))) : Go X R Z a0 EL nw y bs ml rt Q kc ks sf h k n (mkF X.m pc Ls st) := fun T S => by
  subst hp
  obtain ⟨F, vm0, L, X1, eT, hS, hZ, hown, hC, hF, hE, hs, hN⟩ := S
  obtain ⟨a, T', h', k1, b, kb, X2, e2, E2, hS2, hk2, hZ2, hown2, A1, A2, A3, A4, l1, l2, hC2, -, hne, q⟩ := ldcCH X1 F.1 (Z := Z) hZ hown w wS eT hS (Nat.le_refl _) F.2.2.2.2.2.2 hm hC.1 ht hz hl (g := mkF X.m pc Ls st) rfl (hb F.2.1 hd) (ble h4) (ble hbig) (ble hk) (ble hn)
  have hs' : ∀ x ∈ sf, x < h'.size ∧ Safe Z EL T'.vm h' x := fun x hx => ⟨Nat.lt_of_lt_of_le (hs x hx).1 E2.1, hC2.safe (hs x hx).1 (hs x hx).2⟩
  exact (G h' a b kb E2 A1 A2 A3 A4 (fun x hx => hne x (hs' x hx).2) T' ⟨F, T'.vm, L, X2, e2, ⟨hS2.1, hS2.2.mono hk2⟩, hZ2, hown2, hC.trans hC2, hF, ext_trans hE E2, hs', fun q => by rw [hnw] at q; cases q⟩).back q
/-! calls -/
/-- whoever pays the call of y on the arguments as', from the heap h: at most kc cells and ks slots made; Q of what comes back -/
def Pay (l : Launch) (R : Room) (y : MethodName) (W : Nat) (as' : Array Value) (Z : State) (a0 : Array Value) (EL : List (String × Nat)) (nw : Bool) (sf : List Addr) (h : Heap) (kc ks : Nat) (Q : Option Value → Heap → Prop) : Prop :=
  ∀ (p : Program) (e : Env) (below : List Frame) (s : State) (args : Array Value) (len : Nat) (vm0 : Vm), Z.Warmed39 vm0 → CHv Z EL vm0 h → Ext Z.heap h → (∀ x ∈ sf, x < h.size ∧ Safe Z EL vm0 h x) → EW Z a0 EL →
    BackS l R p e below (s.setVm vm0) args y len W (fun A a => a = as' ∧ A.U.heap = h ∧ A.cells + kc ≤ R.cells ∧ A.slots + ks ≤ R.slots)
      (fun A _ v B => ∃ L, (Q v B.U.heap ∧ Fr Z.heap.size L ∧ Ext Z.heap B.U.heap) ∧ B.locs = A.locs ++ L ∧ B.cells = A.cells + kc ∧ B.slots = A.slots + ks ∧ CHr Z EL vm0 h B.U.vm B.U.heap ∧ (nw = true → (s.setVm vm0).WarmedH B.U.vm))
/-- the contract of a method: walked from its entry -/
def MetW (ws : List Jvm.Cond) (l : Launch) (y : MethodName) (bs : ByteArray) (ml : Nat) (rt : Option FieldType) (rm : Room) (as' : Array Value) (Z : State) (a0 : Array Value) (EL : List (String × Nat)) (nw : Bool) (sf : List Addr) (h : Heap) (Q : Option Value → Heap → Prop) : Prop :=
  MetFree l y (head1 (Jvm.Cond.code y bs ml rt :: ws) rm) (fun a U => a = as' ∧ Z.Warmed39 U.vm ∧ U.heap = h ∧ CHv Z EL U.vm h ∧ Ext Z.heap h ∧ EW Z a0 EL ∧ ∀ x ∈ sf, x < h.size ∧ Safe Z EL U.vm h x) (fun _ _ _ _ _ => True)
    (fun _ U o U' => ∃ v L, o = .returned v ∧ (Q v U'.heap ∧ Fr Z.heap.size L ∧ Ext Z.heap U'.heap) ∧ CHr Z EL U.vm U.heap U'.vm U'.heap ∧ (nw = true → U.WarmedH U'.vm) ∧ ReturnedEndW U o U' L rm.cells rm.slots)
theorem MetW.of {ws : List Jvm.Cond} {l : Launch} {rm : Room} {as' : Array Value} (hpl : plainFor y = true)
    (H : ∀ X : Cx, X.l = l → Go X rm Z a0 EL nw y bs ml rt Q rm.cells rm.slots sf h 0 0 (entryFrame X.m as' ml)) : MetW ws l y bs ml rt rm as' Z a0 EL nw sf h Q := by
  refine MetFree.of_bodySF hpl hisR ?_
  intro p e s m args below meth c s₁ Bd hml0 hP hK
  obtain ⟨rfl, hZ, rfl, hC, hE, hEL, hs⟩ := hP
  have e0 : s₁.heap = s.heap := by rw [Bd.state]; rfl
  exact H (p, l, e, s, m, args, below, meth, c) rfl s₁ ⟨⟨Bd.exec, Bd.bytes, hml0, Bd.returns, (name_of_methodNamed Bd.named Bd.method).1, Bd.notSynchronized, hEL⟩, s.vm, [], Stand.of_body Bd, e0, (State.WarmedH.refl s).since _, hZ, findClass_of_methodNamed Bd.named, CHr.refl hC, Fr.nil _, hE, hs, fun _ => State.WarmedH.refl s⟩
theorem Pay.of_met {l : Launch} {rm : Room} {as' : Array Value} {W : Nat} (hM : MetW [] l y bs ml rt rm as' Z a0 EL nw sf h Q) (wc : (Jvm.Cond.code y bs ml rt).before a0 Z = true) (wz : (Jvm.Cond.initialized y.cls).before a0 Z = true) (hf : Nat.ble (rm.frames + 1) R.frames = true) (hl : Nat.ble (W + (ml + 11) + rm.locals) R.locals = true) :
    Pay l R y W as' Z a0 EL nw sf h rm.cells rm.slots Q := fun p e below s args len vm0 hZ H hE hs hEL =>
  BackS.of_freeW (bytes := bs) (maxL := ml) (ret := rt) (E := fun _ first o t L k n => k = rm.cells ∧ n = rm.slots ∧ (∃ v, o = .returned v ∧ Q v t.heap ∧ Fr Z.heap.size L ∧ Ext Z.heap t.heap) ∧ CHr Z EL first.vm first.heap t.vm t.heap ∧ (nw = true → first.WarmedH t.vm)) hM (ble hf) (ble hl)
    (fun m meth c A a Y hp => have hU : Z.Warmed39 A.U.vm := wtrans (s := s.setVm vm0) hZ Y.warmed
      ⟨by show (Jvm.Cond.and _ .tt).before a A.U = true; rw [Cond.before_and, mv hU wc]; rfl, mv hU wc, mv hU wz, hp.2.2.1, hp.2.2.2⟩)
    (fun m meth c A a g mk Y hp => ⟨hp.1, wtrans (s := s.setVm vm0) hZ Y.warmed, hp.2.1, (CHv.at Y hZ hEL H).1, hE, hEL, fun x hx => ⟨(hs x hx).1, (CHv.at Y hZ hEL H).safe (hs x hx).1 (hs x hx).2⟩⟩) (fun _ _ _ _ _ _ _ _ _ => trivial)
    (fun _ _ _ _ ⟨v, L, h1, h2, h3, h5, h4⟩ => ⟨L, _, _, h4, rfl, rfl, ⟨v, h1, h2⟩, h3, h5⟩)
    (fun m meth c A a g mk v t L k n Y hp _ _ ⟨e1, e2, ⟨v', e3, e4⟩, e5, e6⟩ => by
      cases e3; subst e1 e2
      refine ⟨L, e4, rfl, rfl, rfl, (CHv.at Y hZ hEL H).trans ?_, fun q => State.WarmedH.trans Y.warmed (e6 q)⟩
      rw [← hp.2.1]; exact e5)
/-- a law of the other texts, that interns nothing: what it writes are cells made since the start, no literal's -/
theorem Pay.of_back {l : Launch} {as' : Array Value} {W : Nat} {Q0 : Option Value → Heap → List Loc → Prop} (wsl : List Addr)
    (hB : ∀ (p : Program) (e : Env) (below : List Frame) (s : State) (args : Array Value) (len : Nat), Z.Warmed39 s.vm → Back l R p e below s args y len W (fun A a => a = as' ∧ A.U.heap = h ∧ A.cells + kc ≤ R.cells ∧ A.slots + ks ≤ R.slots) (fun A _ v B => ∃ L, Q0 v B.U.heap L ∧ B.locs = A.locs ++ L ∧ B.cells = A.cells + kc ∧ B.slots = A.slots + ks))
    (hw : ∀ x ∈ wsl, x ∈ sf ∧ Z.heap.size ≤ x) (hQ : ∀ v h' L, Q0 v h' L → Q v h' ∧ Keep h h' wsl ∧ Fr Z.heap.size L) : Pay l R y W as' Z a0 EL nw sf h kc ks Q := fun p e below s args len vm0 hZ H hE hs hEL m meth c A g ig mk a X1 hg hsize hdg hW hn hp => by
  obtain ⟨v, B, X2, ⟨L, hq, e1, e2, e3⟩, stp⟩ := hB p e below (s.setVm vm0) args len hZ m meth c A g ig mk a X1 hg hsize hdg hW hn hp
  obtain ⟨q1, q2, q3⟩ := hQ _ _ _ hq
  have hC2 : CHr Z EL vm0 h vm0 B.U.heap := CHr.keep q2 (fun x hx => (hs x (hw x hx).1).2) H
  have hsz : A.U.heap.size ≤ B.U.heap.size := by rw [hp.2.1]; exact q2.1
  exact ⟨v, B, X2.retabled X2.warmed.wide, X2.warmed.since _, hsz, ⟨L, ⟨q1, q3, ext_keep hE q2 fun x hx => (hw x hx).2⟩, e1, e2, e3, hC2.trans (CHv.at X2 hZ hEL hC2.1), fun _ => X2.warmed⟩, stp⟩
theorem Pay.pure {l : Launch} {as' : Array Value} {W : Nat} {P : Option Value → Prop}
    (hB : ∀ (p : Program) (e : Env) (below : List Frame) (s : State) (args : Array Value) (len : Nat), Z.Warmed39 s.vm → Back l R p e below s args y len W (fun A a => a = as' ∧ A.U.heap = h ∧ A.cells + 0 ≤ R.cells ∧ A.slots + 0 ≤ R.slots) (fun A _ v B => ∃ L, (P v ∧ L = [] ∧ B.U.heap = h) ∧ B.locs = A.locs ++ L ∧ B.cells = A.cells + 0 ∧ B.slots = A.slots + 0)) : Pay l R y W as' Z a0 EL nw sf h 0 0 (fun v h' => P v ∧ h' = h) :=
  Pay.of_back (Q0 := fun v h' L => P v ∧ L = [] ∧ h' = h) [] hB (fun _ q => nomatch q) fun v h' L q => by
    obtain ⟨q1, rfl, rfl⟩ := q
    exact ⟨⟨q1, rfl⟩, Keep.refl _ _, Fr.nil _⟩
theorem Pay.weak {l : Launch} {as' : Array Value} {W : Nat} {Q' : Option Value → Heap → Prop} (P : Pay l R y W as' Z a0 EL nw sf h kc ks Q) (hQ : ∀ v h', Q v h' → Q' v h') : Pay l R y W as' Z a0 EL nw sf h kc ks Q' := fun p e below s args len vm0 hZ H hE hs hEL m meth c A g ig mk a X1 hg hsize hdg hW hn hp => by
  obtain ⟨v, B, X2, h1, h2, ⟨L, ⟨q1, q2⟩, r⟩, stp⟩ := P p e below s args len vm0 hZ H hE hs hEL m meth c A g ig mk a X1 hg hsize hdg hW hn hp
  exact ⟨v, B, X2, h1, h2, ⟨L, ⟨hQ _ _ q1, q2⟩, r⟩, stp⟩
/-- behind any call -/
theorem Go.back {vm0 : Vm} {L : List Loc} {kc' ks' : Nat} {Q' : Option Value → Heap → Prop} {v : Option Value} {B : Pt} (F : Fix X Z a0 EL y bs ml rt) (eT : T.heap = h) (hS : X.s.Since vm0 h.size) (hZ : Z.Warmed39 vm0) (hown : vm0.findClass y.cls = some X.m.cls) (hC : CHr Z EL X.s.vm X.s.heap vm0 h) (hF : Fr Z.heap.size L) (hs : ∀ x ∈ sf, x < h.size ∧ Safe Z EL vm0 h x)
    (X2 : Stand X.p X.l X.e R ((X.s.setVm vm0).setVm B.U.vm) X.m X.args X.below X.meth X.c B.U B.locs B.cells B.slots) (hS2 : (X.s.setVm vm0).Since B.U.vm B.U.heap.size) (hle : T.heap.size ≤ B.U.heap.size)
    (hq : ∃ L', (Q' v B.U.heap ∧ Fr Z.heap.size L' ∧ Ext Z.heap B.U.heap) ∧ B.locs = L ++ L' ∧ B.cells = k + kc' ∧ B.slots = n + ks' ∧ CHr Z EL vm0 h B.U.vm B.U.heap ∧ (nw = true → (X.s.setVm vm0).WarmedH B.U.vm)) (hN : nw = true → X.s.WarmedH vm0)
    (G : ∀ v h', Q' v h' → h.size ≤ h'.size → Go X R Z a0 EL nw y bs ml rt Q kc ks sf h' (k + kc') (n + ks') (mkF X.m pc' Ls (v.toList ++ st))) : Done X Z EL nw Q kc ks B.U (mkF X.m pc' Ls (v.toList ++ st)) := by
  subst eT
  obtain ⟨L', ⟨q1, q2, q3⟩, e1, e2, e3, hC2, hN2⟩ := hq
  rw [e1, e2, e3] at X2
  exact G v B.U.heap q1 hle B.U ⟨F, B.U.vm, _, X2, rfl, hS.trans hS2 hle, State.Warmed39.trans (t := X.s.setVm vm0) hZ hS2.1, (hS2.1.alike.findClass _ _).trans hown, hC.trans hC2, hF.app q2, q3, fun x hx => ⟨Nat.lt_of_lt_of_le (hs x hx).1 hle, hC2.safe (hs x hx).1 (hs x hx).2⟩, fun q => State.WarmedH.trans (hN q) (hN2 q)⟩
theorem g_invokestatic {ix : Nat} {y' : MethodName} {bs' : ByteArray} {ml' : Nat} {rt' : Option FieldType} {as' : Array Value} {kc' ks' : Nat} {Q' : Option Value → Heap → Prop} (sfc : List Addr) (argsL : List Value) {ps : List FieldType} {r : Option FieldType} (hd : decode bs pc = .ok (.invokestatic ix, 3)) (hp : pc + 3 = pc')
    (w1 : (Jvm.Cond.methodLink y.cls ix y').before a0 Z = true) (w2 : (Jvm.Cond.static y').before a0 Z = true) (w3 : (Jvm.Cond.initialized y'.cls).before a0 Z = true) (w4 : (Jvm.Cond.code y' bs' ml' rt').before a0 Z = true) (hy : y'.cls ≠ "java/lang/invoke/MethodHandle" ∧ y'.cls ≠ "java/lang/invoke/VarHandle")
    (P : Pay X.l R y' (st.map fun v => v.category).sum as' Z a0 EL nw sfc h kc' ks' Q') (hpd : parseMethodDescriptor y'.desc = some ⟨ps, r⟩) (hlen : argsL.length = ps.length) (hargs : argsL.toArray = as') (hz : Ls.size = ml) (hk : Nat.ble (k + kc') R.cells = true) (hn : Nat.ble (n + ks') R.slots = true) (hsf : ∀ x ∈ sfc, x ∈ sf)
    (G : ∀ v h', Q' v h' → h.size ≤ h'.size → Go X R Z a0 EL nw y bs ml rt Q kc ks sf h' (k + kc') (n + ks') (mkF X.m pc' Ls (v.toList ++ st))) : Go X R Z a0 EL nw y bs ml rt Q kc ks sf h k n (mkF X.m pc Ls (argsL.reverse ++ st)) := fun T S => by
  subst hp
  obtain ⟨F, vm0, L, X1, eT, hS, hZ, hown, hC, hF, hE, hs, hN⟩ := S
  obtain ⟨v, vm1, B, -, X2, hS2, hle, hq, stp⟩ := callSS X1 F.1 (y := y') hown (mvT (s := X.s.setVm vm0) hZ w1) (mvT (s := X.s.setVm vm0) hZ w2) (mvT (s := X.s.setVm vm0) hZ w3) (mvT (s := X.s.setVm vm0) hZ w4) hy (P _ _ _ _ _ _ vm0 hZ hC.1 hE (fun x hx => hs x (hsf x hx)) F.2.2.2.2.2.2) (g := mkF X.m pc Ls (argsL.reverse ++ st)) rfl (by rw [F.2.2.1]; exact hz) (argsL := argsL) (rest := st) (lenOf hpd hlen) rfl (by show 2 * 0 + _ ≤ _; omega) (hb F.2.1 hd) (fun _ _ => ⟨hargs, eT, ble hk, ble hn⟩)
  exact (Go.back F eT hS hZ hown hC hF hs X2 hS2 hle hq hN G).back fun t q => stp.trans q
theorem g_invokespecial {ix : Nat} {y' : MethodName} {bs' : ByteArray} {ml' : Nat} {as' : Array Value} {kc' ks' : Nat} {Q' : Option Value → Heap → Prop} (sfc : List Addr) {a : Addr} (argsL : List Value) {ps : List FieldType} {r : Option FieldType} (hd : decode bs pc = .ok (.invokespecial ix, 3)) (hp : pc + 3 = pc') (hi : y'.name = "<init>")
    (w1 : (Jvm.Cond.methodLink y.cls ix y').before a0 Z = true) (w2 : (Jvm.Cond.instanceMethod y').before a0 Z = true) (w4 : (Jvm.Cond.code y' bs' ml' none).before a0 Z = true) (hy : y'.cls ≠ "java/lang/invoke/MethodHandle" ∧ y'.cls ≠ "java/lang/invoke/VarHandle")
    (P : Pay X.l R y' (st.map fun v => v.category).sum as' Z a0 EL nw sfc h kc' ks' Q') (hpd : parseMethodDescriptor y'.desc = some ⟨ps, r⟩) (hlen : argsL.length = ps.length) (hargs : (Value.ref a :: argsL).toArray = as') (hz : Ls.size = ml) (hk : Nat.ble (k + kc') R.cells = true) (hn : Nat.ble (n + ks') R.slots = true) (hsf : ∀ x ∈ sfc, x ∈ sf)
    (G : ∀ v h', Q' v h' → h.size ≤ h'.size → Go X R Z a0 EL nw y bs ml rt Q kc ks sf h' (k + kc') (n + ks') (mkF X.m pc' Ls (v.toList ++ st))) : Go X R Z a0 EL nw y bs ml rt Q kc ks sf h k n (mkF X.m pc Ls (argsL.reverse ++ .ref a :: st)) := fun T S => by
  subst hp
  obtain ⟨F, vm0, L, X1, eT, hS, hZ, hown, hC, hF, hE, hs, hN⟩ := S
  obtain ⟨v, vm1, B, -, X2, hS2, hle, hq, stp⟩ := X1.specialBackS F.1 (y := y') hi hown (mvT (s := X.s.setVm vm0) hZ w1) (mvT (s := X.s.setVm vm0) hZ w2) (mvT (s := X.s.setVm vm0) hZ w4) hy (P _ _ _ _ _ _ vm0 hZ hC.1 hE (fun x hx => hs x (hsf x hx)) F.2.2.2.2.2.2) (g := mkF X.m pc Ls (argsL.reverse ++ .ref a :: st)) rfl (by rw [F.2.2.1]; exact hz) (Steps.refl _) (a := a) (argsL := argsL) (rest := st) (lenOf hpd hlen) rfl (by show 2 * 0 + _ ≤ _; omega) (hb F.2.1 hd) (fun _ _ => ⟨hargs, eT, ble hk, ble hn⟩)
  exact (Go.back F eT hS hZ hown hC hF hs X2 hS2 hle hq hN G).back fun t q => stp.trans q
def NF (Z : State) (y : MethodName) : Prop := ∀ s : State, Z.Warmed39 s.vm → NotFace s y
theorem g_invokevirtualN {ix : Nat} {C : String} {y' z' : MethodName} {as' : Array Value} {kc' ks' : Nat} {Q' : Option Value → Heap → Prop} (sfc : List Addr) {a : Addr} (argsL : List Value) {ps : List FieldType} {r : Option FieldType} (hd : decode bs pc = .ok (.invokevirtual ix, 3)) (hp : pc + 3 = pc')
    (w1 : (Jvm.Cond.methodLink y.cls ix y').before a0 Z = true) (w2 : (Jvm.Cond.declares y').before a0 Z = true) (w3 : (Jvm.Cond.selects C y' z').before a0 Z = true) (w4 : (Jvm.Cond.instanceMethod z').before a0 Z = true) (hy : y'.cls ≠ "java/lang/invoke/MethodHandle" ∧ y'.cls ≠ "java/lang/invoke/VarHandle")
    (hnf : NF Z y') (E : Exa Z h a C) (P : Pay X.l R z' (st.map fun v => v.category).sum as' Z a0 EL nw sfc h kc' ks' Q') (hpd : parseMethodDescriptor y'.desc = some ⟨ps, r⟩) (hlen : argsL.length = ps.length) (hargs : (Value.ref a :: argsL).toArray = as') (hz : Ls.size = ml) (hk : Nat.ble (k + kc') R.cells = true) (hn : Nat.ble (n + ks') R.slots = true) (hsf : ∀ x ∈ sfc, x ∈ sf)
    (G : ∀ v h', Q' v h' → h.size ≤ h'.size → Go X R Z a0 EL nw y bs ml rt Q kc ks sf h' (k + kc') (n + ks') (mkF X.m pc' Ls (v.toList ++ st))) : Go X R Z a0 EL nw y bs ml rt Q kc ks sf h k n (mkF X.m pc Ls (argsL.reverse ++ .ref a :: st)) := fun T S => by
  subst hp
  obtain ⟨F, vm0, L, X1, eT, hS, hZ, hown, hC, hF, hE, hs, hN⟩ := S
  obtain ⟨cq, kq, qa, qb, qc⟩ := isOf (s := X.s.setVm vm0) hZ eT E
  obtain ⟨v, vm1, B, -, X2, hS2, hle, hq, stp⟩ := X1.virtualBackS F.1 (y := y') (z := z') hown (mvT (s := X.s.setVm vm0) hZ w1) (mvT (s := X.s.setVm vm0) hZ w2) (hnf (X.s.setVm vm0) hZ) (mvT (s := X.s.setVm vm0) hZ w3) (mvT (s := X.s.setVm vm0) hZ w4) hy (P _ _ _ _ _ _ vm0 hZ hC.1 hE (fun x hx => hs x (hsf x hx)) F.2.2.2.2.2.2) qa qc (g := mkF X.m pc Ls (argsL.reverse ++ .ref a :: st)) rfl (by rw [F.2.2.1]; exact hz) (Steps.refl _) (argsL := argsL) (rest := st) (lenOf hpd hlen) rfl (by show 2 * 0 + _ ≤ _; omega) (hb F.2.1 hd) (fun _ _ => ⟨hargs, eT, ble hk, ble hn⟩)
  exact (Go.back F eT hS hZ hown hC hF hs X2 hS2 hle hq hN G).back fun t q => stp.trans q
theorem NF.sel {C : String} {y' : MethodName} (w3 : (Jvm.Cond.selects C y' y').before a0 Z = true) : NF Z y' := fun s hZ => notFace_of_selects (args := #[]) (mvT (s := s) hZ w3)
theorem g_invokevirtual {ix : Nat} {C : String} {y' : MethodName} {as' : Array Value} {kc' ks' : Nat} {Q' : Option Value → Heap → Prop} (sfc : List Addr) {a : Addr} (argsL : List Value) {ps : List FieldType} {r : Option FieldType} (hd : decode bs pc = .ok (.invokevirtual ix, 3)) (hp : pc + 3 = pc')
    (w1 : (Jvm.Cond.methodLink y.cls ix y').before a0 Z = true) (w2 : (Jvm.Cond.declares y').before a0 Z = true) (w3 : (Jvm.Cond.selects C y' y').before a0 Z = true) (w4 : (Jvm.Cond.instanceMethod y').before a0 Z = true) (hy : y'.cls ≠ "java/lang/invoke/MethodHandle" ∧ y'.cls ≠ "java/lang/invoke/VarHandle")
    (E : Exa Z h a C) (P : Pay X.l R y' (st.map fun v => v.category).sum as' Z a0 EL nw sfc h kc' ks' Q') (hpd : parseMethodDescriptor y'.desc = some ⟨ps, r⟩) (hlen : argsL.length = ps.length) (hargs : (Value.ref a :: argsL).toArray = as') (hz : Ls.size = ml) (hk : Nat.ble (k + kc') R.cells = true) (hn : Nat.ble (n + ks') R.slots = true) (hsf : ∀ x ∈ sfc, x ∈ sf)
    (G : ∀ v h', Q' v h' → h.size ≤ h'.size → Go X R Z a0 EL nw y bs ml rt Q kc ks sf h' (k + kc') (n + ks') (mkF X.m pc' Ls (v.toList ++ st))) : Go X R Z a0 EL nw y bs ml rt Q kc ks sf h k n (mkF X.m pc Ls (argsL.reverse ++ .ref a :: st)) :=
  g_invokevirtualN sfc argsL hd hp w1 w2 w3 w4 hy (NF.sel w3) E P hpd hlen hargs hz hk hn hsf G
end Kit
end Own
open Own
namespace Own
open Jvm Jvm.ClassFile Sem Op Lib Jvm.Free Jvm.Stand Jvm.LawKit Jvm.RoadKit Bundle
theorem in0 {P : Int32 → Prop} : ∀ c ∈ ([] : List Int32), P c := fun _ q => nomatch q
theorem inS {P : Int32 → Prop} {c : Int32} {cs : List Int32} (q : P c) (r : ∀ x ∈ cs, P x) : ∀ x ∈ c :: cs, P x := fun x z => (List.mem_cons.mp z).elim (fun u => u ▸ q) (r x)
theorem i32_nat {c : Int32} (h0 : ¬ c < 0) : (c.toBitVec.toNat : Int) = c.toInt ∧ c.toBitVec.toNat < 2147483648 := by
  have h := c.toBitVec.isLt
  have e : c.toInt = c.toBitVec.toInt := rfl
  rw [Int32.lt_iff_toInt_lt] at h0
  have z : (0 : Int32).toInt = 0 := rfl
  rw [BitVec.toInt_eq_toNat_cond] at e
  split at e <;> omega
theorem c16_of {c : Int32} (h0 : ¬ c < 0) (h1 : ¬ (65535 : Int32) < c) : c.toUInt32.toUInt16.toUInt32.toInt32 = c := by
  obtain ⟨e, -⟩ := i32_nat h0
  have u : c.toInt ≤ 65535 := by
    rw [Int32.lt_iff_toInt_lt] at h1
    have z : (65535 : Int32).toInt = 65535 := rfl
    omega
  apply Int32.toBitVec_inj.mp
  apply BitVec.eq_of_toNat_eq
  show ((c.toBitVec.setWidth 16).setWidth 32).toNat = c.toBitVec.toNat
  rw [BitVec.toNat_setWidth, BitVec.toNat_setWidth]
  omega
theorem and_lt {x : Int32} (k : Nat) (hk : k < 2147483648) : ¬ (x &&& Int32.ofNat k) < 0 ∧ (x &&& Int32.ofNat k).toInt ≤ k := by
  have h : (x &&& Int32.ofNat k).toBitVec.toNat ≤ k := by
    rw [Int32.toBitVec_and, BitVec.toNat_and]
    refine Nat.le_trans Nat.and_le_right ?_
    show (BitVec.ofNat 32 k).toNat ≤ k
    rw [BitVec.toNat_ofNat]
    exact Nat.mod_le _ _
  have e : (x &&& Int32.ofNat k).toInt = (x &&& Int32.ofNat k).toBitVec.toInt := rfl
  rw [BitVec.toInt_eq_toNat_cond] at e
  have z : (0 : Int32).toInt = 0 := rfl
  rw [Int32.lt_iff_toInt_lt, z]
  split at e <;> omega
theorem and255 (x : Int32) : ¬ (x &&& 255) < 0 ∧ ¬ (255 : Int32) < (x &&& 255) := by
  obtain ⟨h1, h2⟩ := and_lt (x := x) 255 (by decide)
  refine ⟨h1, ?_⟩
  rw [Int32.lt_iff_toInt_lt]
  have z : (255 : Int32).toInt = 255 := rfl
  rw [z]
  have h2 : (x &&& 255).toInt ≤ 255 := h2
  omega
theorem to65 {c : Int32} (h : ¬ (255 : Int32) < c) : ¬ (65535 : Int32) < c := by
  rw [Int32.lt_iff_toInt_lt] at h ⊢
  have z : (255 : Int32).toInt = 255 := rfl
  have z' : (65535 : Int32).toInt = 65535 := rfl
  omega
/-- (char) (x & 255) -/
theorem c255 (x : Int32) : (x &&& 255).toUInt32.toUInt16.toUInt32.toInt32 = (x &&& 255) := c16_of (and255 x).1 (to65 (and255 x).2)
theorem nar_c (x : Int32) : nar .char x = x.toUInt32.toUInt16.toUInt32.toInt32 := rfl
theorem nar8 {c : Int32} (h : ¬ c < 0 ∧ ¬ (255 : Int32) < c) : nar .char c = c := c16_of h.1 (to65 h.2)
theorem nar16 {c : Int32} (h : ¬ c < 0 ∧ ¬ (65535 : Int32) < c) : nar .char c = c := c16_of h.1 h.2
theorem c16_range (x : Int32) : ¬ x.toUInt32.toUInt16.toUInt32.toInt32 < 0 ∧ ¬ (65535 : Int32) < x.toUInt32.toUInt16.toUInt32.toInt32 := by
  have e : (x.toUInt32.toUInt16.toUInt32.toInt32).toInt = ((x.toBitVec.setWidth 16).setWidth 32).toInt := rfl
  rw [BitVec.toInt_eq_toNat_cond, BitVec.toNat_setWidth, BitVec.toNat_setWidth] at e
  have z : (0 : Int32).toInt = 0 := rfl
  have z' : (65535 : Int32).toInt = 65535 := rfl
  rw [Int32.lt_iff_toInt_lt, Int32.lt_iff_toInt_lt, z, z']
  split at e <;> omega
theorem nar_idem (x : Int32) : nar .char (x.toUInt32.toUInt16.toUInt32.toInt32) = x.toUInt32.toUInt16.toUInt32.toInt32 := nar16 (c16_range x)
theorem ok8 (x : Int32) : ¬ (x &&& 255).toUInt32.toUInt16.toUInt32.toInt32 < 0 ∧ ¬ (255 : Int32) < (x &&& 255).toUInt32.toUInt16.toUInt32.toInt32 := by rw [c255]; exact and255 x
theorem and_small {x : Int32} {P : Int32 → Prop} (k : Nat) (hk : k < 2147483648) (h : ∀ i : Nat, i ≤ k → P (Int32.ofNat i)) : P (x &&& Int32.ofNat k) := by
  obtain ⟨h1, h2⟩ := and_lt (x := x) k hk
  obtain ⟨e, -⟩ := i32_nat h1
  have := h (x &&& Int32.ofNat k).toBitVec.toNat (by omega)
  have e2 : Int32.ofNat (x &&& Int32.ofNat k).toBitVec.toNat = (x &&& Int32.ofNat k) := by
    apply Int32.toBitVec_inj.mp
    show BitVec.ofNat 32 _ = _
    rw [BitVec.ofNat_toNat]; simp
  rw [e2] at this
  exact this
theorem toInt_ofNat {a : Nat} (ha : a < 2147483648) : (Int32.ofNat a).toInt = a := Int32.toInt_ofNat_small (by omega)
theorem ofNat_lt {a b : Nat} (ha : a < 2147483648) (hb : b < 2147483648) : Int32.ofNat a < Int32.ofNat b ↔ a < b := by
  rw [Int32.lt_iff_toInt_lt, toInt_ofNat ha, toInt_ofNat hb]; omega
theorem ofNat_nn {a : Nat} (ha : a < 2147483648) : ¬ Int32.ofNat a < 0 := by
  rw [Int32.lt_iff_toInt_lt, toInt_ofNat ha]
  have z : (0 : Int32).toInt = 0 := rfl
  omega
theorem ofNat_clamp {a : Nat} (ha : a < 2147483648) : (Int32.ofNat a).toNatClampNeg = a := by
  show (Int32.ofNat a).toInt.toNat = a
  rw [toInt_ofNat ha]; rfl
theorem nn_ofNat {c : Int32} (h : ¬ c < 0) : ∃ m : Nat, m < 2147483648 ∧ c = Int32.ofNat m := by
  have hh : ¬ c < 0 := h
  have b := c.toBitVec.isLt
  have e : c.toInt = c.toBitVec.toInt := rfl
  rw [Int32.lt_iff_toInt_lt] at hh
  have z : (0 : Int32).toInt = 0 := rfl
  rw [BitVec.toInt_eq_toNat_cond] at e
  refine ⟨c.toBitVec.toNat, by split at e <;> omega, ?_⟩
  apply Int32.toBitVec_inj.mp
  show _ = BitVec.ofNat 32 _
  rw [BitVec.ofNat_toNat]; simp
theorem ofNat_succ (a : Nat) : Int32.ofNat a + Int32.ofInt 1 = Int32.ofNat (a + 1) := by
  apply Int32.toBitVec_inj.mp
  show BitVec.ofNat 32 a + BitVec.ofInt 32 1 = BitVec.ofNat 32 (a + 1)
  apply BitVec.eq_of_toNat_eq
  simp [BitVec.toNat_add, BitVec.toNat_ofNat]
theorem ok8L (y : Int64) : ¬ (y &&& 255).toInt32.toUInt32.toUInt16.toUInt32.toInt32 < 0 ∧ ¬ (255 : Int32) < (y &&& 255).toInt32.toUInt32.toUInt16.toUInt32.toInt32 := by
  have b : (y.toBitVec &&& (255 : BitVec 64)).toNat ≤ 255 := by
    rw [BitVec.toNat_and]
    exact Nat.and_le_right
  have e : (y &&& 255).toInt32.toInt = ((y.toBitVec &&& (255 : BitVec 64)).signExtend 32).toInt := rfl
  rw [BitVec.signExtend_eq_setWidth_of_le _ (by decide)] at e
  rw [BitVec.toInt_eq_toNat_cond, BitVec.toNat_setWidth] at e
  have z : (0 : Int32).toInt = 0 := rfl
  have z' : (255 : Int32).toInt = 255 := rfl
  have h : ¬ (y &&& 255).toInt32 < 0 ∧ ¬ (255 : Int32) < (y &&& 255).toInt32 := by
    rw [Int32.lt_iff_toInt_lt, Int32.lt_iff_toInt_lt, z, z']
    split at e <;> omega
  rw [c16_of h.1 (to65 h.2)]
  exact h
end Own
namespace Own
open Jvm Jvm.ClassFile Sem Op Lib Jvm.Free Jvm.Stand Jvm.LawKit Jvm.RoadKit Bundle
section Strs
variable {X : Cx} {l : Launch} {R : Room} {Z : State} {a0 : Array Value} {EL : List (String × Nat)} {nw : Bool} {sf : List Addr} {h h' : Heap} {W : Nat} {x x' b : Addr} {cs ds : List Int32}
/-- at x stands a String that spells cs -/
def Str (Z : State) (h : Heap) (x : Addr) (cs : List Int32) : Prop :=
  Exa Z h x "java/lang/String" ∧ ∃ (t : Addr) (kb : ClassId) (cd N2 : Int32) (vs : List Value), Fld Z h x "java/lang/String" "value" "[B" (.ref t) ∧ Fld Z h x "java/lang/String" "coder" "B" (.int cd) ∧ Arv Z h t kb .byte N2 vs (.int 0) ∧ StrChars.Road.CodA cs cd N2 vs ∧ (∀ c ∈ cs, ¬ c < 0 ∧ ¬ (65535 : Int32) < c) ∧ cs.length ≤ 4000
theorem Str.ext (S : Str Z h x cs) (E : Ext h h') : Str Z h' x cs := by
  obtain ⟨E1, t, kb, cd, N2, vs, h1, h2, h3, r⟩ := S
  exact ⟨E1.ext E, t, kb, cd, N2, vs, h1.ext E, h2.ext E, h3.ext E, r⟩
theorem Str.exa (S : Str Z h x cs) : Exa Z h x "java/lang/String" := S.1
theorem Str.lt (S : Str Z h x cs) : x < h.size := S.1.lt
theorem up255 (q : ∀ c ∈ cs, ¬ c < 0 ∧ ¬ (255 : Int32) < c) : ∀ c ∈ cs, ¬ c < 0 ∧ ¬ (65535 : Int32) < c := fun c hc => ⟨(q c hc).1, fun u => (q c hc).2 (by rw [Int32.lt_iff_toInt_lt] at u ⊢; have e1 : (65535 : Int32).toInt = 65535 := rfl; have e2 : (255 : Int32).toInt = 255 := rfl; omega)⟩
theorem Str.of_lit {kb : ClassId} {z : Int32} {vs : List Value} {t : Addr} (E : Exa Z h x "java/lang/String") (C : Fld Z h x "java/lang/String" "coder" "B" (.int 0)) (V : Fld Z h x "java/lang/String" "value" "[B" (.ref t)) (A : Arv Z h t kb .byte z vs (.int 0)) (hz : z = Int32.ofNat cs.length) (hv : vs = cs.map fun c => Value.int (StrChars.lo8 c)) (hc : ∀ c ∈ cs, ¬ c < 0 ∧ ¬ (255 : Int32) < c) (hl : cs.length ≤ 4000) : Str Z h x cs :=
  ⟨E, t, kb, 0, z, vs, V, C, A, Or.inl ⟨rfl, hz, hv, fun c q => (hc c q).2⟩, up255 hc, hl⟩
/-- a String constant, read -/
theorem g_lit {y : MethodName} {bs : ByteArray} {ml : Nat} {rt : Option FieldType} {Q : Option Value → Heap → Prop} {kc ks k n pc pc' : Nat} {Ls : Array Slot} {st : List Value} (hnw : nw = false) {text : String} {ix : Nat} (cs : List Int32) (nn : Nat) (hd : decode bs pc = .ok (.ldc ix, 2)) (hp : pc + 2 = pc') (w : (Jvm.Cond.stringLink y.cls ix text).before a0 Z = true) (wS : ∀ a ∈ Bundle.stringAtoms, a.before a0 Z = true) (hm : (y.cls, ix) ∈ EL)
    (ht : (∀ c ∈ text.toList, c.toNat < 256) ∧ text.toList.map (fun c => Value.int (Jvm.Lit.byteI c.toNat.toUInt16)) = cs.map fun c => Value.int (StrChars.lo8 c)) (hc : ∀ c ∈ cs, ¬ c < 0 ∧ ¬ (255 : Int32) < c) (hz : ¬ Int32.ofNat cs.length < 0) (hl : (Int32.ofNat cs.length).toNatClampNeg = cs.length) (hcl : Nat.ble cs.length 4000 = true) (h4 : Nat.ble (4 * text.toList.length) nn = true) (hbig : Nat.ble nn 536870912 = true) (hk : Nat.ble (k + 2) R.cells = true) (hn : Nat.ble (n + (nn + 4)) R.slots = true)
    (G : ∀ h' a, Ext h h' → Str Z h' a cs → (∀ x ∈ sf, x ≠ a) → Go X R Z a0 EL nw y bs ml rt Q kc ks sf h' (k + 2) (n + (nn + 4)) (mkF X.m pc' Ls (.ref a :: st))) : Go X R Z a0 EL nw y bs ml rt Q kc ks sf h k n (mkF X.m pc Ls st) :=
  g_ldcS hnw (z := Int32.ofNat cs.length) hd hp w wS hm ht hz (by rw [hl, List.length_map]) h4 hbig hk hn fun h' a b kb E A1 A2 A3 A4 hne => G h' a E (Str.of_lit A1 A2 A3 A4 rfl rfl hc (ble hcl)) fun x hx => (hne x hx).1
theorem pay_new {kC : ClassId} {N z : Int32} {d v0 c0 : Value} {n : Nat} (hws : ∀ d ∈ StrChars.Road.words, d.before a0 Z = true) (wi : (Jvm.Cond.instantiable "java/lang/String" 4).before a0 Z = true) (S : Sta Z Z.heap "java/lang/String" "COMPACT_STRINGS" "Z" (.int z)) (hz : ¬ z = 0) (EZ : Ext Z.heap h) (hx0 : Z.heap.size ≤ x)
    (E : Exa Z h x "java/lang/String") (V : Fld Z h x "java/lang/String" "value" "[B" v0) (C : Fld Z h x "java/lang/String" "coder" "B" c0) (K : Arv Z h b kC .char N (cs.map Value.int) d) (hn : cs.length = n) (hN : N = Int32.ofNat n) (l0 : Nat.ble 1 n = true) (l2 : Nat.ble n 4000 = true) (hp : ∀ c ∈ cs, ¬ c < 0 ∧ ¬ (255 : Int32) < c) (hfr : Nat.ble 4 R.frames = true) (hlo : Nat.ble (W + 65) R.locals = true) :
    Pay l R ⟨"java/lang/String", "<init>", "([C)V"⟩ W #[.ref x, .ref b] Z a0 EL nw [x] h 1 n (fun v h' => v = none ∧ Keep h h' [x] ∧ Str Z h' x cs) :=
  Pay.of_back [x] (fun p e below s args len hZ => StrChars.Road.backV (n0 := Z.heap.size) hZ hws (kI := 4) wi hx0 EZ.1 E V C K (S.ext EZ) hz hn hN (ble l0) (ble l2) hp rfl (ble hfr) (ble hlo)) (fun y hy => ⟨hy, by cases List.mem_singleton.mp hy; exact hx0⟩)
    (fun v h' L q => by
      obtain ⟨e1, N1, K1, E1, C1, t, kb, -, -, -, V1, A1⟩ := q
      exact ⟨⟨e1, K1, E1, t, kb, 0, N, _, V1, C1, A1, by rw [hN]; exact StrChars.Road.codOf hn (fun c hc => (hp c hc).2), up255 hp, by rw [hn]; exact ble l2⟩, K1, N1⟩)
theorem Str.lat (T : Str Z h x cs) (hp : ∀ c ∈ cs, ¬ (255 : Int32) < c) : ∃ (t : Addr) (kb : ClassId) (N2 : Int32) (vs : List Value), Fld Z h x "java/lang/String" "value" "[B" (.ref t) ∧ Fld Z h x "java/lang/String" "coder" "B" (.int 0) ∧ Arv Z h t kb .byte N2 vs (.int 0) ∧ StrChars.Road.CodA cs 0 N2 vs ∧ (∀ c ∈ cs, ¬ c < 0 ∧ ¬ (65535 : Int32) < c) ∧ cs.length ≤ 4000 := by
  obtain ⟨E1, t, kb, cd, N2, vs, V, C, A, hc, hb, hl⟩ := T
  have e : cd = 0 := by
    rcases hc with q | ⟨-, -, -, c, q1, q2⟩
    · exact q.1
    · exact absurd q2 (hp c q1)
  subst e
  exact ⟨t, kb, N2, vs, V, C, A, hc, hb, hl⟩
end Strs
end Own
namespace Own
open Jvm Jvm.ClassFile Sem Op Lib Jvm.Free Jvm.Stand Jvm.LawKit Jvm.RoadKit Bundle
section Strs
variable {X : Cx} {l : Launch} {R : Room} {Z : State} {a0 : Array Value} {EL : List (String × Nat)} {nw : Bool} {sf : List Addr} {h h' : Heap} {W : Nat} {x x' b : Addr} {cs ds : List Int32}
theorem pay_eq {z : Int32} (heq : ∀ d ∈ StrChars.Road.wordsEq, d.before a0 Z = true) (wi : (Jvm.Cond.instantiable "java/lang/String" 4).before a0 Z = true) (S : Sta Z Z.heap "java/lang/String" "COMPACT_STRINGS" "Z" (.int z)) (hz : ¬ z = 0) (EZ : Ext Z.heap h) (T : Str Z h x cs) (T' : Str Z h x' ds) (hfr : Nat.ble 2 R.frames = true) (hlo : Nat.ble (W + 28) R.locals = true) :
    Pay l R ⟨"java/lang/String", "equals", "(Ljava/lang/Object;)Z"⟩ W #[.ref x, .ref x'] Z a0 EL nw sf h 0 0 (fun v h' => ((v = some (.int 1) ∧ cs = ds) ∨ (v = some (.int 0) ∧ ¬ cs = ds)) ∧ h' = h) := by
  obtain ⟨E1, t, kb, cd, N2, vs, V, C, A, hc, hb, hl⟩ := T
  obtain ⟨E1', t', kb', cd', N2', vs', V', C', A', hc', hb', hl'⟩ := T'
  exact Pay.pure (P := fun v => (v = some (.int 1) ∧ cs = ds) ∨ (v = some (.int 0) ∧ ¬ cs = ds)) fun p e below s args len hZ => StrChars.Road.eqW hZ heq (kI := 4) wi E1 V C A hc hb hl E1' V' C' A' hc' hb' hl' (S.ext EZ) hz (ble hfr) (ble hlo)
end Strs
end Own
theorem wl_DispatchContainsPinLaw_7 {a0 : Array Value} {Z : State} (hw : ∀ d ∈ tables_1, d.before a0 Z = true) : (Jvm.Cond.methodLink "com/example/derivant/derivant/cli/DispatchContainsPinLaw" (7 : Nat) ({ cls := "com/example/derivant/derivant/cli/DispatchContainsPinLaw", name := "mk", desc := "(J)Ljava/lang/String;" } : Jvm.MethodName)).before a0 Z = true := hw _ (List.mem_of_getElem? (i := 0) rfl)
theorem ws_DispatchContainsPinLaw_mk_lJrLjavalangString {a0 : Array Value} {Z : State} (hw : ∀ d ∈ tables_1, d.before a0 Z = true) : (Jvm.Cond.static ({ cls := "com/example/derivant/derivant/cli/DispatchContainsPinLaw", name := "mk", desc := "(J)Ljava/lang/String;" } : Jvm.MethodName)).before a0 Z = true := hw _ (List.mem_of_getElem? (i := 1) rfl)
theorem wi_DispatchContainsPinLaw {a0 : Array Value} {Z : State} (hw : ∀ d ∈ tables_1, d.before a0 Z = true) : (Jvm.Cond.initialized "com/example/derivant/derivant/cli/DispatchContainsPinLaw").before a0 Z = true := hw _ (List.mem_of_getElem? (i := 2) rfl)
theorem wb_DispatchContainsPinLaw_mk_lJrLjavalangString {a0 : Array Value} {Z : State} (hw : ∀ d ∈ tables_1, d.before a0 Z = true) : (Jvm.Cond.code ({ cls := "com/example/derivant/derivant/cli/DispatchContainsPinLaw", name := "mk", desc := "(J)Ljava/lang/String;" } : Jvm.MethodName) method_4_code (5 : Nat) (Option.some (Jvm.ClassFile.FieldType.object "java/lang/String"))).before a0 Z = true := hw _ (List.mem_of_getElem? (i := 3) rfl)
theorem wk_DispatchContainsPinLaw_29 {a0 : Array Value} {Z : State} (hw : ∀ d ∈ tables_1, d.before a0 Z = true) : (Jvm.Cond.constantLong "com/example/derivant/derivant/cli/DispatchContainsPinLaw" (29 : Nat) (3 : Int64)).before a0 Z = true := hw _ (List.mem_of_getElem? (i := 4) rfl)
theorem wk_DispatchContainsPinLaw_31 {a0 : Array Value} {Z : State} (hw : ∀ d ∈ tables_1, d.before a0 Z = true) : (Jvm.Cond.constantLong "com/example/derivant/derivant/cli/DispatchContainsPinLaw" (31 : Nat) (255 : Int64)).before a0 Z = true := hw _ (List.mem_of_getElem? (i := 5) rfl)
theorem wl_DispatchContainsPinLaw_36 {a0 : Array Value} {Z : State} (hw : ∀ d ∈ tables_1, d.before a0 Z = true) : (Jvm.Cond.methodLink "com/example/derivant/derivant/cli/DispatchContainsPinLaw" (36 : Nat) ({ cls := "java/lang/String", name := "valueOf", desc := "(C)Ljava/lang/String;" } : Jvm.MethodName)).before a0 Z = true := hw _ (List.mem_of_getElem? (i := 6) rfl)
theorem ws_String_valueOf_lCrLjavalangString {a0 : Array Value} {Z : State} (hw : ∀ d ∈ tables_1, d.before a0 Z = true) : (Jvm.Cond.static ({ cls := "java/lang/String", name := "valueOf", desc := "(C)Ljava/lang/String;" } : Jvm.MethodName)).before a0 Z = true := hw _ (List.mem_of_getElem? (i := 7) rfl)
theorem wi_String {a0 : Array Value} {Z : State} (hw : ∀ d ∈ tables_1, d.before a0 Z = true) : (Jvm.Cond.initialized "java/lang/String").before a0 Z = true := hw _ (List.mem_of_getElem? (i := 8) rfl)
theorem wb_String_valueOf_lCrLjavalangString {a0 : Array Value} {Z : State} (hw : ∀ d ∈ tables_1, d.before a0 Z = true) : (Jvm.Cond.code ({ cls := "java/lang/String", name := "valueOf", desc := "(C)Ljava/lang/String;" } : Jvm.MethodName) jdk_42_method_139_code (1 : Nat) (Option.some (Jvm.ClassFile.FieldType.object "java/lang/String"))).before a0 Z = true := hw _ (List.mem_of_getElem? (i := 9) rfl)
theorem wf_String_38 {a0 : Array Value} {Z : State} (hw : ∀ d ∈ tables_1, d.before a0 Z = true) : (Jvm.Cond.fieldLink "java/lang/String" (38 : Nat) "java/lang/String" "COMPACT_STRINGS" "Z").before a0 Z = true := hw _ (List.mem_of_getElem? (i := 10) rfl)
theorem wl_String_1015 {a0 : Array Value} {Z : State} (hw : ∀ d ∈ tables_1, d.before a0 Z = true) : (Jvm.Cond.methodLink "java/lang/String" (1015 : Nat) ({ cls := "java/lang/StringLatin1", name := "canEncode", desc := "(C)Z" } : Jvm.MethodName)).before a0 Z = true := hw _ (List.mem_of_getElem? (i := 11) rfl)
theorem ws_StringLatin1_canEncode_lCrZ {a0 : Array Value} {Z : State} (hw : ∀ d ∈ tables_1, d.before a0 Z = true) : (Jvm.Cond.static ({ cls := "java/lang/StringLatin1", name := "canEncode", desc := "(C)Z" } : Jvm.MethodName)).before a0 Z = true := hw _ (List.mem_of_getElem? (i := 12) rfl)
theorem wi_StringLatin1 {a0 : Array Value} {Z : State} (hw : ∀ d ∈ tables_1, d.before a0 Z = true) : (Jvm.Cond.initialized "java/lang/StringLatin1").before a0 Z = true := hw _ (List.mem_of_getElem? (i := 13) rfl)
theorem wb_StringLatin1_canEncode_lCrZ {a0 : Array Value} {Z : State} (hw : ∀ d ∈ tables_1, d.before a0 Z = true) : (Jvm.Cond.code ({ cls := "java/lang/StringLatin1", name := "canEncode", desc := "(C)Z" } : Jvm.MethodName) jdk_43_method_3_code (1 : Nat) (Option.some Jvm.ClassFile.FieldType.boolean)).before a0 Z = true := hw _ (List.mem_of_getElem? (i := 14) rfl)
theorem wc_String_10 {a0 : Array Value} {Z : State} (hw : ∀ d ∈ tables_1, d.before a0 Z = true) : (Jvm.Cond.classLink "java/lang/String" (10 : Nat) "java/lang/String").before a0 Z = true := hw _ (List.mem_of_getElem? (i := 15) rfl)
theorem wn_String {a0 : Array Value} {Z : State} (hw : ∀ d ∈ tables_1, d.before a0 Z = true) : (Jvm.Cond.instantiable "java/lang/String" (4 : Nat)).before a0 Z = true := hw _ (List.mem_of_getElem? (i := 16) rfl)
theorem wl_String_1018 {a0 : Array Value} {Z : State} (hw : ∀ d ∈ tables_1, d.before a0 Z = true) : (Jvm.Cond.methodLink "java/lang/String" (1018 : Nat) ({ cls := "java/lang/StringLatin1", name := "toBytes", desc := "(C)[B" } : Jvm.MethodName)).before a0 Z = true := hw _ (List.mem_of_getElem? (i := 17) rfl)
theorem ws_StringLatin1_toBytes_lCrAB {a0 : Array Value} {Z : State} (hw : ∀ d ∈ tables_1, d.before a0 Z = true) : (Jvm.Cond.static ({ cls := "java/lang/StringLatin1", name := "toBytes", desc := "(C)[B" } : Jvm.MethodName)).before a0 Z = true := hw _ (List.mem_of_getElem? (i := 18) rfl)
theorem wb_StringLatin1_toBytes_lCrAB {a0 : Array Value} {Z : State} (hw : ∀ d ∈ tables_1, d.before a0 Z = true) : (Jvm.Cond.code ({ cls := "java/lang/StringLatin1", name := "toBytes", desc := "(C)[B" } : Jvm.MethodName) jdk_43_method_46_code (1 : Nat) (Option.some (Jvm.ClassFile.FieldType.array Jvm.ClassFile.FieldType.byte))).before a0 Z = true := hw _ (List.mem_of_getElem? (i := 19) rfl)
theorem wa_byte {a0 : Array Value} {Z : State} (hw : ∀ d ∈ tables_1, d.before a0 Z = true) : (Jvm.Cond.arrayClass Jvm.ClassFile.FieldType.byte).before a0 Z = true := hw _ (List.mem_of_getElem? (i := 20) rfl)
theorem wl_String_209 {a0 : Array Value} {Z : State} (hw : ∀ d ∈ tables_1, d.before a0 Z = true) : (Jvm.Cond.methodLink "java/lang/String" (209 : Nat) ({ cls := "java/lang/String", name := "<init>", desc := "([BB)V" } : Jvm.MethodName)).before a0 Z = true := hw _ (List.mem_of_getElem? (i := 21) rfl)
theorem wm_String_init_lABBrV {a0 : Array Value} {Z : State} (hw : ∀ d ∈ tables_1, d.before a0 Z = true) : (Jvm.Cond.instanceMethod ({ cls := "java/lang/String", name := "<init>", desc := "([BB)V" } : Jvm.MethodName)).before a0 Z = true := hw _ (List.mem_of_getElem? (i := 22) rfl)
theorem wx_String_String {a0 : Array Value} {Z : State} (hw : ∀ d ∈ tables_1, d.before a0 Z = true) : (Jvm.Cond.castable "java/lang/String" "java/lang/String").before a0 Z = true := hw _ (List.mem_of_getElem? (i := 23) rfl)
theorem wb_String_init_lABBrV {a0 : Array Value} {Z : State} (hw : ∀ d ∈ tables_1, d.before a0 Z = true) : (Jvm.Cond.code ({ cls := "java/lang/String", name := "<init>", desc := "([BB)V" } : Jvm.MethodName) jdk_42_method_151_code (3 : Nat) (Option.none : Option Jvm.ClassFile.FieldType)).before a0 Z = true := hw _ (List.mem_of_getElem? (i := 24) rfl)
theorem wl_String_1 {a0 : Array Value} {Z : State} (hw : ∀ d ∈ tables_1, d.before a0 Z = true) : (Jvm.Cond.methodLink "java/lang/String" (1 : Nat) ({ cls := "java/lang/Object", name := "<init>", desc := "()V" } : Jvm.MethodName)).before a0 Z = true := hw _ (List.mem_of_getElem? (i := 25) rfl)
theorem wm_Object_init_lrV {a0 : Array Value} {Z : State} (hw : ∀ d ∈ tables_1, d.before a0 Z = true) : (Jvm.Cond.instanceMethod ({ cls := "java/lang/Object", name := "<init>", desc := "()V" } : Jvm.MethodName)).before a0 Z = true := hw _ (List.mem_of_getElem? (i := 26) rfl)
theorem wb_Object_init_lrV {a0 : Array Value} {Z : State} (hw : ∀ d ∈ tables_1, d.before a0 Z = true) : (Jvm.Cond.code ({ cls := "java/lang/Object", name := "<init>", desc := "()V" } : Jvm.MethodName) object_method_1_code (1 : Nat) (Option.none : Option Jvm.ClassFile.FieldType)).before a0 Z = true := hw _ (List.mem_of_getElem? (i := 27) rfl)
theorem wf_String_9 {a0 : Array Value} {Z : State} (hw : ∀ d ∈ tables_1, d.before a0 Z = true) : (Jvm.Cond.fieldLink "java/lang/String" (9 : Nat) "java/lang/String" "value" "[B").before a0 Z = true := hw _ (List.mem_of_getElem? (i := 28) rfl)
theorem wy_String_String_value {a0 : Array Value} {Z : State} (hw : ∀ d ∈ tables_1, d.before a0 Z = true) : (Jvm.Cond.laysFinal "java/lang/String" "java/lang/String" "value" "[B").before a0 Z = true := hw _ (List.mem_of_getElem? (i := 29) rfl)
theorem wf_String_15 {a0 : Array Value} {Z : State} (hw : ∀ d ∈ tables_1, d.before a0 Z = true) : (Jvm.Cond.fieldLink "java/lang/String" (15 : Nat) "java/lang/String" "coder" "B").before a0 Z = true := hw _ (List.mem_of_getElem? (i := 30) rfl)
theorem wy_String_String_coder {a0 : Array Value} {Z : State} (hw : ∀ d ∈ tables_1, d.before a0 Z = true) : (Jvm.Cond.laysFinal "java/lang/String" "java/lang/String" "coder" "B").before a0 Z = true := hw _ (List.mem_of_getElem? (i := 31) rfl)
theorem wc_DispatchContainsPinLaw_13 {a0 : Array Value} {Z : State} (hw : ∀ d ∈ tables_1, d.before a0 Z = true) : (Jvm.Cond.classLink "com/example/derivant/derivant/cli/DispatchContainsPinLaw" (13 : Nat) "java/lang/String").before a0 Z = true := hw _ (List.mem_of_getElem? (i := 32) rfl)
theorem wa_char {a0 : Array Value} {Z : State} (hw : ∀ d ∈ tables_1, d.before a0 Z = true) : (Jvm.Cond.arrayClass Jvm.ClassFile.FieldType.char).before a0 Z = true := hw _ (List.mem_of_getElem? (i := 33) rfl)
theorem wl_DispatchContainsPinLaw_33 {a0 : Array Value} {Z : State} (hw : ∀ d ∈ tables_1, d.before a0 Z = true) : (Jvm.Cond.methodLink "com/example/derivant/derivant/cli/DispatchContainsPinLaw" (33 : Nat) ({ cls := "java/lang/String", name := "<init>", desc := "([C)V" } : Jvm.MethodName)).before a0 Z = true := hw _ (List.mem_of_getElem? (i := 34) rfl)
theorem wm_String_init_lACrV {a0 : Array Value} {Z : State} (hw : ∀ d ∈ tables_1, d.before a0 Z = true) : (Jvm.Cond.instanceMethod ({ cls := "java/lang/String", name := "<init>", desc := "([C)V" } : Jvm.MethodName)).before a0 Z = true := hw _ (List.mem_of_getElem? (i := 35) rfl)
theorem wb_String_init_lACrV {a0 : Array Value} {Z : State} (hw : ∀ d ∈ tables_1, d.before a0 Z = true) : (Jvm.Cond.code ({ cls := "java/lang/String", name := "<init>", desc := "([C)V" } : Jvm.MethodName) jdk_42_method_3_code (2 : Nat) (Option.none : Option Jvm.ClassFile.FieldType)).before a0 Z = true := hw _ (List.mem_of_getElem? (i := 36) rfl)
theorem wl_String_27 {a0 : Array Value} {Z : State} (hw : ∀ d ∈ tables_1, d.before a0 Z = true) : (Jvm.Cond.methodLink "java/lang/String" (27 : Nat) ({ cls := "java/lang/String", name := "<init>", desc := "([CIILjava/lang/Void;)V" } : Jvm.MethodName)).before a0 Z = true := hw _ (List.mem_of_getElem? (i := 37) rfl)
theorem wm_String_init_lACIILjavalangVoidrV {a0 : Array Value} {Z : State} (hw : ∀ d ∈ tables_1, d.before a0 Z = true) : (Jvm.Cond.instanceMethod ({ cls := "java/lang/String", name := "<init>", desc := "([CIILjava/lang/Void;)V" } : Jvm.MethodName)).before a0 Z = true := hw _ (List.mem_of_getElem? (i := 38) rfl)
theorem wb_String_init_lACIILjavalangVoidrV {a0 : Array Value} {Z : State} (hw : ∀ d ∈ tables_1, d.before a0 Z = true) : (Jvm.Cond.code ({ cls := "java/lang/String", name := "<init>", desc := "([CIILjava/lang/Void;)V" } : Jvm.MethodName) jdk_42_method_149_code (6 : Nat) (Option.none : Option Jvm.ClassFile.FieldType)).before a0 Z = true := hw _ (List.mem_of_getElem? (i := 39) rfl)
theorem wt_String_7 {a0 : Array Value} {Z : State} (hw : ∀ d ∈ tables_1, d.before a0 Z = true) : (Jvm.Cond.stringLink "java/lang/String" (7 : Nat) "").before a0 Z = true := hw _ (List.mem_of_getElem? (i := 40) rfl)
theorem w41 {a0 : Array Value} {Z : State} (hw : ∀ d ∈ tables_1, d.before a0 Z = true) : (Jvm.Cond.soleField "java/lang/String" "value").before a0 Z = true := hw _ (List.mem_of_getElem? (i := 41) rfl)
theorem w42 {a0 : Array Value} {Z : State} (hw : ∀ d ∈ tables_1, d.before a0 Z = true) : (Jvm.Cond.soleField "java/lang/String" "coder").before a0 Z = true := hw _ (List.mem_of_getElem? (i := 42) rfl)
theorem wo_String {a0 : Array Value} {Z : State} (hw : ∀ d ∈ tables_1, d.before a0 Z = true) : (Jvm.Cond.arrayOver (Jvm.ClassFile.FieldType.object "java/lang/String")).before a0 Z = true := hw _ (List.mem_of_getElem? (i := 43) rfl)
theorem wl_DispatchContainsPinLaw_15 {a0 : Array Value} {Z : State} (hw : ∀ d ∈ tables_1, d.before a0 Z = true) : (Jvm.Cond.methodLink "com/example/derivant/derivant/cli/DispatchContainsPinLaw" (15 : Nat) ({ cls := "com/example/derivant/derivant/cli/DispatchContainsPinLaw", name := "hit", desc := "([Ljava/lang/String;IILjava/lang/String;)Z" } : Jvm.MethodName)).before a0 Z = true := hw _ (List.mem_of_getElem? (i := 44) rfl)
theorem ws_DispatchContainsPinLaw_hit_lALjavalangStringIILjavalangStringrZ {a0 : Array Value} {Z : State} (hw : ∀ d ∈ tables_1, d.before a0 Z = true) : (Jvm.Cond.static ({ cls := "com/example/derivant/derivant/cli/DispatchContainsPinLaw", name := "hit", desc := "([Ljava/lang/String;IILjava/lang/String;)Z" } : Jvm.MethodName)).before a0 Z = true := hw _ (List.mem_of_getElem? (i := 45) rfl)
theorem wb_DispatchContainsPinLaw_hit_lALjavalangStringIILjavalangStringrZ {a0 : Array Value} {Z : State} (hw : ∀ d ∈ tables_1, d.before a0 Z = true) : (Jvm.Cond.code ({ cls := "com/example/derivant/derivant/cli/DispatchContainsPinLaw", name := "hit", desc := "([Ljava/lang/String;IILjava/lang/String;)Z" } : Jvm.MethodName) method_3_code (4 : Nat) (Option.some Jvm.ClassFile.FieldType.boolean)).before a0 Z = true := hw _ (List.mem_of_getElem? (i := 46) rfl)
theorem wl_DispatchContainsPinLaw_19 {a0 : Array Value} {Z : State} (hw : ∀ d ∈ tables_1, d.before a0 Z = true) : (Jvm.Cond.methodLink "com/example/derivant/derivant/cli/DispatchContainsPinLaw" (19 : Nat) ({ cls := "com/example/derivant/derivant/cli/Dispatch", name := "contains", desc := "([Ljava/lang/String;ILjava/lang/String;)Z" } : Jvm.MethodName)).before a0 Z = true := hw _ (List.mem_of_getElem? (i := 47) rfl)
theorem ws_Dispatch_contains_lALjavalangStringILjavalangStringrZ {a0 : Array Value} {Z : State} (hw : ∀ d ∈ tables_1, d.before a0 Z = true) : (Jvm.Cond.static ({ cls := "com/example/derivant/derivant/cli/Dispatch", name := "contains", desc := "([Ljava/lang/String;ILjava/lang/String;)Z" } : Jvm.MethodName)).before a0 Z = true := hw _ (List.mem_of_getElem? (i := 48) rfl)
theorem wi_Dispatch {a0 : Array Value} {Z : State} (hw : ∀ d ∈ tables_1, d.before a0 Z = true) : (Jvm.Cond.initialized "com/example/derivant/derivant/cli/Dispatch").before a0 Z = true := hw _ (List.mem_of_getElem? (i := 49) rfl)
theorem wb_Dispatch_contains_lALjavalangStringILjavalangStringrZ {a0 : Array Value} {Z : State} (hw : ∀ d ∈ tables_1, d.before a0 Z = true) : (Jvm.Cond.code ({ cls := "com/example/derivant/derivant/cli/Dispatch", name := "contains", desc := "([Ljava/lang/String;ILjava/lang/String;)Z" } : Jvm.MethodName) prog_11_method_13_code (4 : Nat) (Option.some Jvm.ClassFile.FieldType.boolean)).before a0 Z = true := hw _ (List.mem_of_getElem? (i := 50) rfl)
theorem wl_String_177 {a0 : Array Value} {Z : State} (hw : ∀ d ∈ tables_1, d.before a0 Z = true) : (Jvm.Cond.methodLink "java/lang/String" (177 : Nat) ({ cls := "java/lang/StringUTF16", name := "compress", desc := "([CII)[B" } : Jvm.MethodName)).before a0 Z = true := hw _ (List.mem_of_getElem? (i := 51) rfl)
theorem ws_StringUTF16_compress_lACIIrAB {a0 : Array Value} {Z : State} (hw : ∀ d ∈ tables_1, d.before a0 Z = true) : (Jvm.Cond.static ({ cls := "java/lang/StringUTF16", name := "compress", desc := "([CII)[B" } : Jvm.MethodName)).before a0 Z = true := hw _ (List.mem_of_getElem? (i := 52) rfl)
theorem wi_StringUTF16 {a0 : Array Value} {Z : State} (hw : ∀ d ∈ tables_1, d.before a0 Z = true) : (Jvm.Cond.initialized "java/lang/StringUTF16").before a0 Z = true := hw _ (List.mem_of_getElem? (i := 53) rfl)
theorem wb_StringUTF16_compress_lACIIrAB {a0 : Array Value} {Z : State} (hw : ∀ d ∈ tables_1, d.before a0 Z = true) : (Jvm.Cond.code ({ cls := "java/lang/StringUTF16", name := "compress", desc := "([CII)[B" } : Jvm.MethodName) jdk_52_method_16_code (6 : Nat) (Option.some (Jvm.ClassFile.FieldType.array Jvm.ClassFile.FieldType.byte))).before a0 Z = true := hw _ (List.mem_of_getElem? (i := 54) rfl)
theorem wl_StringUTF16_115 {a0 : Array Value} {Z : State} (hw : ∀ d ∈ tables_1, d.before a0 Z = true) : (Jvm.Cond.methodLink "java/lang/StringUTF16" (115 : Nat) ({ cls := "java/lang/StringUTF16", name := "compress", desc := "([CI[BII)I" } : Jvm.MethodName)).before a0 Z = true := hw _ (List.mem_of_getElem? (i := 55) rfl)
theorem ws_StringUTF16_compress_lACIABIIrI {a0 : Array Value} {Z : State} (hw : ∀ d ∈ tables_1, d.before a0 Z = true) : (Jvm.Cond.static ({ cls := "java/lang/StringUTF16", name := "compress", desc := "([CI[BII)I" } : Jvm.MethodName)).before a0 Z = true := hw _ (List.mem_of_getElem? (i := 56) rfl)
theorem wb_StringUTF16_compress_lACIABIIrI {a0 : Array Value} {Z : State} (hw : ∀ d ∈ tables_1, d.before a0 Z = true) : (Jvm.Cond.code ({ cls := "java/lang/StringUTF16", name := "compress", desc := "([CI[BII)I" } : Jvm.MethodName) jdk_52_method_21_code (7 : Nat) (Option.some Jvm.ClassFile.FieldType.int)).before a0 Z = true := hw _ (List.mem_of_getElem? (i := 57) rfl)
theorem wl_String_47 {a0 : Array Value} {Z : State} (hw : ∀ d ∈ tables_1, d.before a0 Z = true) : (Jvm.Cond.methodLink "java/lang/String" (47 : Nat) ({ cls := "java/lang/StringUTF16", name := "coderFromArrayLen", desc := "([BI)B" } : Jvm.MethodName)).before a0 Z = true := hw _ (List.mem_of_getElem? (i := 58) rfl)
theorem ws_StringUTF16_coderFromArrayLen_lABIrB {a0 : Array Value} {Z : State} (hw : ∀ d ∈ tables_1, d.before a0 Z = true) : (Jvm.Cond.static ({ cls := "java/lang/StringUTF16", name := "coderFromArrayLen", desc := "([BI)B" } : Jvm.MethodName)).before a0 Z = true := hw _ (List.mem_of_getElem? (i := 59) rfl)
theorem wb_StringUTF16_coderFromArrayLen_lABIrB {a0 : Array Value} {Z : State} (hw : ∀ d ∈ tables_1, d.before a0 Z = true) : (Jvm.Cond.code ({ cls := "java/lang/StringUTF16", name := "coderFromArrayLen", desc := "([BI)B" } : Jvm.MethodName) jdk_52_method_15_code (2 : Nat) (Option.some Jvm.ClassFile.FieldType.byte)).before a0 Z = true := hw _ (List.mem_of_getElem? (i := 60) rfl)
theorem wl_DispatchContainsPinLaw_25 {a0 : Array Value} {Z : State} (hw : ∀ d ∈ tables_1, d.before a0 Z = true) : (Jvm.Cond.methodLink "com/example/derivant/derivant/cli/DispatchContainsPinLaw" (25 : Nat) ({ cls := "java/lang/String", name := "equals", desc := "(Ljava/lang/Object;)Z" } : Jvm.MethodName)).before a0 Z = true := hw _ (List.mem_of_getElem? (i := 61) rfl)
theorem wd_String_equals_lLjavalangObjectrZ {a0 : Array Value} {Z : State} (hw : ∀ d ∈ tables_1, d.before a0 Z = true) : (Jvm.Cond.declares ({ cls := "java/lang/String", name := "equals", desc := "(Ljava/lang/Object;)Z" } : Jvm.MethodName)).before a0 Z = true := hw _ (List.mem_of_getElem? (i := 62) rfl)
theorem wm_String_equals_lLjavalangObjectrZ {a0 : Array Value} {Z : State} (hw : ∀ d ∈ tables_1, d.before a0 Z = true) : (Jvm.Cond.instanceMethod ({ cls := "java/lang/String", name := "equals", desc := "(Ljava/lang/Object;)Z" } : Jvm.MethodName)).before a0 Z = true := hw _ (List.mem_of_getElem? (i := 63) rfl)
theorem wv_String_String_equals_lLjavalangObjectrZ {a0 : Array Value} {Z : State} (hw : ∀ d ∈ tables_1, d.before a0 Z = true) : (Jvm.Cond.selects "java/lang/String" ({ cls := "java/lang/String", name := "equals", desc := "(Ljava/lang/Object;)Z" } : Jvm.MethodName) ({ cls := "java/lang/String", name := "equals", desc := "(Ljava/lang/Object;)Z" } : Jvm.MethodName)).before a0 Z = true := hw _ (List.mem_of_getElem? (i := 64) rfl)
theorem wb_String_equals_lLjavalangObjectrZ {a0 : Array Value} {Z : State} (hw : ∀ d ∈ tables_1, d.before a0 Z = true) : (Jvm.Cond.code ({ cls := "java/lang/String", name := "equals", desc := "(Ljava/lang/Object;)Z" } : Jvm.MethodName) jdk_42_method_66_code (3 : Nat) (Option.some Jvm.ClassFile.FieldType.boolean)).before a0 Z = true := hw _ (List.mem_of_getElem? (i := 65) rfl)
theorem wl_String_541 {a0 : Array Value} {Z : State} (hw : ∀ d ∈ tables_1, d.before a0 Z = true) : (Jvm.Cond.methodLink "java/lang/String" (541 : Nat) ({ cls := "java/lang/StringLatin1", name := "equals", desc := "([B[B)Z" } : Jvm.MethodName)).before a0 Z = true := hw _ (List.mem_of_getElem? (i := 66) rfl)
theorem ws_StringLatin1_equals_lABABrZ {a0 : Array Value} {Z : State} (hw : ∀ d ∈ tables_1, d.before a0 Z = true) : (Jvm.Cond.static ({ cls := "java/lang/StringLatin1", name := "equals", desc := "([B[B)Z" } : Jvm.MethodName)).before a0 Z = true := hw _ (List.mem_of_getElem? (i := 67) rfl)
theorem wb_StringLatin1_equals_lABABrZ {a0 : Array Value} {Z : State} (hw : ∀ d ∈ tables_1, d.before a0 Z = true) : (Jvm.Cond.code ({ cls := "java/lang/StringLatin1", name := "equals", desc := "([B[B)Z" } : Jvm.MethodName) jdk_43_method_13_code (3 : Nat) (Option.some Jvm.ClassFile.FieldType.boolean)).before a0 Z = true := hw _ (List.mem_of_getElem? (i := 68) rfl)
theorem wl_Dispatch_160 {a0 : Array Value} {Z : State} (hw : ∀ d ∈ tables_1, d.before a0 Z = true) : (Jvm.Cond.methodLink "com/example/derivant/derivant/cli/Dispatch" (160 : Nat) ({ cls := "java/lang/String", name := "equals", desc := "(Ljava/lang/Object;)Z" } : Jvm.MethodName)).before a0 Z = true := hw _ (List.mem_of_getElem? (i := 69) rfl)
theorem dm4_0 : decode method_4_code 0 = .ok (.lload_n 0, 1) := by decide +kernel
theorem dm4_1 : decode method_4_code 1 = .ok (.ldc2_w 29, 3) := by decide +kernel
theorem dm4_4 : decode method_4_code 4 = .ok (.land, 1) := by decide +kernel
theorem dm4_5 : decode method_4_code 5 = .ok (.ldc2_w 29, 3) := by decide +kernel
theorem dm4_8 : decode method_4_code 8 = .ok (.lrem, 1) := by decide +kernel
theorem dm4_9 : decode method_4_code 9 = .ok (.l2i, 1) := by decide +kernel
theorem dm4_10 : decode method_4_code 10 = .ok (.istore_n 2, 1) := by decide +kernel
theorem dm4_11 : decode method_4_code 11 = .ok (.lload_n 0, 1) := by decide +kernel
theorem dm4_12 : decode method_4_code 12 = .ok (.iconst 2, 1) := by decide +kernel
theorem dm4_13 : decode method_4_code 13 = .ok (.lushr, 1) := by decide +kernel
theorem dm4_14 : decode method_4_code 14 = .ok (.ldc2_w 31, 3) := by decide +kernel
theorem dm4_17 : decode method_4_code 17 = .ok (.land, 1) := by decide +kernel
theorem dm4_18 : decode method_4_code 18 = .ok (.l2i, 1) := by decide +kernel
theorem dm4_19 : decode method_4_code 19 = .ok (.i2c, 1) := by decide +kernel
theorem dm4_20 : decode method_4_code 20 = .ok (.istore_n 3, 1) := by decide +kernel
theorem dm4_21 : decode method_4_code 21 = .ok (.lload_n 0, 1) := by decide +kernel
theorem dm4_22 : decode method_4_code 22 = .ok (.bipush 10, 2) := by decide +kernel
theorem dm4_24 : decode method_4_code 24 = .ok (.lushr, 1) := by decide +kernel
theorem dm4_25 : decode method_4_code 25 = .ok (.ldc2_w 31, 3) := by decide +kernel
theorem dm4_28 : decode method_4_code 28 = .ok (.land, 1) := by decide +kernel
theorem dm4_29 : decode method_4_code 29 = .ok (.l2i, 1) := by decide +kernel
theorem dm4_30 : decode method_4_code 30 = .ok (.i2c, 1) := by decide +kernel
theorem dm4_31 : decode method_4_code 31 = .ok (.istore 4, 2) := by decide +kernel
theorem dm4_33 : decode method_4_code 33 = .ok (.iload_n 2, 1) := by decide +kernel
theorem dm4_34 : decode method_4_code 34 = .ok (.ifCond .ne 14, 3) := by decide +kernel
theorem dm4_37 : decode method_4_code 37 = .ok (.new 13, 3) := by decide +kernel
theorem dm4_40 : decode method_4_code 40 = .ok (.dup, 1) := by decide +kernel
theorem dm4_41 : decode method_4_code 41 = .ok (.iconst 0, 1) := by decide +kernel
theorem dm4_42 : decode method_4_code 42 = .ok (.newarray .char, 2) := by decide +kernel
theorem dm4_44 : decode method_4_code 44 = .ok (.invokespecial 33, 3) := by decide +kernel
theorem dm4_47 : decode method_4_code 47 = .ok (.areturn, 1) := by decide +kernel
theorem dm4_48 : decode method_4_code 48 = .ok (.iload_n 2, 1) := by decide +kernel
theorem dm4_49 : decode method_4_code 49 = .ok (.iconst 1, 1) := by decide +kernel
theorem dm4_50 : decode method_4_code 50 = .ok (.if_icmp .ne 8, 3) := by decide +kernel
theorem dm4_53 : decode method_4_code 53 = .ok (.iload_n 3, 1) := by decide +kernel
theorem dm4_54 : decode method_4_code 54 = .ok (.invokestatic 36, 3) := by decide +kernel
theorem dm4_57 : decode method_4_code 57 = .ok (.areturn, 1) := by decide +kernel
theorem dm4_58 : decode method_4_code 58 = .ok (.new 13, 3) := by decide +kernel
theorem dm4_61 : decode method_4_code 61 = .ok (.dup, 1) := by decide +kernel
theorem dm4_62 : decode method_4_code 62 = .ok (.iconst 2, 1) := by decide +kernel
theorem dm4_63 : decode method_4_code 63 = .ok (.newarray .char, 2) := by decide +kernel
theorem dm4_65 : decode method_4_code 65 = .ok (.dup, 1) := by decide +kernel
theorem dm4_66 : decode method_4_code 66 = .ok (.iconst 0, 1) := by decide +kernel
theorem dm4_67 : decode method_4_code 67 = .ok (.iload_n 3, 1) := by decide +kernel
theorem dm4_68 : decode method_4_code 68 = .ok (.castore, 1) := by decide +kernel
theorem dm4_69 : decode method_4_code 69 = .ok (.dup, 1) := by decide +kernel
theorem dm4_70 : decode method_4_code 70 = .ok (.iconst 1, 1) := by decide +kernel
theorem dm4_71 : decode method_4_code 71 = .ok (.iload 4, 2) := by decide +kernel
theorem dm4_73 : decode method_4_code 73 = .ok (.castore, 1) := by decide +kernel
theorem dm4_74 : decode method_4_code 74 = .ok (.invokespecial 33, 3) := by decide +kernel
theorem dm4_77 : decode method_4_code 77 = .ok (.areturn, 1) := by decide +kernel
theorem dj42_139_0 : decode jdk_42_method_139_code 0 = .ok (.getstatic 38, 3) := by decide +kernel
theorem dj42_139_3 : decode jdk_42_method_139_code 3 = .ok (.ifCond .eq 23, 3) := by decide +kernel
theorem dj42_139_6 : decode jdk_42_method_139_code 6 = .ok (.iload_n 0, 1) := by decide +kernel
theorem dj42_139_7 : decode jdk_42_method_139_code 7 = .ok (.invokestatic 1015, 3) := by decide +kernel
theorem dj42_139_10 : decode jdk_42_method_139_code 10 = .ok (.ifCond .eq 16, 3) := by decide +kernel
theorem dj42_139_13 : decode jdk_42_method_139_code 13 = .ok (.new 10, 3) := by decide +kernel
theorem dj42_139_16 : decode jdk_42_method_139_code 16 = .ok (.dup, 1) := by decide +kernel
theorem dj42_139_17 : decode jdk_42_method_139_code 17 = .ok (.iload_n 0, 1) := by decide +kernel
theorem dj42_139_18 : decode jdk_42_method_139_code 18 = .ok (.invokestatic 1018, 3) := by decide +kernel
theorem dj42_139_21 : decode jdk_42_method_139_code 21 = .ok (.iconst 0, 1) := by decide +kernel
theorem dj42_139_22 : decode jdk_42_method_139_code 22 = .ok (.invokespecial 209, 3) := by decide +kernel
theorem dj42_139_25 : decode jdk_42_method_139_code 25 = .ok (.areturn, 1) := by decide +kernel
theorem dj42_139_26 : decode jdk_42_method_139_code 26 = .ok (.new 10, 3) := by decide +kernel
theorem dj42_139_29 : decode jdk_42_method_139_code 29 = .ok (.dup, 1) := by decide +kernel
theorem dj42_139_30 : decode jdk_42_method_139_code 30 = .ok (.iload_n 0, 1) := by decide +kernel
theorem dj42_139_31 : decode jdk_42_method_139_code 31 = .ok (.invokestatic 1021, 3) := by decide +kernel
theorem dj42_139_34 : decode jdk_42_method_139_code 34 = .ok (.iconst 1, 1) := by decide +kernel
theorem dj42_139_35 : decode jdk_42_method_139_code 35 = .ok (.invokespecial 209, 3) := by decide +kernel
theorem dj42_139_38 : decode jdk_42_method_139_code 38 = .ok (.areturn, 1) := by decide +kernel
theorem dj43_3_0 : decode jdk_43_method_3_code 0 = .ok (.iload_n 0, 1) := by decide +kernel
theorem dj43_3_1 : decode jdk_43_method_3_code 1 = .ok (.sipush 255, 3) := by decide +kernel
theorem dj43_3_4 : decode jdk_43_method_3_code 4 = .ok (.if_icmp .gt 7, 3) := by decide +kernel
theorem dj43_3_7 : decode jdk_43_method_3_code 7 = .ok (.iconst 1, 1) := by decide +kernel
theorem dj43_3_8 : decode jdk_43_method_3_code 8 = .ok (.goto 4, 3) := by decide +kernel
theorem dj43_3_11 : decode jdk_43_method_3_code 11 = .ok (.iconst 0, 1) := by decide +kernel
theorem dj43_3_12 : decode jdk_43_method_3_code 12 = .ok (.ireturn, 1) := by decide +kernel
theorem dj43_46_0 : decode jdk_43_method_46_code 0 = .ok (.iconst 1, 1) := by decide +kernel
theorem dj43_46_1 : decode jdk_43_method_46_code 1 = .ok (.newarray .byte, 2) := by decide +kernel
theorem dj43_46_3 : decode jdk_43_method_46_code 3 = .ok (.dup, 1) := by decide +kernel
theorem dj43_46_4 : decode jdk_43_method_46_code 4 = .ok (.iconst 0, 1) := by decide +kernel
theorem dj43_46_5 : decode jdk_43_method_46_code 5 = .ok (.iload_n 0, 1) := by decide +kernel
theorem dj43_46_6 : decode jdk_43_method_46_code 6 = .ok (.i2b, 1) := by decide +kernel
theorem dj43_46_7 : decode jdk_43_method_46_code 7 = .ok (.bastore, 1) := by decide +kernel
theorem dj43_46_8 : decode jdk_43_method_46_code 8 = .ok (.areturn, 1) := by decide +kernel
theorem dj42_151_0 : decode jdk_42_method_151_code 0 = .ok (.aload_n 0, 1) := by decide +kernel
theorem dj42_151_1 : decode jdk_42_method_151_code 1 = .ok (.invokespecial 1, 3) := by decide +kernel
theorem dj42_151_4 : decode jdk_42_method_151_code 4 = .ok (.aload_n 0, 1) := by decide +kernel
theorem dj42_151_5 : decode jdk_42_method_151_code 5 = .ok (.aload_n 1, 1) := by decide +kernel
theorem dj42_151_6 : decode jdk_42_method_151_code 6 = .ok (.putfield 9, 3) := by decide +kernel
theorem dj42_151_9 : decode jdk_42_method_151_code 9 = .ok (.aload_n 0, 1) := by decide +kernel
theorem dj42_151_10 : decode jdk_42_method_151_code 10 = .ok (.iload_n 2, 1) := by decide +kernel
theorem dj42_151_11 : decode jdk_42_method_151_code 11 = .ok (.putfield 15, 3) := by decide +kernel
theorem dj42_151_14 : decode jdk_42_method_151_code 14 = .ok (.return_, 1) := by decide +kernel
theorem dobject_method_1_0 : decode object_method_1_code 0 = .ok (.return_, 1) := by decide +kernel
theorem dj42_3_0 : decode jdk_42_method_3_code 0 = .ok (.aload_n 0, 1) := by decide +kernel
theorem dj42_3_1 : decode jdk_42_method_3_code 1 = .ok (.aload_n 1, 1) := by decide +kernel
theorem dj42_3_2 : decode jdk_42_method_3_code 2 = .ok (.iconst 0, 1) := by decide +kernel
theorem dj42_3_3 : decode jdk_42_method_3_code 3 = .ok (.aload_n 1, 1) := by decide +kernel
theorem dj42_3_4 : decode jdk_42_method_3_code 4 = .ok (.arraylength, 1) := by decide +kernel
theorem dj42_3_5 : decode jdk_42_method_3_code 5 = .ok (.aconst_null, 1) := by decide +kernel
theorem dj42_3_6 : decode jdk_42_method_3_code 6 = .ok (.invokespecial 27, 3) := by decide +kernel
theorem dj42_3_9 : decode jdk_42_method_3_code 9 = .ok (.return_, 1) := by decide +kernel
theorem dj42_149_0 : decode jdk_42_method_149_code 0 = .ok (.aload_n 0, 1) := by decide +kernel
theorem dj42_149_1 : decode jdk_42_method_149_code 1 = .ok (.invokespecial 1, 3) := by decide +kernel
theorem dj42_149_4 : decode jdk_42_method_149_code 4 = .ok (.iload_n 3, 1) := by decide +kernel
theorem dj42_149_5 : decode jdk_42_method_149_code 5 = .ok (.ifCond .ne 22, 3) := by decide +kernel
theorem dj42_149_8 : decode jdk_42_method_149_code 8 = .ok (.aload_n 0, 1) := by decide +kernel
theorem dj42_149_9 : decode jdk_42_method_149_code 9 = .ok (.ldc 7, 2) := by decide +kernel
theorem dj42_149_11 : decode jdk_42_method_149_code 11 = .ok (.getfield 9, 3) := by decide +kernel
theorem dj42_149_14 : decode jdk_42_method_149_code 14 = .ok (.putfield 9, 3) := by decide +kernel
theorem dj42_149_17 : decode jdk_42_method_149_code 17 = .ok (.aload_n 0, 1) := by decide +kernel
theorem dj42_149_18 : decode jdk_42_method_149_code 18 = .ok (.ldc 7, 2) := by decide +kernel
theorem dj42_149_20 : decode jdk_42_method_149_code 20 = .ok (.getfield 15, 3) := by decide +kernel
theorem dj42_149_23 : decode jdk_42_method_149_code 23 = .ok (.putfield 15, 3) := by decide +kernel
theorem dj42_149_26 : decode jdk_42_method_149_code 26 = .ok (.return_, 1) := by decide +kernel
theorem dj42_149_27 : decode jdk_42_method_149_code 27 = .ok (.getstatic 38, 3) := by decide +kernel
theorem dj42_149_30 : decode jdk_42_method_149_code 30 = .ok (.ifCond .eq 28, 3) := by decide +kernel
theorem dj42_149_33 : decode jdk_42_method_149_code 33 = .ok (.aload_n 1, 1) := by decide +kernel
theorem dj42_149_34 : decode jdk_42_method_149_code 34 = .ok (.iload_n 2, 1) := by decide +kernel
theorem dj42_149_35 : decode jdk_42_method_149_code 35 = .ok (.iload_n 3, 1) := by decide +kernel
theorem dj42_149_36 : decode jdk_42_method_149_code 36 = .ok (.invokestatic 177, 3) := by decide +kernel
theorem dj42_149_39 : decode jdk_42_method_149_code 39 = .ok (.astore 5, 2) := by decide +kernel
theorem dj42_149_41 : decode jdk_42_method_149_code 41 = .ok (.aload_n 0, 1) := by decide +kernel
theorem dj42_149_42 : decode jdk_42_method_149_code 42 = .ok (.aload 5, 2) := by decide +kernel
theorem dj42_149_44 : decode jdk_42_method_149_code 44 = .ok (.iload_n 3, 1) := by decide +kernel
theorem dj42_149_45 : decode jdk_42_method_149_code 45 = .ok (.invokestatic 47, 3) := by decide +kernel
theorem dj42_149_48 : decode jdk_42_method_149_code 48 = .ok (.putfield 15, 3) := by decide +kernel
theorem dj42_149_51 : decode jdk_42_method_149_code 51 = .ok (.aload_n 0, 1) := by decide +kernel
theorem dj42_149_52 : decode jdk_42_method_149_code 52 = .ok (.aload 5, 2) := by decide +kernel
theorem dj42_149_54 : decode jdk_42_method_149_code 54 = .ok (.putfield 9, 3) := by decide +kernel
theorem dj42_149_57 : decode jdk_42_method_149_code 57 = .ok (.return_, 1) := by decide +kernel
theorem dj42_149_58 : decode jdk_42_method_149_code 58 = .ok (.aload_n 0, 1) := by decide +kernel
theorem dj42_149_59 : decode jdk_42_method_149_code 59 = .ok (.iconst 1, 1) := by decide +kernel
theorem dj42_149_60 : decode jdk_42_method_149_code 60 = .ok (.putfield 15, 3) := by decide +kernel
theorem dj42_149_63 : decode jdk_42_method_149_code 63 = .ok (.aload_n 0, 1) := by decide +kernel
theorem dj42_149_64 : decode jdk_42_method_149_code 64 = .ok (.aload_n 1, 1) := by decide +kernel
theorem dj42_149_65 : decode jdk_42_method_149_code 65 = .ok (.iload_n 2, 1) := by decide +kernel
theorem dj42_149_66 : decode jdk_42_method_149_code 66 = .ok (.iload_n 3, 1) := by decide +kernel
theorem dj42_149_67 : decode jdk_42_method_149_code 67 = .ok (.invokestatic 180, 3) := by decide +kernel
theorem dj42_149_70 : decode jdk_42_method_149_code 70 = .ok (.putfield 9, 3) := by decide +kernel
theorem dj42_149_73 : decode jdk_42_method_149_code 73 = .ok (.return_, 1) := by decide +kernel
theorem dm3_0 : decode method_3_code 0 = .ok (.iload_n 1, 1) := by decide +kernel
theorem dm3_1 : decode method_3_code 1 = .ok (.aload_n 0, 1) := by decide +kernel
theorem dm3_2 : decode method_3_code 2 = .ok (.arraylength, 1) := by decide +kernel
theorem dm3_3 : decode method_3_code 3 = .ok (.if_icmp .ge 22, 3) := by decide +kernel
theorem dm3_6 : decode method_3_code 6 = .ok (.iload_n 1, 1) := by decide +kernel
theorem dm3_7 : decode method_3_code 7 = .ok (.iload_n 2, 1) := by decide +kernel
theorem dm3_8 : decode method_3_code 8 = .ok (.if_icmp .lt 17, 3) := by decide +kernel
theorem dm3_11 : decode method_3_code 11 = .ok (.aload_n 0, 1) := by decide +kernel
theorem dm3_12 : decode method_3_code 12 = .ok (.iload_n 1, 1) := by decide +kernel
theorem dm3_13 : decode method_3_code 13 = .ok (.aaload, 1) := by decide +kernel
theorem dm3_14 : decode method_3_code 14 = .ok (.aload_n 3, 1) := by decide +kernel
theorem dm3_15 : decode method_3_code 15 = .ok (.invokevirtual 25, 3) := by decide +kernel
theorem dm3_18 : decode method_3_code 18 = .ok (.ifCond .eq 7, 3) := by decide +kernel
theorem dm3_21 : decode method_3_code 21 = .ok (.iconst 1, 1) := by decide +kernel
theorem dm3_22 : decode method_3_code 22 = .ok (.goto 4, 3) := by decide +kernel
theorem dm3_25 : decode method_3_code 25 = .ok (.iconst 0, 1) := by decide +kernel
theorem dm3_26 : decode method_3_code 26 = .ok (.ireturn, 1) := by decide +kernel
theorem dp11_13_0 : decode prog_11_method_13_code 0 = .ok (.iload_n 1, 1) := by decide +kernel
theorem dp11_13_1 : decode prog_11_method_13_code 1 = .ok (.istore_n 3, 1) := by decide +kernel
theorem dp11_13_2 : decode prog_11_method_13_code 2 = .ok (.iload_n 3, 1) := by decide +kernel
theorem dp11_13_3 : decode prog_11_method_13_code 3 = .ok (.aload_n 0, 1) := by decide +kernel
theorem dp11_13_4 : decode prog_11_method_13_code 4 = .ok (.arraylength, 1) := by decide +kernel
theorem dp11_13_5 : decode prog_11_method_13_code 5 = .ok (.if_icmp .ge 21, 3) := by decide +kernel
theorem dp11_13_8 : decode prog_11_method_13_code 8 = .ok (.aload_n 0, 1) := by decide +kernel
theorem dp11_13_9 : decode prog_11_method_13_code 9 = .ok (.iload_n 3, 1) := by decide +kernel
theorem dp11_13_10 : decode prog_11_method_13_code 10 = .ok (.aaload, 1) := by decide +kernel
theorem dp11_13_11 : decode prog_11_method_13_code 11 = .ok (.aload_n 2, 1) := by decide +kernel
theorem dp11_13_12 : decode prog_11_method_13_code 12 = .ok (.invokevirtual 160, 3) := by decide +kernel
theorem dp11_13_15 : decode prog_11_method_13_code 15 = .ok (.ifCond .eq 5, 3) := by decide +kernel
theorem dp11_13_18 : decode prog_11_method_13_code 18 = .ok (.iconst 1, 1) := by decide +kernel
theorem dp11_13_19 : decode prog_11_method_13_code 19 = .ok (.ireturn, 1) := by decide +kernel
theorem dp11_13_20 : decode prog_11_method_13_code 20 = .ok (.iinc 3 1, 3) := by decide +kernel
theorem dp11_13_23 : decode prog_11_method_13_code 23 = .ok (.goto (-21), 3) := by decide +kernel
theorem dp11_13_26 : decode prog_11_method_13_code 26 = .ok (.iconst 0, 1) := by decide +kernel
theorem dp11_13_27 : decode prog_11_method_13_code 27 = .ok (.ireturn, 1) := by decide +kernel
theorem dj52_16_0 : decode jdk_52_method_16_code 0 = .ok (.iload_n 2, 1) := by decide +kernel
theorem dj52_16_1 : decode jdk_52_method_16_code 1 = .ok (.newarray .byte, 2) := by decide +kernel
theorem dj52_16_3 : decode jdk_52_method_16_code 3 = .ok (.astore_n 3, 1) := by decide +kernel
theorem dj52_16_4 : decode jdk_52_method_16_code 4 = .ok (.aload_n 0, 1) := by decide +kernel
theorem dj52_16_5 : decode jdk_52_method_16_code 5 = .ok (.iload_n 1, 1) := by decide +kernel
theorem dj52_16_6 : decode jdk_52_method_16_code 6 = .ok (.aload_n 3, 1) := by decide +kernel
theorem dj52_16_7 : decode jdk_52_method_16_code 7 = .ok (.iconst 0, 1) := by decide +kernel
theorem dj52_16_8 : decode jdk_52_method_16_code 8 = .ok (.iload_n 2, 1) := by decide +kernel
theorem dj52_16_9 : decode jdk_52_method_16_code 9 = .ok (.invokestatic 115, 3) := by decide +kernel
theorem dj52_16_12 : decode jdk_52_method_16_code 12 = .ok (.istore 4, 2) := by decide +kernel
theorem dj52_16_14 : decode jdk_52_method_16_code 14 = .ok (.iload 4, 2) := by decide +kernel
theorem dj52_16_16 : decode jdk_52_method_16_code 16 = .ok (.iload_n 2, 1) := by decide +kernel
theorem dj52_16_17 : decode jdk_52_method_16_code 17 = .ok (.if_icmp .eq 40, 3) := by decide +kernel
theorem dj52_16_20 : decode jdk_52_method_16_code 20 = .ok (.aload_n 0, 1) := by decide +kernel
theorem dj52_16_21 : decode jdk_52_method_16_code 21 = .ok (.iload_n 1, 1) := by decide +kernel
theorem dj52_16_22 : decode jdk_52_method_16_code 22 = .ok (.iload_n 2, 1) := by decide +kernel
theorem dj52_16_23 : decode jdk_52_method_16_code 23 = .ok (.invokestatic 119, 3) := by decide +kernel
theorem dj52_16_26 : decode jdk_52_method_16_code 26 = .ok (.astore 5, 2) := by decide +kernel
theorem dj52_16_28 : decode jdk_52_method_16_code 28 = .ok (.aload 5, 2) := by decide +kernel
theorem dj52_16_30 : decode jdk_52_method_16_code 30 = .ok (.iload 4, 2) := by decide +kernel
theorem dj52_16_32 : decode jdk_52_method_16_code 32 = .ok (.invokestatic 71, 3) := by decide +kernel
theorem dj52_16_35 : decode jdk_52_method_16_code 35 = .ok (.sipush 255, 3) := by decide +kernel
theorem dj52_16_38 : decode jdk_52_method_16_code 38 = .ok (.if_icmp .gt 16, 3) := by decide +kernel
theorem dj52_16_41 : decode jdk_52_method_16_code 41 = .ok (.aload 5, 2) := by decide +kernel
theorem dj52_16_43 : decode jdk_52_method_16_code 43 = .ok (.iconst 0, 1) := by decide +kernel
theorem dj52_16_44 : decode jdk_52_method_16_code 44 = .ok (.aload_n 3, 1) := by decide +kernel
theorem dj52_16_45 : decode jdk_52_method_16_code 45 = .ok (.iconst 0, 1) := by decide +kernel
theorem dj52_16_46 : decode jdk_52_method_16_code 46 = .ok (.iload_n 2, 1) := by decide +kernel
theorem dj52_16_47 : decode jdk_52_method_16_code 47 = .ok (.invokestatic 123, 3) := by decide +kernel
theorem dj52_16_50 : decode jdk_52_method_16_code 50 = .ok (.iload_n 2, 1) := by decide +kernel
theorem dj52_16_51 : decode jdk_52_method_16_code 51 = .ok (.if_icmp .eq 6, 3) := by decide +kernel
theorem dj52_16_54 : decode jdk_52_method_16_code 54 = .ok (.aload 5, 2) := by decide +kernel
theorem dj52_16_56 : decode jdk_52_method_16_code 56 = .ok (.areturn, 1) := by decide +kernel
theorem dj52_16_57 : decode jdk_52_method_16_code 57 = .ok (.aload_n 3, 1) := by decide +kernel
theorem dj52_16_58 : decode jdk_52_method_16_code 58 = .ok (.areturn, 1) := by decide +kernel
theorem dj52_21_0 : decode jdk_52_method_21_code 0 = .ok (.iconst 0, 1) := by decide +kernel
theorem dj52_21_1 : decode jdk_52_method_21_code 1 = .ok (.istore 5, 2) := by decide +kernel
theorem dj52_21_3 : decode jdk_52_method_21_code 3 = .ok (.iload 5, 2) := by decide +kernel
theorem dj52_21_5 : decode jdk_52_method_21_code 5 = .ok (.iload 4, 2) := by decide +kernel
theorem dj52_21_7 : decode jdk_52_method_21_code 7 = .ok (.if_icmp .ge 37, 3) := by decide +kernel
theorem dj52_21_10 : decode jdk_52_method_21_code 10 = .ok (.aload_n 0, 1) := by decide +kernel
theorem dj52_21_11 : decode jdk_52_method_21_code 11 = .ok (.iload_n 1, 1) := by decide +kernel
theorem dj52_21_12 : decode jdk_52_method_21_code 12 = .ok (.caload, 1) := by decide +kernel
theorem dj52_21_13 : decode jdk_52_method_21_code 13 = .ok (.istore 6, 2) := by decide +kernel
theorem dj52_21_15 : decode jdk_52_method_21_code 15 = .ok (.iload 6, 2) := by decide +kernel
theorem dj52_21_17 : decode jdk_52_method_21_code 17 = .ok (.sipush 255, 3) := by decide +kernel
theorem dj52_21_20 : decode jdk_52_method_21_code 20 = .ok (.if_icmp .le 6, 3) := by decide +kernel
theorem dj52_21_23 : decode jdk_52_method_21_code 23 = .ok (.iload 5, 2) := by decide +kernel
theorem dj52_21_25 : decode jdk_52_method_21_code 25 = .ok (.ireturn, 1) := by decide +kernel
theorem dj52_21_26 : decode jdk_52_method_21_code 26 = .ok (.aload_n 2, 1) := by decide +kernel
theorem dj52_21_27 : decode jdk_52_method_21_code 27 = .ok (.iload_n 3, 1) := by decide +kernel
theorem dj52_21_28 : decode jdk_52_method_21_code 28 = .ok (.iload 6, 2) := by decide +kernel
theorem dj52_21_30 : decode jdk_52_method_21_code 30 = .ok (.i2b, 1) := by decide +kernel
theorem dj52_21_31 : decode jdk_52_method_21_code 31 = .ok (.bastore, 1) := by decide +kernel
theorem dj52_21_32 : decode jdk_52_method_21_code 32 = .ok (.iinc 1 1, 3) := by decide +kernel
theorem dj52_21_35 : decode jdk_52_method_21_code 35 = .ok (.iinc 3 1, 3) := by decide +kernel
theorem dj52_21_38 : decode jdk_52_method_21_code 38 = .ok (.iinc 5 1, 3) := by decide +kernel
theorem dj52_21_41 : decode jdk_52_method_21_code 41 = .ok (.goto (-38), 3) := by decide +kernel
theorem dj52_21_44 : decode jdk_52_method_21_code 44 = .ok (.iload 4, 2) := by decide +kernel
theorem dj52_21_46 : decode jdk_52_method_21_code 46 = .ok (.ireturn, 1) := by decide +kernel
theorem dj52_15_0 : decode jdk_52_method_15_code 0 = .ok (.iload_n 1, 1) := by decide +kernel
theorem dj52_15_1 : decode jdk_52_method_15_code 1 = .ok (.aload_n 0, 1) := by decide +kernel
theorem dj52_15_2 : decode jdk_52_method_15_code 2 = .ok (.arraylength, 1) := by decide +kernel
theorem dj52_15_3 : decode jdk_52_method_15_code 3 = .ok (.isub, 1) := by decide +kernel
theorem dj52_15_4 : decode jdk_52_method_15_code 4 = .ok (.bipush 31, 2) := by decide +kernel
theorem dj52_15_6 : decode jdk_52_method_15_code 6 = .ok (.iushr, 1) := by decide +kernel
theorem dj52_15_7 : decode jdk_52_method_15_code 7 = .ok (.i2b, 1) := by decide +kernel
theorem dj52_15_8 : decode jdk_52_method_15_code 8 = .ok (.ireturn, 1) := by decide +kernel
theorem dj42_66_0 : decode jdk_42_method_66_code 0 = .ok (.aload_n 0, 1) := by decide +kernel
theorem dj42_66_1 : decode jdk_42_method_66_code 1 = .ok (.aload_n 1, 1) := by decide +kernel
theorem dj42_66_2 : decode jdk_42_method_66_code 2 = .ok (.if_acmp .ne 5, 3) := by decide +kernel
theorem dj42_66_5 : decode jdk_42_method_66_code 5 = .ok (.iconst 1, 1) := by decide +kernel
theorem dj42_66_6 : decode jdk_42_method_66_code 6 = .ok (.ireturn, 1) := by decide +kernel
theorem dj42_66_7 : decode jdk_42_method_66_code 7 = .ok (.aload_n 1, 1) := by decide +kernel
theorem dj42_66_8 : decode jdk_42_method_66_code 8 = .ok (.instanceof 10, 3) := by decide +kernel
theorem dj42_66_11 : decode jdk_42_method_66_code 11 = .ok (.ifCond .eq 43, 3) := by decide +kernel
theorem dj42_66_14 : decode jdk_42_method_66_code 14 = .ok (.aload_n 1, 1) := by decide +kernel
theorem dj42_66_15 : decode jdk_42_method_66_code 15 = .ok (.checkcast 10, 3) := by decide +kernel
theorem dj42_66_18 : decode jdk_42_method_66_code 18 = .ok (.astore_n 2, 1) := by decide +kernel
theorem dj42_66_19 : decode jdk_42_method_66_code 19 = .ok (.getstatic 38, 3) := by decide +kernel
theorem dj42_66_22 : decode jdk_42_method_66_code 22 = .ok (.ifCond .eq 14, 3) := by decide +kernel
theorem dj42_66_25 : decode jdk_42_method_66_code 25 = .ok (.aload_n 0, 1) := by decide +kernel
theorem dj42_66_26 : decode jdk_42_method_66_code 26 = .ok (.getfield 15, 3) := by decide +kernel
theorem dj42_66_29 : decode jdk_42_method_66_code 29 = .ok (.aload_n 2, 1) := by decide +kernel
theorem dj42_66_30 : decode jdk_42_method_66_code 30 = .ok (.getfield 15, 3) := by decide +kernel
theorem dj42_66_33 : decode jdk_42_method_66_code 33 = .ok (.if_icmp .ne 21, 3) := by decide +kernel
theorem dj42_66_36 : decode jdk_42_method_66_code 36 = .ok (.aload_n 0, 1) := by decide +kernel
theorem dj42_66_37 : decode jdk_42_method_66_code 37 = .ok (.getfield 9, 3) := by decide +kernel
theorem dj42_66_40 : decode jdk_42_method_66_code 40 = .ok (.aload_n 2, 1) := by decide +kernel
theorem dj42_66_41 : decode jdk_42_method_66_code 41 = .ok (.getfield 9, 3) := by decide +kernel
theorem dj42_66_44 : decode jdk_42_method_66_code 44 = .ok (.invokestatic 541, 3) := by decide +kernel
theorem dj42_66_47 : decode jdk_42_method_66_code 47 = .ok (.ifCond .eq 7, 3) := by decide +kernel
theorem dj42_66_50 : decode jdk_42_method_66_code 50 = .ok (.iconst 1, 1) := by decide +kernel
theorem dj42_66_51 : decode jdk_42_method_66_code 51 = .ok (.goto 4, 3) := by decide +kernel
theorem dj42_66_54 : decode jdk_42_method_66_code 54 = .ok (.iconst 0, 1) := by decide +kernel
theorem dj42_66_55 : decode jdk_42_method_66_code 55 = .ok (.ireturn, 1) := by decide +kernel
theorem dj43_13_0 : decode jdk_43_method_13_code 0 = .ok (.aload_n 0, 1) := by decide +kernel
theorem dj43_13_1 : decode jdk_43_method_13_code 1 = .ok (.arraylength, 1) := by decide +kernel
theorem dj43_13_2 : decode jdk_43_method_13_code 2 = .ok (.aload_n 1, 1) := by decide +kernel
theorem dj43_13_3 : decode jdk_43_method_13_code 3 = .ok (.arraylength, 1) := by decide +kernel
theorem dj43_13_4 : decode jdk_43_method_13_code 4 = .ok (.if_icmp .ne 30, 3) := by decide +kernel
theorem dj43_13_7 : decode jdk_43_method_13_code 7 = .ok (.iconst 0, 1) := by decide +kernel
theorem dj43_13_8 : decode jdk_43_method_13_code 8 = .ok (.istore_n 2, 1) := by decide +kernel
theorem dj43_13_9 : decode jdk_43_method_13_code 9 = .ok (.iload_n 2, 1) := by decide +kernel
theorem dj43_13_10 : decode jdk_43_method_13_code 10 = .ok (.aload_n 0, 1) := by decide +kernel
theorem dj43_13_11 : decode jdk_43_method_13_code 11 = .ok (.arraylength, 1) := by decide +kernel
theorem dj43_13_12 : decode jdk_43_method_13_code 12 = .ok (.if_icmp .ge 20, 3) := by decide +kernel
theorem dj43_13_15 : decode jdk_43_method_13_code 15 = .ok (.aload_n 0, 1) := by decide +kernel
theorem dj43_13_16 : decode jdk_43_method_13_code 16 = .ok (.iload_n 2, 1) := by decide +kernel
theorem dj43_13_17 : decode jdk_43_method_13_code 17 = .ok (.baload, 1) := by decide +kernel
theorem dj43_13_18 : decode jdk_43_method_13_code 18 = .ok (.aload_n 1, 1) := by decide +kernel
theorem dj43_13_19 : decode jdk_43_method_13_code 19 = .ok (.iload_n 2, 1) := by decide +kernel
theorem dj43_13_20 : decode jdk_43_method_13_code 20 = .ok (.baload, 1) := by decide +kernel
theorem dj43_13_21 : decode jdk_43_method_13_code 21 = .ok (.if_icmp .eq 5, 3) := by decide +kernel
theorem dj43_13_24 : decode jdk_43_method_13_code 24 = .ok (.iconst 0, 1) := by decide +kernel
theorem dj43_13_25 : decode jdk_43_method_13_code 25 = .ok (.ireturn, 1) := by decide +kernel
theorem dj43_13_26 : decode jdk_43_method_13_code 26 = .ok (.iinc 2 1, 3) := by decide +kernel
theorem dj43_13_29 : decode jdk_43_method_13_code 29 = .ok (.goto (-20), 3) := by decide +kernel
theorem dj43_13_32 : decode jdk_43_method_13_code 32 = .ok (.iconst 1, 1) := by decide +kernel
theorem dj43_13_33 : decode jdk_43_method_13_code 33 = .ok (.ireturn, 1) := by decide +kernel
theorem dj43_13_34 : decode jdk_43_method_13_code 34 = .ok (.iconst 0, 1) := by decide +kernel
theorem dj43_13_35 : decode jdk_43_method_13_code 35 = .ok (.ireturn, 1) := by decide +kernel
theorem pd_lJrLjavalangString : parseMethodDescriptor "(J)Ljava/lang/String;" = some ⟨[.long], some (.object "java/lang/String")⟩ := by decide +kernel
theorem pd_lCrLjavalangString : parseMethodDescriptor "(C)Ljava/lang/String;" = some ⟨[.char], some (.object "java/lang/String")⟩ := by decide +kernel
theorem pd_lCrZ : parseMethodDescriptor "(C)Z" = some ⟨[.char], some .boolean⟩ := by decide +kernel
theorem pd_lCrAB : parseMethodDescriptor "(C)[B" = some ⟨[.char], some (.array .byte)⟩ := by decide +kernel
theorem pd_lABBrV : parseMethodDescriptor "([BB)V" = some ⟨[(.array .byte), .byte], none⟩ := by decide +kernel
theorem pd_lrV : parseMethodDescriptor "()V" = some ⟨[], none⟩ := by decide +kernel
theorem pd_lACrV : parseMethodDescriptor "([C)V" = some ⟨[(.array .char)], none⟩ := by decide +kernel
theorem pd_lACIILjavalangVoidrV : parseMethodDescriptor "([CIILjava/lang/Void;)V" = some ⟨[(.array .char), .int, .int, (.object "java/lang/Void")], none⟩ := by decide +kernel
theorem pd_lALjavalangStringIILjavalangStringrZ : parseMethodDescriptor "([Ljava/lang/String;IILjava/lang/String;)Z" = some ⟨[(.array (.object "java/lang/String")), .int, .int, (.object "java/lang/String")], some .boolean⟩ := by decide +kernel
theorem pd_lALjavalangStringILjavalangStringrZ : parseMethodDescriptor "([Ljava/lang/String;ILjava/lang/String;)Z" = some ⟨[(.array (.object "java/lang/String")), .int, (.object "java/lang/String")], some .boolean⟩ := by decide +kernel
theorem pd_lACIIrAB : parseMethodDescriptor "([CII)[B" = some ⟨[(.array .char), .int, .int], some (.array .byte)⟩ := by decide +kernel
theorem pd_lACIABIIrI : parseMethodDescriptor "([CI[BII)I" = some ⟨[(.array .char), .int, (.array .byte), .int, .int], some .int⟩ := by decide +kernel
theorem pd_lABIrB : parseMethodDescriptor "([BI)B" = some ⟨[(.array .byte), .int], some .byte⟩ := by decide +kernel
theorem pd_lLjavalangObjectrZ : parseMethodDescriptor "(Ljava/lang/Object;)Z" = some ⟨[(.object "java/lang/Object")], some .boolean⟩ := by decide +kernel
theorem pd_lABABrZ : parseMethodDescriptor "([B[B)Z" = some ⟨[(.array .byte), (.array .byte)], some .boolean⟩ := by decide +kernel
open Own
set_option maxHeartbeats 40000000
set_option maxRecDepth 65536
theorem own_new {a0 : Array Value} {Z : State} (hw : ∀ d ∈ tables_1, d.before a0 Z = true) : ∀ d ∈ StrChars.Road.words, d.before a0 Z = true := fun d hd => hw d ((by decide +kernel : ∀ d ∈ StrChars.Road.words, d ∈ tables_1) d hd)
theorem own_eq {a0 : Array Value} {Z : State} (hw : ∀ d ∈ tables_1, d.before a0 Z = true) : ∀ d ∈ StrChars.Road.wordsEq, d.before a0 Z = true := fun d hd => hw d ((by decide +kernel : ∀ d ∈ StrChars.Road.wordsEq, d ∈ tables_1) d hd)
/-! new String(new char[0]), walked: the constant "" is loaded twice -/
section New0
variable {l : Launch} {R : Room} {Z : State} {a0 : Array Value} {EL : List (String × Nat)} {h : Heap} {W : Nat}
abbrev yI4 : MethodName := ⟨"java/lang/String", "<init>", "([CIILjava/lang/Void;)V"⟩
abbrev yI1 : MethodName := ⟨"java/lang/String", "<init>", "([C)V"⟩
theorem own_atoms (hw : ∀ d ∈ tables_1, d.before a0 Z = true) : ∀ a ∈ Bundle.stringAtoms, a.before a0 Z = true := fun d hd => hw d ((by decide +kernel : ∀ d ∈ Bundle.stringAtoms, d ∈ tables_1) d hd)
theorem met_I4z (hw : ∀ d ∈ tables_1, d.before a0 Z = true) (hm : ("java/lang/String", 7) ∈ EL) {x b : Addr} {v0 c0 : Value} (hx : Z.heap.size ≤ x) (E : Exa Z h x "java/lang/String") (V : Fld Z h x "java/lang/String" "value" "[B" v0) (C : Fld Z h x "java/lang/String" "coder" "B" c0) :
    MetW [] l yI4 jdk_42_method_149_code 6 none (Rm 1 4 8 12) #[.ref x, .ref b, .int 0, .int 0, .null] Z a0 EL false [x] h (fun v h' => v = none ∧ Keep h h' [x] ∧ Str Z h' x []) := by
  refine MetW.of (plainFor_of_name (by first | (simp [plainName, overriddenIn]; done) | decide +kernel)) fun X hX => ?_
  show Go X _ _ _ _ _ _ _ _ _ _ _ _ _ _ _ _ (mkF X.m 0 #[.val (.ref x), .val (.ref b), .val (.int 0), .val (.int 0), .val .null, .unset] [])
  have ne : RoadKit.slotOf Z "java/lang/String" "coder" "B" ≠ RoadKit.slotOf Z "java/lang/String" "value" "[B" := slot_ne (Or.inr (wy_String_String_coder hw)) (Or.inr (wy_String_String_value hw)) (by decide) (t := .byte) (t' := .array .byte) (by decide) (by decide)
  refine g_aloadN (pc' := 1) dj42_149_0 rfl rfl rfl ?_
  refine g_objinit (pc' := 4) dj42_149_1 rfl (wl_String_1 hw) (wm_Object_init_lrV hw) (wb_Object_init_lrV hw) rfl rfl rfl ?_
  refine g_iloadN (pc' := 5) dj42_149_4 rfl rfl ?_
  refine g_ifne (pc' := 8) (pc2 := 27) dj42_149_5 rfl (by decide) rfl (fun c5 => ?_) (fun c5 => absurd rfl c5)
  refine g_aloadN (pc' := 9) dj42_149_8 rfl rfl rfl ?_
  refine g_lit (pc' := 11) rfl [] 0 dj42_149_9 rfl (wt_String_7 hw) (own_atoms hw) hm ⟨by decide, rfl⟩ (by decide) (by decide) (by decide) rfl rfl rfl rfl rfl fun h9 a9 E9 T9 n9 => ?_
  have hxa9 : x ≠ a9 := n9 x (List.mem_cons_self ..)
  obtain ⟨t, kb, N2, vs, V9, C9, A9, hcod, -, -⟩ := T9.lat (fun c hc => nomatch hc)
  refine g_getfield (pc' := 14) dj42_149_11 rfl (wf_String_9 hw) V9 ?_
  refine g_putfield (pc' := 17) dj42_149_14 rfl (wf_String_9 hw) (V.ext E9) (E.ext E9) (Or.inr ⟨wy_String_String_value hw, rfl, rfl⟩) (wn_String hw) (ty := .array .byte) (by decide) rfl rfl hx (List.mem_cons_self ..) fun h14 W14 => ?_
  refine g_aloadN (pc' := 18) dj42_149_17 rfl rfl rfl ?_
  refine g_lit (pc' := 20) rfl [] 0 dj42_149_18 rfl (wt_String_7 hw) (own_atoms hw) hm ⟨by decide, rfl⟩ (by decide) (by decide) (by decide) rfl rfl rfl rfl rfl fun h18 a18 E18 T18 n18 => ?_
  obtain ⟨t', kb', N2', vs', V18, C18, A18, -, -, -⟩ := T18.lat (fun c hc => nomatch hc)
  refine g_getfield (pc' := 23) dj42_149_20 rfl (wf_String_15 hw) C18 ?_
  refine g_putfield (pc' := 26) dj42_149_23 rfl (wf_String_15 hw) (((C.ext E9).other W14 (Or.inr ne)).ext E18) (((E.ext E9).wr W14).ext E18) (Or.inr ⟨wy_String_String_coder hw, rfl, rfl⟩) (wn_String hw) (ty := .byte) (by decide) rfl rfl hx (List.mem_cons_self ..) fun h23 W23 => ?_
  have hxt : x ≠ t := (E.ext E9).neArv A9 (wn_String hw)
  have Ex : Exa Z h23 x "java/lang/String" := (((E.ext E9).wr W14).ext E18).wr W23
  have Vx : Fld Z h23 x "java/lang/String" "value" "[B" (.ref t) := (((V.ext E9).same W14).ext E18).other W23 (Or.inr ne.symm)
  have Cx : Fld Z h23 x "java/lang/String" "coder" "B" (.int 0) := (((C.ext E9).other W14 (Or.inr ne)).ext E18).same W23
  have Ax : Arv Z h23 t kb .byte N2 vs (.int 0) := (((A9.other W14 hxt.symm).ext E18).other W23 hxt.symm)
  exact g_return dj42_149_26 rfl rfl rfl ⟨rfl, ((((Keep.refl h [x]).ext E9).wr W14 (Or.inl (List.mem_cons_self ..))).ext E18).wr W23 (Or.inl (List.mem_cons_self ..)), Ex, t, kb, 0, N2, vs, Vx, Cx, Ax, hcod, (fun c hc => nomatch hc), Nat.zero_le _⟩
theorem met_I1z (hw : ∀ d ∈ tables_1, d.before a0 Z = true) (hm : ("java/lang/String", 7) ∈ EL) {x b : Addr} {kC : ClassId} {d v0 c0 : Value} {vs : List Value} (hx : Z.heap.size ≤ x) (E : Exa Z h x "java/lang/String") (V : Fld Z h x "java/lang/String" "value" "[B" v0) (C : Fld Z h x "java/lang/String" "coder" "B" c0) (K : Arv Z h b kC .char 0 vs d) :
    MetW [] l yI1 jdk_42_method_3_code 2 none (Rm 2 4 8 29) #[.ref x, .ref b] Z a0 EL false [x] h (fun v h' => v = none ∧ Keep h h' [x] ∧ Str Z h' x []) := by
  refine MetW.of (plainFor_of_name (by first | (simp [plainName, overriddenIn]; done) | decide +kernel)) fun X hX => ?_
  show Go X _ _ _ _ _ _ _ _ _ _ _ _ _ _ _ _ (mkF X.m 0 #[.val (.ref x), .val (.ref b)] [])
  refine g_aloadN (pc' := 1) dj42_3_0 rfl rfl rfl ?_
  refine g_aloadN (pc' := 2) dj42_3_1 rfl rfl rfl ?_
  refine g_iconst (pc' := 3) (w := 0) dj42_3_2 rfl (by decide) ?_
  refine g_aloadN (pc' := 4) dj42_3_3 rfl rfl rfl ?_
  refine g_arraylength (pc' := 5) dj42_3_4 rfl K ?_
  refine g_aconst_null (pc' := 6) dj42_3_5 rfl ?_
  refine g_invokespecial (pc' := 9) [x] [_, _, _, _] dj42_3_6 rfl rfl (wl_String_27 hw) (wm_String_init_lACIILjavalangVoidrV hw) (wb_String_init_lACIILjavalangVoidrV hw) (by decide) (Pay.of_met (met_I4z hw hm (b := b) hx E V C) (wb_String_init_lACIILjavalangVoidrV hw) (wi_String hw) rfl rfl) pd_lACIILjavalangVoidrV rfl rfl rfl rfl rfl (fun _ q => q) fun v6 h6 q6 l6 => ?_
  obtain ⟨rfl, K6, T6⟩ := q6
  exact g_return dj42_3_9 rfl rfl rfl ⟨rfl, K6, T6⟩
theorem pay_new0 (hw : ∀ d ∈ tables_1, d.before a0 Z = true) (hm : ("java/lang/String", 7) ∈ EL) {x b : Addr} {kC : ClassId} {d v0 c0 : Value} {vs : List Value} (hx : Z.heap.size ≤ x) (E : Exa Z h x "java/lang/String") (V : Fld Z h x "java/lang/String" "value" "[B" v0) (C : Fld Z h x "java/lang/String" "coder" "B" c0) (K : Arv Z h b kC .char 0 vs d) (hf : Nat.ble 3 R.frames = true) (hl : Nat.ble (W + 42) R.locals = true) :
    Pay l R yI1 W #[.ref x, .ref b] Z a0 EL false [x] h 4 8 (fun v h' => v = none ∧ Keep h h' [x] ∧ Str Z h' x []) := Pay.of_met (met_I1z hw hm hx E V C K) (wb_String_init_lACrV hw) (wi_String hw) hf (by exact hl)
end New0
/-! String.valueOf(char) of a char 0 to 255, walked -/
section ValueOf
variable {l : Launch} {R : Room} {Z : State} {a0 : Array Value} {EL : List (String × Nat)} {nw : Bool} {sf : List Addr} {h : Heap} {W : Nat}
abbrev yToB : MethodName := ⟨"java/lang/StringLatin1", "toBytes", "(C)[B"⟩
abbrev yCan : MethodName := ⟨"java/lang/StringLatin1", "canEncode", "(C)Z"⟩
abbrev yIBB : MethodName := ⟨"java/lang/String", "<init>", "([BB)V"⟩
abbrev yVal : MethodName := ⟨"java/lang/String", "valueOf", "(C)Ljava/lang/String;"⟩
theorem nar_b8 (x : Int32) : nar .byte x.toInt8.toInt32 = x.toInt8.toInt32 := by simp [nar]
theorem met_toB (hw : ∀ d ∈ tables_1, d.before a0 Z = true) (c : Int32) : MetW [] l yToB jdk_43_method_46_code 1 (some (.array .byte)) (Rm 0 1 1 0) #[.int c] Z a0 EL nw [] h
    (fun v h' => ∃ a kA, v = some (.ref a) ∧ h.size ≤ a ∧ Ext h h' ∧ Arv Z h' a kA .byte 1 [.int c.toInt8.toInt32] (.int 0)) := by
  refine MetW.of (plainFor_of_name (by first | (simp [plainName, overriddenIn]; done) | decide +kernel)) fun X hX => Go.old fun EZ => ?_
  show Go X _ _ _ _ _ _ _ _ _ _ _ _ _ _ _ _ (mkF X.m 0 #[.val (.int c)] [])
  refine g_iconst (pc' := 1) (w := 1) dj43_46_0 rfl (by decide) ?_
  refine g_newarray (pc' := 3) (cap := 1) dj43_46_1 rfl (wa_byte hw) (by decide) (by decide) rfl rfl rfl fun h1 a1 k1 e1 E1 A1 => ?_
  refine g_dup (pc' := 4) dj43_46_3 rfl rfl ?_
  refine g_iconst (pc' := 5) (w := 0) dj43_46_4 rfl (by decide) ?_
  refine g_iloadN (pc' := 6) dj43_46_5 rfl rfl ?_
  refine g_i2b (pc' := 7) dj43_46_6 rfl ?_
  refine g_bastore (pc' := 8) (i := 0) dj43_46_7 rfl A1 (by rw [e1]; exact EZ.1) (List.mem_cons_self ..) (by decide) (by decide) (by decide) fun h7 K7 A7 => ?_
  refine g_areturn dj43_46_8 rfl rfl rfl rfl rfl rfl ⟨a1, k1, rfl, Nat.le_of_eq e1.symm, ext_keep E1 K7 (allS (Nat.le_of_eq e1.symm) all0), ?_⟩
  rw [nar_b8] at A7
  exact A7
theorem met_can (c : Int32) (hc : ¬ (255 : Int32) < c) : MetW [] l yCan jdk_43_method_3_code 1 (some .boolean) (Rm 0 0 0 0) #[.int c] Z a0 EL nw [] h (fun v h' => v = some (.int 1) ∧ h' = h) := by
  refine MetW.of (plainFor_of_name (by first | (simp [plainName, overriddenIn]; done) | decide +kernel)) fun X hX => ?_
  show Go X _ _ _ _ _ _ _ _ _ _ _ _ _ _ _ _ (mkF X.m 0 #[.val (.int c)] [])
  refine g_iloadN (pc' := 1) dj43_3_0 rfl rfl ?_
  refine g_sipush (pc' := 4) (w := 255) dj43_3_1 rfl (by decide) ?_
  refine g_icmpgt (pc' := 7) (pc2 := 11) dj43_3_4 rfl (by decide) rfl (fun c4 => ?_) (fun c4 => absurd c4 hc)
  refine g_iconst (pc' := 8) (w := 1) dj43_3_7 rfl (by decide) ?_
  refine g_goto (pc' := 12) dj43_3_8 (by decide) rfl ?_
  exact g_ireturn (t := .boolean) dj43_3_12 rfl (by simp) rfl rfl rfl ⟨rfl, rfl⟩
theorem met_IBB (hw : ∀ d ∈ tables_1, d.before a0 Z = true) {x b : Addr} {cd : Int32} {v0 c0 : Value} (hcd : narrow .byte (.int cd) = .int cd) (hcf : fits .byte (.int cd) = true) (hx : Z.heap.size ≤ x) (E : Exa Z h x "java/lang/String") (V : Fld Z h x "java/lang/String" "value" "[B" v0) (C : Fld Z h x "java/lang/String" "coder" "B" c0) :
    MetW [] l yIBB jdk_42_method_151_code 3 none (Rm 1 0 0 12) #[.ref x, .ref b, .int cd] Z a0 EL nw [x] h
    (fun v h' => v = none ∧ Keep h h' [x] ∧ Exa Z h' x "java/lang/String" ∧ Fld Z h' x "java/lang/String" "value" "[B" (.ref b) ∧ Fld Z h' x "java/lang/String" "coder" "B" (.int cd)) := by
  refine MetW.of (plainFor_of_name (by first | (simp [plainName, overriddenIn]; done) | decide +kernel)) fun X hX => ?_
  show Go X _ _ _ _ _ _ _ _ _ _ _ _ _ _ _ _ (mkF X.m 0 #[.val (.ref x), .val (.ref b), .val (.int cd)] [])
  refine g_aloadN (pc' := 1) dj42_151_0 rfl rfl rfl ?_
  refine g_objinit (pc' := 4) dj42_151_1 rfl (wl_String_1 hw) (wm_Object_init_lrV hw) (wb_Object_init_lrV hw) rfl rfl rfl ?_
  refine g_aloadN (pc' := 5) dj42_151_4 rfl rfl rfl ?_
  refine g_aloadN (pc' := 6) dj42_151_5 rfl rfl rfl ?_
  refine g_putfield (pc' := 9) dj42_151_6 rfl (wf_String_9 hw) V E (Or.inr ⟨wy_String_String_value hw, rfl, rfl⟩) (wn_String hw) (ty := .array .byte) (by decide) rfl rfl hx (List.mem_cons_self ..) fun h6 W6 => ?_
  refine g_aloadN (pc' := 10) dj42_151_9 rfl rfl rfl ?_
  refine g_iloadN (pc' := 11) dj42_151_10 rfl rfl ?_
  have ne : RoadKit.slotOf Z "java/lang/String" "coder" "B" ≠ RoadKit.slotOf Z "java/lang/String" "value" "[B" := slot_ne (Or.inr (wy_String_String_coder hw)) (Or.inr (wy_String_String_value hw)) (by decide) (t := .byte) (t' := .array .byte) (by decide) (by decide)
  refine g_putfield (pc' := 14) dj42_151_11 rfl (wf_String_15 hw) (C.other W6 (Or.inr ne)) (E.wr W6) (Or.inr ⟨wy_String_String_coder hw, rfl, rfl⟩) (wn_String hw) (ty := .byte) (by decide) hcd hcf hx (List.mem_cons_self ..) fun h11 W11 => ?_
  exact g_return dj42_151_14 rfl rfl rfl ⟨rfl, ((Keep.refl _ _).wr W6 (Or.inl (List.mem_cons_self ..))).wr W11 (Or.inl (List.mem_cons_self ..)), (E.wr W6).wr W11, (V.same W6).other W11 (Or.inr ne.symm), (C.other W6 (Or.inr ne)).same W11⟩
theorem met_val {z : Int32} (hw : ∀ d ∈ tables_1, d.before a0 Z = true) (S : Sta Z Z.heap "java/lang/String" "COMPACT_STRINGS" "Z" (.int z)) (hz : ¬ z = 0) (c : Int32) (hc0 : ¬ c < 0) (hc : ¬ (255 : Int32) < c) : MetW [] l yVal jdk_42_method_139_code 1 (some (.object "java/lang/String")) (Rm 2 2 5 40) #[.int c] Z a0 EL nw [] h
    (fun v h' => ∃ a, v = some (.ref a) ∧ h.size ≤ a ∧ Ext h h' ∧ Str Z h' a [c]) := by
  refine MetW.of (plainFor_of_name (by first | (simp [plainName, overriddenIn]; done) | decide +kernel)) fun X hX => Go.old fun EZ => ?_
  show Go X _ _ _ _ _ _ _ _ _ _ _ _ _ _ _ _ (mkF X.m 0 #[.val (.int c)] [])
  refine g_getstatic (pc' := 3) dj42_139_0 rfl (wf_String_38 hw) S ?_
  refine g_ifeq (pc' := 6) (pc2 := 26) dj42_139_3 rfl (by decide) rfl (fun c3 => ?_) (fun c3 => absurd c3 hz)
  refine g_iloadN (pc' := 7) dj42_139_6 rfl rfl ?_
  refine g_invokestatic (pc' := 10) [] [_] dj42_139_7 rfl (wl_String_1015 hw) (ws_StringLatin1_canEncode_lCrZ hw) (wi_StringLatin1 hw) (wb_StringLatin1_canEncode_lCrZ hw) (by decide) (Pay.of_met (met_can c hc) (wb_StringLatin1_canEncode_lCrZ hw) (wi_StringLatin1 hw) rfl rfl) pd_lCrZ rfl rfl rfl rfl rfl (fun _ q => nomatch q) fun v7 h7 q7 l7 => ?_
  obtain ⟨rfl, rfl⟩ := q7
  refine g_ifeq (pc' := 13) (pc2 := 26) dj42_139_10 rfl (by decide) rfl (fun c10 => ?_) (fun c10 => absurd c10 (by decide))
  refine g_new (pc' := 16) dj42_139_13 rfl (wc_String_10 hw) (wn_String hw) (wi_String hw) rfl rfl fun h13 a13 e13 E13 A13 D13 => ?_
  refine g_dup (pc' := 17) dj42_139_16 rfl rfl ?_
  refine g_iloadN (pc' := 18) dj42_139_17 rfl rfl ?_
  refine g_invokestatic (pc' := 21) [] [_] dj42_139_18 rfl (wl_String_1018 hw) (ws_StringLatin1_toBytes_lCrAB hw) (wi_StringLatin1 hw) (wb_StringLatin1_toBytes_lCrAB hw) (by decide) (Pay.of_met (met_toB hw c) (wb_StringLatin1_toBytes_lCrAB hw) (wi_StringLatin1 hw) rfl rfl) pd_lCrAB rfl rfl rfl rfl rfl (fun _ q => nomatch q) fun v18 h18 q18 l18 => ?_
  obtain ⟨b, kb, rfl, lb, E18, A18⟩ := q18
  refine g_iconst (pc' := 22) (w := 0) dj42_139_21 rfl (by decide) ?_
  refine g_invokespecial (pc' := 25) [a13] [_, _] dj42_139_22 rfl rfl (wl_String_209 hw) (wm_String_init_lABBrV hw) (wb_String_init_lABBrV hw) (by decide) (Pay.of_met (met_IBB hw (b := b) rfl rfl (by rw [e13]; exact EZ.1) (A13.ext E18) ((D13 (Or.inr (wy_String_String_value hw)) (ty := .array .byte) (by decide)).ext E18) ((D13 (Or.inr (wy_String_String_coder hw)) (ty := .byte) (by decide)).ext E18)) (wb_String_init_lABBrV hw) (wi_String hw) rfl rfl) pd_lABBrV rfl rfl rfl rfl rfl (fun _ q => List.mem_cons.mpr (Or.inl (List.mem_singleton.mp q))) fun v22 h22 q22 l22 => ?_
  obtain ⟨rfl, K22, E22, V22, C22⟩ := q22
  have hne : b ∉ [a13] := ninS (Nat.ne_of_gt (Nat.lt_of_lt_of_le A13.lt lb)) nin0
  exact g_areturn dj42_139_25 rfl rfl rfl rfl rfl rfl ⟨a13, rfl, Nat.le_of_eq e13.symm, ext_keep (ext_trans E13 E18) K22 (allS (Nat.le_of_eq e13.symm) all0), Str.of_lit E22 C22 V22 (A18.keep K22 hne) rfl rfl (by intro c' hc'; cases List.mem_singleton.mp hc'; exact ⟨hc0, hc⟩) (ble rfl)⟩
end ValueOf
abbrev ST : String := "java/lang/String"
abbrev yMk : MethodName := ⟨"com/example/derivant/derivant/cli/DispatchContainsPinLaw", "mk", "(J)Ljava/lang/String;"⟩
abbrev yHit : MethodName := ⟨"com/example/derivant/derivant/cli/DispatchContainsPinLaw", "hit", "([Ljava/lang/String;IILjava/lang/String;)Z"⟩
abbrev yCon : MethodName := ⟨"com/example/derivant/derivant/cli/Dispatch", "contains", "([Ljava/lang/String;ILjava/lang/String;)Z"⟩
theorem own_any {α : Type} (d : α) (f : α → Bool) (es : List α) (hl : es.length ≤ 4) (m : Nat) : (es.drop m).any f = ((decide (0 < es.length) && decide (m ≤ 0) && f (es.getD 0 d)) || (decide (1 < es.length) && decide (m ≤ 1) && f (es.getD 1 d)) || (decide (2 < es.length) && decide (m ≤ 2) && f (es.getD 2 d)) || (decide (3 < es.length) && decide (m ≤ 3) && f (es.getD 3 d))) := by
  rcases es with _ | ⟨e0, _ | ⟨e1, _ | ⟨e2, _ | ⟨e3, _ | ⟨e4, r⟩⟩⟩⟩⟩
  · simp
  · rcases m with _ | m <;> simp
  · rcases m with _ | _ | m <;> simp
  · rcases m with _ | _ | _ | m <;> simp [Bool.or_assoc]
  · rcases m with _ | _ | _ | _ | m <;> simp [Bool.or_assoc]
  · simp at hl
theorem inP0 {P : Addr × List Int32 → Prop} : ∀ q ∈ ([] : List (Addr × List Int32)), P q := fun _ q => nomatch q
theorem inPS {Z : State} {h : Heap} {e : Addr} {c : List Int32} {es : List (Addr × List Int32)} (q : Str Z h e c) (r : ∀ p ∈ es, Str Z h p.1 p.2) : ∀ p ∈ (e, c) :: es, Str Z h p.1 p.2 := fun p z => (List.mem_cons.mp z).elim (fun u => u ▸ q) (r p)
/-- does place i of es hold the text ct, i from m on -/
abbrev hitB (es : List (Addr × List Int32)) (ct : List Int32) (m i : Nat) : Bool := decide (i < es.length) && decide (m ≤ i) && decide ((es.getD i (0, [])).2 = ct)
def b01 (b : Bool) : Int32 := if b then 1 else 0
section Law
variable {l : Launch} {Z : State} {a0 : Array Value} {h : Heap} {z : Int32}
theorem met_mk (hw : ∀ d ∈ tables_1, d.before a0 Z = true) (S : Sta Z Z.heap "java/lang/String" "COMPACT_STRINGS" "Z" (.int z)) (hz : ¬ z = 0) (x : Int64) :
    MetW [] l yMk method_4_code 5 (some (.object "java/lang/String")) (Rm 4 6 12 66) #[.long x] Z a0 consts_1 false [] h (fun v h' => ∃ a cs, v = some (.ref a) ∧ Ext h h' ∧ Str Z h' a cs) := by
  refine MetW.of (plainFor_of_name (by first | (simp [plainName, overriddenIn]; done) | decide +kernel)) fun X hX => Go.old fun EZ => ?_
  show Go X _ _ _ _ _ _ _ _ _ _ _ _ _ _ _ _ (mkF X.m 0 #[.val (.long x), .second, .unset, .unset, .unset] [])
  refine g_lloadN (pc' := 1) dm4_0 rfl rfl ?_
  refine g_ldc2J (pc' := 4) dm4_1 rfl (wk_DispatchContainsPinLaw_29 hw) ?_
  refine g_land (pc' := 5) dm4_4 rfl ?_
  refine g_ldc2J (pc' := 8) dm4_5 rfl (wk_DispatchContainsPinLaw_29 hw) ?_
  refine g_lrem (pc' := 9) dm4_8 rfl (by decide) ?_
  refine g_l2i (pc' := 10) dm4_9 rfl ?_
  generalize ((x &&& 3) - (x &&& 3) / 3 * 3).toInt32 = ln
  refine g_istoreN (pc' := 11) (Ls' := #[_, _, _, _, _]) dm4_10 rfl rfl ?_
  refine g_lloadN (pc' := 12) dm4_11 rfl rfl ?_
  refine g_iconst (pc' := 13) (w := 2) dm4_12 rfl (by decide) ?_
  refine g_lushr (pc' := 14) dm4_13 rfl ?_
  refine g_ldc2J (pc' := 17) dm4_14 rfl (wk_DispatchContainsPinLaw_31 hw) ?_
  refine g_land (pc' := 18) dm4_17 rfl ?_
  refine g_l2i (pc' := 19) dm4_18 rfl ?_
  refine g_i2c (pc' := 20) dm4_19 rfl ?_
  have o1 := ok8L (x.toUInt64 >>> (2 &&& 63 : Int32).toInt64.toUInt64).toInt64
  generalize ((x.toUInt64 >>> (2 &&& 63 : Int32).toInt64.toUInt64).toInt64 &&& 255).toInt32.toUInt32.toUInt16.toUInt32.toInt32 = c0 at o1 ⊢
  refine g_istoreN (pc' := 21) (Ls' := #[_, _, _, _, _]) dm4_20 rfl rfl ?_
  refine g_lloadN (pc' := 22) dm4_21 rfl rfl ?_
  refine g_bipush (pc' := 24) (w := 10) dm4_22 rfl (by decide) ?_
  refine g_lushr (pc' := 25) dm4_24 rfl ?_
  refine g_ldc2J (pc' := 28) dm4_25 rfl (wk_DispatchContainsPinLaw_31 hw) ?_
  refine g_land (pc' := 29) dm4_28 rfl ?_
  refine g_l2i (pc' := 30) dm4_29 rfl ?_
  refine g_i2c (pc' := 31) dm4_30 rfl ?_
  have o2 := ok8L (x.toUInt64 >>> (10 &&& 63 : Int32).toInt64.toUInt64).toInt64
  generalize ((x.toUInt64 >>> (10 &&& 63 : Int32).toInt64.toUInt64).toInt64 &&& 255).toInt32.toUInt32.toUInt16.toUInt32.toInt32 = c1 at o2 ⊢
  refine g_istore (pc' := 33) (Ls' := #[_, _, _, _, _]) dm4_31 rfl rfl ?_
  refine g_iloadN (pc' := 34) dm4_33 rfl rfl ?_
  refine g_ifne (pc' := 37) (pc2 := 48) dm4_34 rfl (by decide) rfl (fun c34 => ?_) (fun c34 => ?_)
  · refine g_new (pc' := 40) dm4_37 rfl (wc_DispatchContainsPinLaw_13 hw) (wn_String hw) (wi_String hw) rfl rfl fun h37 a37 e37 E37 A37 D37 => ?_
    refine g_dup (pc' := 41) dm4_40 rfl rfl ?_
    refine g_iconst (pc' := 42) (w := 0) dm4_41 rfl (by decide) ?_
    refine g_newarray (pc' := 44) (cap := 0) dm4_42 rfl (wa_char hw) (by decide) (by decide) rfl rfl rfl fun h42 a42 k42 e42 E42 A42 => ?_
    have t37 : a37 < h37.size := A37.lt
    have u37 : h.size ≤ h37.size := E37.1
    have z37 : Z.heap.size ≤ h.size := (EZ).1
    have y37 : a37 ≠ a42 := Nat.ne_of_lt (by omega)
    have F37_42 : Ext h h42 := (ext_trans E37 E42)
    refine g_invokespecial (pc' := 47) [a37] [_] dm4_44 rfl rfl (wl_DispatchContainsPinLaw_33 hw) (wm_String_init_lACrV hw) (wb_String_init_lACrV hw) (by decide) (pay_new0 hw (by decide) (by omega) ((A37).ext E42) ((D37 (Or.inr (wy_String_String_value hw)) (ty := .array .byte) (by decide)).ext E42) ((D37 (Or.inr (wy_String_String_coder hw)) (ty := .byte) (by decide)).ext E42) A42 rfl rfl) pd_lACrV rfl rfl rfl rfl rfl (fun _ q => by cases List.mem_singleton.mp q; simp) fun v44 h44 q44 l44 => ?_
    obtain ⟨rfl, K44, T37⟩ := q44
    have F37 : Ext h h44 := ext_keep F37_42 K44 (allS (by omega) all0)
    refine g_areturn dm4_47 rfl rfl rfl rfl rfl rfl (⟨a37, [], rfl, F37, T37⟩)
  · refine g_iloadN (pc' := 49) dm4_48 rfl rfl ?_
    refine g_iconst (pc' := 50) (w := 1) dm4_49 rfl (by decide) ?_
    refine g_icmpne (pc' := 53) (pc2 := 58) dm4_50 rfl (by decide) rfl (fun c50 => ?_) (fun c50 => ?_)
    · refine g_iloadN (pc' := 54) dm4_53 rfl rfl ?_
      refine g_invokestatic (pc' := 57) [] [_] dm4_54 rfl (wl_DispatchContainsPinLaw_36 hw) (ws_String_valueOf_lCrLjavalangString hw) (wi_String hw) (wb_String_valueOf_lCrLjavalangString hw) (by decide) (Pay.of_met (met_val hw S hz c0 o1.1 o1.2) (wb_String_valueOf_lCrLjavalangString hw) (wi_String hw) rfl rfl) pd_lCrLjavalangString rfl rfl rfl rfl rfl (fun _ q => nomatch q) fun v54 h54 q54 l54 => ?_
      obtain ⟨a, rfl, -, E54, T54⟩ := q54
      refine g_areturn dm4_57 rfl rfl rfl rfl rfl rfl (⟨a, [c0], rfl, E54, T54⟩)
    · refine g_new (pc' := 61) dm4_58 rfl (wc_DispatchContainsPinLaw_13 hw) (wn_String hw) (wi_String hw) rfl rfl fun h58 a58 e58 E58 A58 D58 => ?_
      refine g_dup (pc' := 62) dm4_61 rfl rfl ?_
      refine g_iconst (pc' := 63) (w := 2) dm4_62 rfl (by decide) ?_
      refine g_newarray (pc' := 65) (cap := 2) dm4_63 rfl (wa_char hw) (by decide) (by decide) rfl rfl rfl fun h63 a63 k63 e63 E63 A63 => ?_
      have t58 : a58 < h58.size := A58.lt
      have u58 : h.size ≤ h58.size := E58.1
      have z58 : Z.heap.size ≤ h.size := (EZ).1
      have y58 : a58 ≠ a63 := Nat.ne_of_lt (by omega)
      have F58_63 : Ext h h63 := (ext_trans E58 E63)
      refine g_dup (pc' := 66) dm4_65 rfl rfl ?_
      refine g_iconst (pc' := 67) (w := 0) dm4_66 rfl (by decide) ?_
      refine g_iloadN (pc' := 68) dm4_67 rfl rfl ?_
      refine g_castoreX (pc' := 69) (i := 0) dm4_68 rfl (nar8 o1) A63 (by omega) (by decide) (by decide) (ble rfl) fun h68 K68 A68 => ?_
      have F58_68 : Ext h h68 := ext_keep F58_63 K68 (allS (by omega) all0)
      refine g_dup (pc' := 70) dm4_69 rfl rfl ?_
      refine g_iconst (pc' := 71) (w := 1) dm4_70 rfl (by decide) ?_
      refine g_iload (pc' := 73) dm4_71 rfl rfl ?_
      refine g_castoreX (pc' := 74) (i := 1) dm4_73 rfl (nar8 o2) A68 (by omega) (by decide) (by decide) (ble rfl) fun h73 K73 A73 => ?_
      have F58_73 : Ext h h73 := ext_keep F58_68 K73 (allS (by omega) all0)
      refine g_invokespecial (pc' := 77) [a58] [_] dm4_74 rfl rfl (wl_DispatchContainsPinLaw_33 hw) (wm_String_init_lACrV hw) (wb_String_init_lACrV hw) (by decide) (pay_new (cs := [c0, c1]) (n := 2) (own_new hw) (wn_String hw) S hz (ext_trans (EZ) F58_73) (by omega) ((((A58).ext E63).keep K68).keep K73) ((((D58 (Or.inr (wy_String_String_value hw)) (ty := .array .byte) (by decide)).ext E63).keep K68 (ninS y58 nin0)).keep K73 (ninS y58 nin0)) ((((D58 (Or.inr (wy_String_String_coder hw)) (ty := .byte) (by decide)).ext E63).keep K68 (ninS y58 nin0)).keep K73 (ninS y58 nin0)) A73 rfl rfl rfl rfl (inS o1 (inS o2 in0)) rfl rfl) pd_lACrV rfl rfl rfl rfl rfl (fun _ q => by cases List.mem_singleton.mp q; simp) fun v74 h74 q74 l74 => ?_
      obtain ⟨rfl, K74, T58⟩ := q74
      have F58 : Ext h h74 := ext_keep F58_73 K74 (allS (by omega) all0)
      refine g_areturn dm4_77 rfl rfl rfl rfl rfl rfl (⟨a58, [c0, c1], rfl, F58, T58⟩)
theorem own_at {es : List (Addr × List Int32)} {i : Nat} (hi : i < es.length) : (es.map fun p => Value.ref p.1).getD i .null = .ref (es.getD i (0, [])).1 := by
  simp [List.getD_eq_getElem?_getD, hi]
theorem own_in {P : Addr × List Int32 → Prop} {es : List (Addr × List Int32)} {i : Nat} (hi : i < es.length) (q : ∀ p ∈ es, P p) : P (es.getD i (0, [])) := by
  have : es.getD i (0, []) = es[i] := by simp [List.getD_eq_getElem?_getD, hi]
  rw [this]
  exact q _ (List.getElem_mem hi)
theorem met_hit (hw : ∀ d ∈ tables_1, d.before a0 Z = true) (S : Sta Z Z.heap "java/lang/String" "COMPACT_STRINGS" "Z" (.int z)) (hz : ¬ z = 0) {arr tok : Addr} {kA : ClassId} {es : List (Addr × List Int32)} {ct : List Int32} {m i : Nat} (hm : m < 2147483648) (hi : i < 4) (hl : es.length ≤ 4) (A : Arv Z h arr kA (.object ST) (Int32.ofNat es.length) (es.map fun p => Value.ref p.1) .null) (Te : ∀ p ∈ es, Str Z h p.1 p.2) (Tt : Str Z h tok ct) :
    MetW [] l yHit method_3_code 4 (some .boolean) (Rm 2 0 0 28) #[.ref arr, .int (Int32.ofNat i), .int (Int32.ofNat m), .ref tok] Z a0 consts_1 false [] h (fun v h' => v = some (.int (b01 (hitB es ct m i))) ∧ h' = h) := by
  have no : ∀ {X : Cx}, (¬ (i < es.length ∧ m ≤ i ∧ (es.getD i (0, [])).2 = ct)) → Go X (Rm 2 0 0 28) Z a0 consts_1 false yHit method_3_code 4 (some .boolean) (fun v h' => v = some (.int (b01 (hitB es ct m i))) ∧ h' = h) 0 0 [] h 0 0 (mkF X.m 25 #[.val (.ref arr), .val (.int (Int32.ofNat i)), .val (.int (Int32.ofNat m)), .val (.ref tok)] []) := by
    intro X hn
    refine g_iconst (pc' := 26) (w := 0) dm3_25 rfl (by decide) ?_
    refine g_ireturn (t := .boolean) dm3_26 rfl (by simp) rfl rfl rfl (⟨?_, rfl⟩)
    have : hitB es ct m i = false := by
      rw [Bool.eq_false_iff]
      intro q
      simp only [hitB, Bool.and_eq_true, decide_eq_true_eq] at q
      exact hn ⟨q.1.1, q.1.2, q.2⟩
    rw [this]; rfl
  refine MetW.of (plainFor_of_name (by first | (simp [plainName, overriddenIn]; done) | decide +kernel)) fun X hX => Go.old fun EZ => ?_
  show Go X _ _ _ _ _ _ _ _ _ _ _ _ _ _ _ _ (mkF X.m 0 #[.val (.ref arr), .val (.int (Int32.ofNat i)), .val (.int (Int32.ofNat m)), .val (.ref tok)] [])
  refine g_iloadN (pc' := 1) dm3_0 rfl rfl ?_
  refine g_aloadN (pc' := 2) dm3_1 rfl rfl rfl ?_
  refine g_arraylength (pc' := 3) dm3_2 rfl (A) ?_
  refine g_icmpge (pc' := 6) (pc2 := 25) dm3_3 rfl (by decide) rfl (fun c3 => ?_) (fun c3 => ?_)
  · have ci := (ofNat_lt (by omega) (by omega)).mp c3
    refine g_iloadN (pc' := 7) dm3_6 rfl rfl ?_
    refine g_iloadN (pc' := 8) dm3_7 rfl rfl ?_
    refine g_icmplt (pc' := 11) (pc2 := 25) dm3_8 rfl (by decide) rfl (fun c8 => ?_) (fun c8 => ?_)
    · have cm : m ≤ i := Nat.le_of_not_lt fun q => c8 ((ofNat_lt (by omega) hm).mpr q)
      refine g_aloadN (pc' := 12) dm3_11 rfl rfl rfl ?_
      refine g_iloadN (pc' := 13) dm3_12 rfl rfl ?_
      refine g_aaload (pc' := 14) (v := .ref (es.getD i (0, [])).1) dm3_13 rfl (A) rfl (⟨ofNat_nn (by omega), c3⟩) (by rw [ofNat_clamp (by omega)]; exact own_at ci) ?_
      refine g_aloadN (pc' := 15) dm3_14 rfl rfl rfl ?_
      have Ti := own_in ci Te
      refine g_invokevirtual (pc' := 18) [] [_] dm3_15 rfl (wl_DispatchContainsPinLaw_25 hw) (wd_String_equals_lLjavalangObjectrZ hw) (wv_String_String_equals_lLjavalangObjectrZ hw) (wm_String_equals_lLjavalangObjectrZ hw) (by decide) (Ti.exa) (pay_eq (own_eq hw) (wn_String hw) S hz EZ Ti Tt rfl rfl) pd_lLjavalangObjectrZ rfl rfl rfl rfl rfl (fun _ q => nomatch q) fun v15 h15 q15 l15 => ?_
      obtain ⟨⟨rfl, e⟩ | ⟨rfl, e⟩, rfl⟩ := q15
      · refine g_ifeq (pc' := 21) (pc2 := 25) dm3_18 rfl (by decide) rfl (fun c18 => ?_) (fun c18 => False.elim (absurd c18 (by decide)))
        refine g_iconst (pc' := 22) (w := 1) dm3_21 rfl (by decide) ?_
        refine g_goto (pc' := 26) dm3_22 (by decide) rfl ?_
        refine g_ireturn (t := .boolean) dm3_26 rfl (by simp) rfl rfl rfl (⟨?_, rfl⟩)
        have : hitB es ct m i = true := by
          simp only [hitB, Bool.and_eq_true, decide_eq_true_eq]
          exact ⟨⟨ci, cm⟩, e⟩
        rw [this]; rfl
      · refine g_ifeq (pc' := 21) (pc2 := 25) dm3_18 rfl (by decide) rfl (fun c18 => False.elim (c18 rfl)) (fun c18 => ?_)
        exact no fun q => e q.2.2
    · have cm : i < m := (ofNat_lt (by omega) hm).mp c8
      exact no fun q => absurd q.2.1 (by omega)
  · exact no fun q => c3 ((ofNat_lt (by omega) (by omega)).mpr q.1)
theorem met_con (hw : ∀ d ∈ tables_1, d.before a0 Z = true) (S : Sta Z Z.heap "java/lang/String" "COMPACT_STRINGS" "Z" (.int z)) (hz : ¬ z = 0) {arr tok : Addr} {kA : ClassId} {es : List (Addr × List Int32)} {ct : List Int32} {m : Nat} (hm : m < 2147483648) (hl : es.length ≤ 4) (A : Arv Z h arr kA (.object ST) (Int32.ofNat es.length) (es.map fun p => Value.ref p.1) .null) (Te : ∀ p ∈ es, Str Z h p.1 p.2) (Tt : Str Z h tok ct) :
    MetW [] l yCon prog_11_method_13_code 4 (some .boolean) (Rm 2 0 0 28) #[.ref arr, .int (Int32.ofNat m), .ref tok] Z a0 consts_1 false [] h (fun v h' => v = some (.int (b01 ((es.drop m).any fun p => decide (p.2 = ct)))) ∧ h' = h) := by
  refine MetW.of (plainFor_of_name (by first | (simp [plainName, overriddenIn]; done) | decide +kernel)) fun X hX => Go.old fun EZ => ?_
  show Go X _ _ _ _ _ _ _ _ _ _ _ _ _ _ _ _ (mkF X.m 0 #[.val (.ref arr), .val (.int (Int32.ofNat m)), .val (.ref tok), .unset] [])
  refine g_iloadN (pc' := 1) dp11_13_0 rfl rfl ?_
  refine g_istoreN (pc' := 2) (Ls' := #[_, _, _, _]) dp11_13_1 rfl rfl ?_
  have loop : ∀ k j, es.length - j = k → j < 2147483648 → ((es.drop m).any fun p => decide (p.2 = ct)) = ((es.drop j).any fun p => decide (p.2 = ct)) → Go X (Rm 2 0 0 28) Z a0 consts_1 false yCon prog_11_method_13_code 4 (some .boolean) (fun v h' => v = some (.int (b01 ((es.drop m).any fun p => decide (p.2 = ct)))) ∧ h' = h) 0 0 [] h 0 0 (mkF X.m 2 #[.val (.ref arr), .val (.int (Int32.ofNat m)), .val (.ref tok), .val (.int (Int32.ofNat j))] []) := by
    intro k
    induction k with
    | zero =>
      intro j hk hj inv
      refine g_iloadN (pc' := 3) dp11_13_2 rfl rfl ?_
      refine g_aloadN (pc' := 4) dp11_13_3 rfl rfl rfl ?_
      refine g_arraylength (pc' := 5) dp11_13_4 rfl (A) ?_
      refine g_icmpge (pc' := 8) (pc2 := 26) dp11_13_5 rfl (by decide) rfl (fun c5 => False.elim (absurd ((ofNat_lt hj (by omega)).mp c5) (by omega))) (fun c5 => ?_)
      refine g_iconst (pc' := 27) (w := 0) dp11_13_26 rfl (by decide) ?_
      refine g_ireturn (t := .boolean) dp11_13_27 rfl (by simp) rfl rfl rfl (⟨?_, rfl⟩)
      rw [inv, List.drop_eq_nil_of_le (by omega)]; rfl
    | succ k ih =>
      intro j hk hj inv
      have ci : j < es.length := by omega
      have e1 : es.drop j = es.getD j (0, []) :: es.drop (j + 1) := by
        rw [List.drop_eq_getElem_cons ci]
        simp [List.getD_eq_getElem?_getD, ci]
      refine g_iloadN (pc' := 3) dp11_13_2 rfl rfl ?_
      refine g_aloadN (pc' := 4) dp11_13_3 rfl rfl rfl ?_
      refine g_arraylength (pc' := 5) dp11_13_4 rfl (A) ?_
      refine g_icmpge (pc' := 8) (pc2 := 26) dp11_13_5 rfl (by decide) rfl (fun c5 => ?_) (fun c5 => False.elim (c5 ((ofNat_lt hj (by omega)).mpr ci)))
      refine g_aloadN (pc' := 9) dp11_13_8 rfl rfl rfl ?_
      refine g_iloadN (pc' := 10) dp11_13_9 rfl rfl ?_
      refine g_aaload (pc' := 11) (v := .ref (es.getD j (0, [])).1) dp11_13_10 rfl (A) rfl (⟨ofNat_nn (by omega), c5⟩) (by rw [ofNat_clamp (by omega)]; exact own_at ci) ?_
      refine g_aloadN (pc' := 12) dp11_13_11 rfl rfl rfl ?_
      have Ti := own_in ci Te
      refine g_invokevirtual (pc' := 15) [] [_] dp11_13_12 rfl (wl_Dispatch_160 hw) (wd_String_equals_lLjavalangObjectrZ hw) (wv_String_String_equals_lLjavalangObjectrZ hw) (wm_String_equals_lLjavalangObjectrZ hw) (by decide) (Ti.exa) (pay_eq (own_eq hw) (wn_String hw) S hz EZ Ti Tt rfl rfl) pd_lLjavalangObjectrZ rfl rfl rfl rfl rfl (fun _ q => nomatch q) fun v12 h12 q12 l12 => ?_
      obtain ⟨⟨rfl, e⟩ | ⟨rfl, e⟩, rfl⟩ := q12
      · refine g_ifeq (pc' := 18) (pc2 := 20) dp11_13_15 rfl (by decide) rfl (fun c15 => ?_) (fun c15 => False.elim (absurd c15 (by decide)))
        refine g_iconst (pc' := 19) (w := 1) dp11_13_18 rfl (by decide) ?_
        refine g_ireturn (t := .boolean) dp11_13_19 rfl (by simp) rfl rfl rfl (⟨?_, rfl⟩)
        rw [inv, e1, List.any_cons, decide_eq_true e]; rfl
      · refine g_ifeq (pc' := 18) (pc2 := 20) dp11_13_15 rfl (by decide) rfl (fun c15 => False.elim (c15 rfl)) (fun c15 => ?_)
        refine g_iinc (pc' := 23) (Ls' := #[.val (.ref arr), .val (.int (Int32.ofNat m)), .val (.ref tok), .val (.int (Int32.ofNat (j + 1)))]) dp11_13_20 rfl rfl (by rw [ofNat_succ]; rfl) ?_
        refine g_goto (pc' := 2) dp11_13_23 (by decide) rfl ?_
        refine ih (j + 1) (by omega) (by omega) ?_
        rw [inv, e1, List.any_cons, decide_eq_false e, Bool.false_or]
  exact loop _ m rfl hm rfl
abbrev GoL (X : Cx) (Z : State) (a0 : Array Value) (h : Heap) (k n : Nat) (g : JFrame) : Prop := Go X room_1 Z a0 consts_1 false x code maxLocals ret (fun v h' => v = some (.int 1)) room_1.cells room_1.slots [] h k n g
theorem own_n (x : Int32) : ∃ j : Nat, j < 5 ∧ (x &&& 7) % 5 = Int32.ofNat j := by
  refine and_small (P := fun y => ∃ j : Nat, j < 5 ∧ y % 5 = Int32.ofNat j) 7 (by decide) fun i hi => ⟨i % 5, by omega, ?_⟩
  have : ∀ i : Fin 8, Int32.ofNat i.val % 5 = Int32.ofNat (i.val % 5) := by decide
  exact this ⟨i, by omega⟩
theorem met_law (hw : ∀ d ∈ tables_1, d.before a0 Z = true) (S : Sta Z Z.heap "java/lang/String" "COMPACT_STRINGS" "Z" (.int z)) (hz : ¬ z = 0) (ws : List Jvm.Cond) (p0 p1 : Int32) (p2 p3 p4 : Int64) :
    MetW ws l x code maxLocals ret room_1 #[.int p0, .int p1, .long p2, .long p3, .long p4] Z a0 consts_1 false [] h (fun v h' => v = some (.int 1)) := by
  refine MetW.of (plainFor_of_name (by first | (simp [plainName, overriddenIn]; done) | decide +kernel)) fun X hX => Go.old fun EZ => ?_
  show Go X _ _ _ _ _ _ _ _ _ _ _ _ _ _ _ _ (mkF X.m 0 #[.val (.int p0), .val (.int p1), .val (.long p2), .second, .val (.long p3), .second, .val (.long p4), .second, .unset, .unset, .unset, .unset, .unset, .unset, .unset, .unset, .unset] [])
  obtain ⟨j, hj, ej⟩ := own_n p0
  -- from the comparison on
  have J5 : ∀ (h' : Heap) (arr : Addr) (kA : ClassId) (nn : Int32) (es : List (Addr × List Int32)) (e0 e1 e2 e3 : Value) (m : Nat), m < 2147483648 → ∀ (tok : Addr) (ct : List Int32), Ext Z.heap h' → Arv Z h' arr kA (.object ST) nn (es.map fun p => Value.ref p.1) .null → nn = Int32.ofNat es.length → es.length ≤ 4 → (∀ p ∈ es, Str Z h' p.1 p.2) → Str Z h' tok ct →
      GoL X Z a0 h' 31 64 (mkF X.m 177 #[.val (.int p0), .val (.int p1), .val (.long p2), .second, .val (.long p3), .second, .val (.long p4), .second, .val (.int nn), .val (.int (Int32.ofNat m)), .val (.ref tok), .val e0, .val e1, .val e2, .val e3, .val (.ref arr), .unset] []) := by
    intro h' arr kA nn es e0 e1 e2 e3 m hm tok ct EZ' A hnn hl Te Tt
    subst hnn
    have J6 : ∀ b : Bool, b = ((es.drop m).any fun p => decide (p.2 = ct)) → GoL X Z a0 h' 31 64 (mkF X.m 234 #[.val (.int p0), .val (.int p1), .val (.long p2), .second, .val (.long p3), .second, .val (.long p4), .second, .val (.int (Int32.ofNat es.length)), .val (.int (Int32.ofNat m)), .val (.ref tok), .val e0, .val e1, .val e2, .val e3, .val (.ref arr), .unset] [.int (b01 b)]) := by
      intro b hb
      refine g_istore (pc' := 236) (Ls' := #[_, _, _, _, _, _, _, _, _, _, _, _, _, _, _, _, _]) at_234 rfl rfl ?_
      refine g_aload (pc' := 238) at_236 rfl rfl rfl ?_
      refine g_iload (pc' := 240) at_238 rfl rfl ?_
      refine g_aload (pc' := 242) at_240 rfl rfl rfl ?_
      refine g_invokestatic (pc' := 245) [] [_, _, _] at_242 rfl (wl_DispatchContainsPinLaw_19 hw) (ws_Dispatch_contains_lALjavalangStringILjavalangStringrZ hw) (wi_Dispatch hw) (wb_Dispatch_contains_lALjavalangStringILjavalangStringrZ hw) (by decide) (Pay.of_met (met_con hw S hz hm hl A Te Tt) (wb_Dispatch_contains_lALjavalangStringILjavalangStringrZ hw) (wi_Dispatch hw) rfl rfl) pd_lALjavalangStringILjavalangStringrZ rfl rfl rfl rfl rfl (fun _ q => nomatch q) fun v242 h242 q242 l242 => ?_
      obtain ⟨rfl, rfl⟩ := q242
      refine g_iload (pc' := 247) at_245 rfl rfl ?_
      refine g_icmpne (pc' := 250) (pc2 := 254) at_247 rfl (by decide) rfl (fun c247 => ?_) (fun c247 => False.elim (c247 (by rw [hb])))
      refine g_iconst (pc' := 251) (w := 1) at_250 rfl (by decide) ?_
      refine g_goto (pc' := 255) at_251 (by decide) rfl ?_
      refine g_ireturn (t := .boolean) at_255 rfl (by simp) rfl rfl rfl (rfl)
    have J : ∀ b : Bool, GoL X Z a0 h' 31 64 (mkF X.m 229 #[.val (.int p0), .val (.int p1), .val (.long p2), .second, .val (.long p3), .second, .val (.long p4), .second, .val (.int (Int32.ofNat es.length)), .val (.int (Int32.ofNat m)), .val (.ref tok), .val e0, .val e1, .val e2, .val e3, .val (.ref arr), .unset] []) ∨ ((es.drop m).any fun p => decide (p.2 = ct)) = false := by
      intro b
      cases q : ((es.drop m).any fun p => decide (p.2 = ct)) with
      | false => exact Or.inr rfl
      | true =>
        refine Or.inl ?_
        refine g_iconst (pc' := 230) (w := 1) at_229 rfl (by decide) ?_
        refine g_goto (pc' := 234) at_230 (by decide) rfl ?_
        exact J6 true q.symm
    have any4 := own_any (0, []) (fun p : Addr × List Int32 => decide (p.2 = ct)) es hl m
    have yes : (hitB es ct m 0 || hitB es ct m 1 || hitB es ct m 2 || hitB es ct m 3) = true → GoL X Z a0 h' 31 64 (mkF X.m 229 #[.val (.int p0), .val (.int p1), .val (.long p2), .second, .val (.long p3), .second, .val (.long p4), .second, .val (.int (Int32.ofNat es.length)), .val (.int (Int32.ofNat m)), .val (.ref tok), .val e0, .val e1, .val e2, .val e3, .val (.ref arr), .unset] []) := by
      intro q
      rcases J true with g | g
      · exact g
      · rw [any4] at g; exact absurd (q.symm.trans g) (by decide)
    refine g_aload (pc' := 179) at_177 rfl rfl rfl ?_
    refine g_iconst (pc' := 180) (w := 0) at_179 rfl (by decide) ?_
    refine g_iload (pc' := 182) at_180 rfl rfl ?_
    refine g_aload (pc' := 184) at_182 rfl rfl rfl ?_
    refine g_invokestatic (pc' := 187) [] [_, _, _, _] at_184 rfl (wl_DispatchContainsPinLaw_15 hw) (ws_DispatchContainsPinLaw_hit_lALjavalangStringIILjavalangStringrZ hw) (wi_DispatchContainsPinLaw hw) (wb_DispatchContainsPinLaw_hit_lALjavalangStringIILjavalangStringrZ hw) (by decide) (Pay.of_met (met_hit hw S hz (i := 0) hm (by decide) hl A Te Tt) (wb_DispatchContainsPinLaw_hit_lALjavalangStringIILjavalangStringrZ hw) (wi_DispatchContainsPinLaw hw) rfl rfl) pd_lALjavalangStringIILjavalangStringrZ rfl rfl rfl rfl rfl (fun _ q => nomatch q) fun v184 h184 q184 l184 => ?_
    obtain ⟨rfl, rfl⟩ := q184
    cases b0 : hitB es ct m 0 with
    | true =>
      refine g_ifne (pc' := 190) (pc2 := 229) at_187 rfl (by decide) rfl (fun c187 => False.elim (absurd c187 (by decide))) (fun c187 => ?_)
      exact yes (by rw [b0]; rfl)
    | false =>
      refine g_ifne (pc' := 190) (pc2 := 229) at_187 rfl (by decide) rfl (fun c187 => ?_) (fun c187 => False.elim (c187 rfl))
      refine g_aload (pc' := 192) at_190 rfl rfl rfl ?_
      refine g_iconst (pc' := 193) (w := 1) at_192 rfl (by decide) ?_
      refine g_iload (pc' := 195) at_193 rfl rfl ?_
      refine g_aload (pc' := 197) at_195 rfl rfl rfl ?_
      refine g_invokestatic (pc' := 200) [] [_, _, _, _] at_197 rfl (wl_DispatchContainsPinLaw_15 hw) (ws_DispatchContainsPinLaw_hit_lALjavalangStringIILjavalangStringrZ hw) (wi_DispatchContainsPinLaw hw) (wb_DispatchContainsPinLaw_hit_lALjavalangStringIILjavalangStringrZ hw) (by decide) (Pay.of_met (met_hit hw S hz (i := 1) hm (by decide) hl A Te Tt) (wb_DispatchContainsPinLaw_hit_lALjavalangStringIILjavalangStringrZ hw) (wi_DispatchContainsPinLaw hw) rfl rfl) pd_lALjavalangStringIILjavalangStringrZ rfl rfl rfl rfl rfl (fun _ q => nomatch q) fun v197 h197 q197 l197 => ?_
      obtain ⟨rfl, rfl⟩ := q197
      cases b1 : hitB es ct m 1 with
      | true =>
        refine g_ifne (pc' := 203) (pc2 := 229) at_200 rfl (by decide) rfl (fun c200 => False.elim (absurd c200 (by decide))) (fun c200 => ?_)
        exact yes (by rw [b0, b1]; rfl)
      | false =>
        refine g_ifne (pc' := 203) (pc2 := 229) at_200 rfl (by decide) rfl (fun c200 => ?_) (fun c200 => False.elim (c200 rfl))
        refine g_aload (pc' := 205) at_203 rfl rfl rfl ?_
        refine g_iconst (pc' := 206) (w := 2) at_205 rfl (by decide) ?_
        refine g_iload (pc' := 208) at_206 rfl rfl ?_
        refine g_aload (pc' := 210) at_208 rfl rfl rfl ?_
        refine g_invokestatic (pc' := 213) [] [_, _, _, _] at_210 rfl (wl_DispatchContainsPinLaw_15 hw) (ws_DispatchContainsPinLaw_hit_lALjavalangStringIILjavalangStringrZ hw) (wi_DispatchContainsPinLaw hw) (wb_DispatchContainsPinLaw_hit_lALjavalangStringIILjavalangStringrZ hw) (by decide) (Pay.of_met (met_hit hw S hz (i := 2) hm (by decide) hl A Te Tt) (wb_DispatchContainsPinLaw_hit_lALjavalangStringIILjavalangStringrZ hw) (wi_DispatchContainsPinLaw hw) rfl rfl) pd_lALjavalangStringIILjavalangStringrZ rfl rfl rfl rfl rfl (fun _ q => nomatch q) fun v210 h210 q210 l210 => ?_
        obtain ⟨rfl, rfl⟩ := q210
        cases b2 : hitB es ct m 2 with
        | true =>
          refine g_ifne (pc' := 216) (pc2 := 229) at_213 rfl (by decide) rfl (fun c213 => False.elim (absurd c213 (by decide))) (fun c213 => ?_)
          exact yes (by rw [b0, b1, b2]; rfl)
        | false =>
          refine g_ifne (pc' := 216) (pc2 := 229) at_213 rfl (by decide) rfl (fun c213 => ?_) (fun c213 => False.elim (c213 rfl))
          refine g_aload (pc' := 218) at_216 rfl rfl rfl ?_
          refine g_iconst (pc' := 219) (w := 3) at_218 rfl (by decide) ?_
          refine g_iload (pc' := 221) at_219 rfl rfl ?_
          refine g_aload (pc' := 223) at_221 rfl rfl rfl ?_
          refine g_invokestatic (pc' := 226) [] [_, _, _, _] at_223 rfl (wl_DispatchContainsPinLaw_15 hw) (ws_DispatchContainsPinLaw_hit_lALjavalangStringIILjavalangStringrZ hw) (wi_DispatchContainsPinLaw hw) (wb_DispatchContainsPinLaw_hit_lALjavalangStringIILjavalangStringrZ hw) (by decide) (Pay.of_met (met_hit hw S hz (i := 3) hm (by decide) hl A Te Tt) (wb_DispatchContainsPinLaw_hit_lALjavalangStringIILjavalangStringrZ hw) (wi_DispatchContainsPinLaw hw) rfl rfl) pd_lALjavalangStringIILjavalangStringrZ rfl rfl rfl rfl rfl (fun _ q => nomatch q) fun v223 h223 q223 l223 => ?_
          obtain ⟨rfl, rfl⟩ := q223
          cases b3 : hitB es ct m 3 with
          | true =>
            refine g_ifeq (pc' := 229) (pc2 := 233) at_226 rfl (by decide) rfl (fun c226 => ?_) (fun c226 => False.elim (absurd c226 (by decide)))
            exact yes (by rw [b0, b1, b2, b3]; rfl)
          | false =>
            refine g_ifeq (pc' := 229) (pc2 := 233) at_226 rfl (by decide) rfl (fun c226 => False.elim (c226 rfl)) (fun c226 => ?_)
            refine g_iconst (pc' := 234) (w := 0) at_233 rfl (by decide) ?_
            refine J6 false ?_
            rw [any4]
            show false = (hitB es ct m 0 || hitB es ct m 1 || hitB es ct m 2 || hitB es ct m 3)
            rw [b0, b1, b2, b3]; rfl
  -- the array
  have J4 : ∀ (h' : Heap) (m : Nat), m < 2147483648 → ∀ (tok e0 e1 e2 e3 : Addr) (ct c0 c1 c2 c3 : List Int32), Ext Z.heap h' → Str Z h' tok ct → Str Z h' e0 c0 → Str Z h' e1 c1 → Str Z h' e2 c2 → Str Z h' e3 c3 →
      GoL X Z a0 h' 30 60 (mkF X.m 123 #[.val (.int p0), .val (.int p1), .val (.long p2), .second, .val (.long p3), .second, .val (.long p4), .second, .val (.int (Int32.ofNat j)), .val (.int (Int32.ofNat m)), .val (.ref tok), .val (.ref e0), .val (.ref e1), .val (.ref e2), .val (.ref e3), .unset, .unset] []) := by
    intro h' m hm tok e0 e1 e2 e3 ct c0 c1 c2 c3 EZ' Tt T0 T1 T2 T3
    rcases j with _ | _ | _ | _ | _ | j
    · -- n = 0
      refine g_iload (pc' := 125) at_123 rfl rfl ?_
      refine g_anewarray (pc' := 128) (cap := 0) at_125 rfl (wc_DispatchContainsPinLaw_13 hw) (wo_String hw) (by decide) (by decide) rfl rfl rfl fun h125 a125 k125 e125 E125 O125 A125 => ?_
      have z0 : Z.heap.size ≤ h'.size := EZ'.1
      have X0 : Ext h' h125 := E125
      refine g_astore (pc' := 130) (Ls' := #[_, _, _, _, _, _, _, _, _, _, _, _, _, _, _, _, _]) at_128 rfl rfl rfl ?_
      refine g_iload (pc' := 132) at_130 rfl rfl ?_
      refine g_ifle (pc' := 135) (pc2 := 141) at_132 rfl (by decide) rfl (fun c132 => False.elim (absurd c132 (by decide))) (fun c132 => ?_)
      refine g_iload (pc' := 143) at_141 rfl rfl ?_
      refine g_iconst (pc' := 144) (w := 1) at_143 rfl (by decide) ?_
      refine g_icmple (pc' := 147) (pc2 := 153) at_144 rfl (by decide) rfl (fun c144 => False.elim (absurd c144 (by decide))) (fun c144 => ?_)
      refine g_iload (pc' := 155) at_153 rfl rfl ?_
      refine g_iconst (pc' := 156) (w := 2) at_155 rfl (by decide) ?_
      refine g_icmple (pc' := 159) (pc2 := 165) at_156 rfl (by decide) rfl (fun c156 => False.elim (absurd c156 (by decide))) (fun c156 => ?_)
      refine g_iload (pc' := 167) at_165 rfl rfl ?_
      refine g_iconst (pc' := 168) (w := 3) at_167 rfl (by decide) ?_
      refine g_icmple (pc' := 171) (pc2 := 177) at_168 rfl (by decide) rfl (fun c168 => False.elim (absurd c168 (by decide))) (fun c168 => ?_)
      exact Go.drop (Go.mono 31 64 rfl rfl (J5 h125 _ _ _ [] _ _ _ _ m hm tok ct (ext_trans EZ' X0) A125 rfl (ble rfl) (inP0) (Tt.ext X0)))
    · -- n = 1
      refine g_iload (pc' := 125) at_123 rfl rfl ?_
      refine g_anewarray (pc' := 128) (cap := 1) at_125 rfl (wc_DispatchContainsPinLaw_13 hw) (wo_String hw) (by decide) (by decide) rfl rfl rfl fun h125 a125 k125 e125 E125 O125 A125 => ?_
      have z0 : Z.heap.size ≤ h'.size := EZ'.1
      have X0 : Ext h' h125 := E125
      refine g_astore (pc' := 130) (Ls' := #[_, _, _, _, _, _, _, _, _, _, _, _, _, _, _, _, _]) at_128 rfl rfl rfl ?_
      refine g_iload (pc' := 132) at_130 rfl rfl ?_
      refine g_ifle (pc' := 135) (pc2 := 141) at_132 rfl (by decide) rfl (fun c132 => ?_) (fun c132 => False.elim (absurd (by decide) c132))
      refine g_aload (pc' := 137) at_135 rfl rfl rfl ?_
      refine g_iconst (pc' := 138) (w := 0) at_137 rfl (by decide) ?_
      refine g_aload (pc' := 140) at_138 rfl rfl rfl ?_
      refine g_aastore (pc' := 141) (i := 0) at_140 rfl A125 O125 (Ins.self (T0.exa.ext X0)) (by omega) (by decide) (by decide) (ble rfl) fun h140 K140 A140 => ?_
      have X140 : Ext h' h140 := ext_keep X0 K140 (allS (by omega) all0)
      refine g_iload (pc' := 143) at_141 rfl rfl ?_
      refine g_iconst (pc' := 144) (w := 1) at_143 rfl (by decide) ?_
      refine g_icmple (pc' := 147) (pc2 := 153) at_144 rfl (by decide) rfl (fun c144 => False.elim (absurd c144 (by decide))) (fun c144 => ?_)
      refine g_iload (pc' := 155) at_153 rfl rfl ?_
      refine g_iconst (pc' := 156) (w := 2) at_155 rfl (by decide) ?_
      refine g_icmple (pc' := 159) (pc2 := 165) at_156 rfl (by decide) rfl (fun c156 => False.elim (absurd c156 (by decide))) (fun c156 => ?_)
      refine g_iload (pc' := 167) at_165 rfl rfl ?_
      refine g_iconst (pc' := 168) (w := 3) at_167 rfl (by decide) ?_
      refine g_icmple (pc' := 171) (pc2 := 177) at_168 rfl (by decide) rfl (fun c168 => False.elim (absurd c168 (by decide))) (fun c168 => ?_)
      exact Go.drop (Go.mono 31 64 rfl rfl (J5 h140 _ _ _ [(e0, c0)] _ _ _ _ m hm tok ct (ext_trans EZ' X140) A140 rfl (ble rfl) (inPS (T0.ext X140) (inP0)) (Tt.ext X140)))
    · -- n = 2
      refine g_iload (pc' := 125) at_123 rfl rfl ?_
      refine g_anewarray (pc' := 128) (cap := 2) at_125 rfl (wc_DispatchContainsPinLaw_13 hw) (wo_String hw) (by decide) (by decide) rfl rfl rfl fun h125 a125 k125 e125 E125 O125 A125 => ?_
      have z0 : Z.heap.size ≤ h'.size := EZ'.1
      have X0 : Ext h' h125 := E125
      refine g_astore (pc' := 130) (Ls' := #[_, _, _, _, _, _, _, _, _, _, _, _, _, _, _, _, _]) at_128 rfl rfl rfl ?_
      refine g_iload (pc' := 132) at_130 rfl rfl ?_
      refine g_ifle (pc' := 135) (pc2 := 141) at_132 rfl (by decide) rfl (fun c132 => ?_) (fun c132 => False.elim (absurd (by decide) c132))
      refine g_aload (pc' := 137) at_135 rfl rfl rfl ?_
      refine g_iconst (pc' := 138) (w := 0) at_137 rfl (by decide) ?_
      refine g_aload (pc' := 140) at_138 rfl rfl rfl ?_
      refine g_aastore (pc' := 141) (i := 0) at_140 rfl A125 O125 (Ins.self (T0.exa.ext X0)) (by omega) (by decide) (by decide) (ble rfl) fun h140 K140 A140 => ?_
      have X140 : Ext h' h140 := ext_keep X0 K140 (allS (by omega) all0)
      refine g_iload (pc' := 143) at_141 rfl rfl ?_
      refine g_iconst (pc' := 144) (w := 1) at_143 rfl (by decide) ?_
      refine g_icmple (pc' := 147) (pc2 := 153) at_144 rfl (by decide) rfl (fun c144 => ?_) (fun c144 => False.elim (absurd (by decide) c144))
      refine g_aload (pc' := 149) at_147 rfl rfl rfl ?_
      refine g_iconst (pc' := 150) (w := 1) at_149 rfl (by decide) ?_
      refine g_aload (pc' := 152) at_150 rfl rfl rfl ?_
      refine g_aastore (pc' := 153) (i := 1) at_152 rfl A140 O125 (Ins.self (T1.exa.ext X140)) (by omega) (by decide) (by decide) (ble rfl) fun h152 K152 A152 => ?_
      have X152 : Ext h' h152 := ext_keep X140 K152 (allS (by omega) all0)
      refine g_iload (pc' := 155) at_153 rfl rfl ?_
      refine g_iconst (pc' := 156) (w := 2) at_155 rfl (by decide) ?_
      refine g_icmple (pc' := 159) (pc2 := 165) at_156 rfl (by decide) rfl (fun c156 => False.elim (absurd c156 (by decide))) (fun c156 => ?_)
      refine g_iload (pc' := 167) at_165 rfl rfl ?_
      refine g_iconst (pc' := 168) (w := 3) at_167 rfl (by decide) ?_
      refine g_icmple (pc' := 171) (pc2 := 177) at_168 rfl (by decide) rfl (fun c168 => False.elim (absurd c168 (by decide))) (fun c168 => ?_)
      exact Go.drop (Go.mono 31 64 rfl rfl (J5 h152 _ _ _ [(e0, c0), (e1, c1)] _ _ _ _ m hm tok ct (ext_trans EZ' X152) A152 rfl (ble rfl) (inPS (T0.ext X152) (inPS (T1.ext X152) (inP0))) (Tt.ext X152)))
    · -- n = 3
      refine g_iload (pc' := 125) at_123 rfl rfl ?_
      refine g_anewarray (pc' := 128) (cap := 3) at_125 rfl (wc_DispatchContainsPinLaw_13 hw) (wo_String hw) (by decide) (by decide) rfl rfl rfl fun h125 a125 k125 e125 E125 O125 A125 => ?_
      have z0 : Z.heap.size ≤ h'.size := EZ'.1
      have X0 : Ext h' h125 := E125
      refine g_astore (pc' := 130) (Ls' := #[_, _, _, _, _, _, _, _, _, _, _, _, _, _, _, _, _]) at_128 rfl rfl rfl ?_
      refine g_iload (pc' := 132) at_130 rfl rfl ?_
      refine g_ifle (pc' := 135) (pc2 := 141) at_132 rfl (by decide) rfl (fun c132 => ?_) (fun c132 => False.elim (absurd (by decide) c132))
      refine g_aload (pc' := 137) at_135 rfl rfl rfl ?_
      refine g_iconst (pc' := 138) (w := 0) at_137 rfl (by decide) ?_
      refine g_aload (pc' := 140) at_138 rfl rfl rfl ?_
      refine g_aastore (pc' := 141) (i := 0) at_140 rfl A125 O125 (Ins.self (T0.exa.ext X0)) (by omega) (by decide) (by decide) (ble rfl) fun h140 K140 A140 => ?_
      have X140 : Ext h' h140 := ext_keep X0 K140 (allS (by omega) all0)
      refine g_iload (pc' := 143) at_141 rfl rfl ?_
      refine g_iconst (pc' := 144) (w := 1) at_143 rfl (by decide) ?_
      refine g_icmple (pc' := 147) (pc2 := 153) at_144 rfl (by decide) rfl (fun c144 => ?_) (fun c144 => False.elim (absurd (by decide) c144))
      refine g_aload (pc' := 149) at_147 rfl rfl rfl ?_
      refine g_iconst (pc' := 150) (w := 1) at_149 rfl (by decide) ?_
      refine g_aload (pc' := 152) at_150 rfl rfl rfl ?_
      refine g_aastore (pc' := 153) (i := 1) at_152 rfl A140 O125 (Ins.self (T1.exa.ext X140)) (by omega) (by decide) (by decide) (ble rfl) fun h152 K152 A152 => ?_
      have X152 : Ext h' h152 := ext_keep X140 K152 (allS (by omega) all0)
      refine g_iload (pc' := 155) at_153 rfl rfl ?_
      refine g_iconst (pc' := 156) (w := 2) at_155 rfl (by decide) ?_
      refine g_icmple (pc' := 159) (pc2 := 165) at_156 rfl (by decide) rfl (fun c156 => ?_) (fun c156 => False.elim (absurd (by decide) c156))
      refine g_aload (pc' := 161) at_159 rfl rfl rfl ?_
      refine g_iconst (pc' := 162) (w := 2) at_161 rfl (by decide) ?_
      refine g_aload (pc' := 164) at_162 rfl rfl rfl ?_
      refine g_aastore (pc' := 165) (i := 2) at_164 rfl A152 O125 (Ins.self (T2.exa.ext X152)) (by omega) (by decide) (by decide) (ble rfl) fun h164 K164 A164 => ?_
      have X164 : Ext h' h164 := ext_keep X152 K164 (allS (by omega) all0)
      refine g_iload (pc' := 167) at_165 rfl rfl ?_
      refine g_iconst (pc' := 168) (w := 3) at_167 rfl (by decide) ?_
      refine g_icmple (pc' := 171) (pc2 := 177) at_168 rfl (by decide) rfl (fun c168 => False.elim (absurd c168 (by decide))) (fun c168 => ?_)
      exact Go.drop (Go.mono 31 64 rfl rfl (J5 h164 _ _ _ [(e0, c0), (e1, c1), (e2, c2)] _ _ _ _ m hm tok ct (ext_trans EZ' X164) A164 rfl (ble rfl) (inPS (T0.ext X164) (inPS (T1.ext X164) (inPS (T2.ext X164) (inP0)))) (Tt.ext X164)))
    · -- n = 4
      refine g_iload (pc' := 125) at_123 rfl rfl ?_
      refine g_anewarray (pc' := 128) (cap := 4) at_125 rfl (wc_DispatchContainsPinLaw_13 hw) (wo_String hw) (by decide) (by decide) rfl rfl rfl fun h125 a125 k125 e125 E125 O125 A125 => ?_
      have z0 : Z.heap.size ≤ h'.size := EZ'.1
      have X0 : Ext h' h125 := E125
      refine g_astore (pc' := 130) (Ls' := #[_, _, _, _, _, _, _, _, _, _, _, _, _, _, _, _, _]) at_128 rfl rfl rfl ?_
      refine g_iload (pc' := 132) at_130 rfl rfl ?_
      refine g_ifle (pc' := 135) (pc2 := 141) at_132 rfl (by decide) rfl (fun c132 => ?_) (fun c132 => False.elim (absurd (by decide) c132))
      refine g_aload (pc' := 137) at_135 rfl rfl rfl ?_
      refine g_iconst (pc' := 138) (w := 0) at_137 rfl (by decide) ?_
      refine g_aload (pc' := 140) at_138 rfl rfl rfl ?_
      refine g_aastore (pc' := 141) (i := 0) at_140 rfl A125 O125 (Ins.self (T0.exa.ext X0)) (by omega) (by decide) (by decide) (ble rfl) fun h140 K140 A140 => ?_
      have X140 : Ext h' h140 := ext_keep X0 K140 (allS (by omega) all0)
      refine g_iload (pc' := 143) at_141 rfl rfl ?_
      refine g_iconst (pc' := 144) (w := 1) at_143 rfl (by decide) ?_
      refine g_icmple (pc' := 147) (pc2 := 153) at_144 rfl (by decide) rfl (fun c144 => ?_) (fun c144 => False.elim (absurd (by decide) c144))
      refine g_aload (pc' := 149) at_147 rfl rfl rfl ?_
      refine g_iconst (pc' := 150) (w := 1) at_149 rfl (by decide) ?_
      refine g_aload (pc' := 152) at_150 rfl rfl rfl ?_
      refine g_aastore (pc' := 153) (i := 1) at_152 rfl A140 O125 (Ins.self (T1.exa.ext X140)) (by omega) (by decide) (by decide) (ble rfl) fun h152 K152 A152 => ?_
      have X152 : Ext h' h152 := ext_keep X140 K152 (allS (by omega) all0)
      refine g_iload (pc' := 155) at_153 rfl rfl ?_
      refine g_iconst (pc' := 156) (w := 2) at_155 rfl (by decide) ?_
      refine g_icmple (pc' := 159) (pc2 := 165) at_156 rfl (by decide) rfl (fun c156 => ?_) (fun c156 => False.elim (absurd (by decide) c156))
      refine g_aload (pc' := 161) at_159 rfl rfl rfl ?_
      refine g_iconst (pc' := 162) (w := 2) at_161 rfl (by decide) ?_
      refine g_aload (pc' := 164) at_162 rfl rfl rfl ?_
      refine g_aastore (pc' := 165) (i := 2) at_164 rfl A152 O125 (Ins.self (T2.exa.ext X152)) (by omega) (by decide) (by decide) (ble rfl) fun h164 K164 A164 => ?_
      have X164 : Ext h' h164 := ext_keep X152 K164 (allS (by omega) all0)
      refine g_iload (pc' := 167) at_165 rfl rfl ?_
      refine g_iconst (pc' := 168) (w := 3) at_167 rfl (by decide) ?_
      refine g_icmple (pc' := 171) (pc2 := 177) at_168 rfl (by decide) rfl (fun c168 => ?_) (fun c168 => False.elim (absurd (by decide) c168))
      refine g_aload (pc' := 173) at_171 rfl rfl rfl ?_
      refine g_iconst (pc' := 174) (w := 3) at_173 rfl (by decide) ?_
      refine g_aload (pc' := 176) at_174 rfl rfl rfl ?_
      refine g_aastore (pc' := 177) (i := 3) at_176 rfl A164 O125 (Ins.self (T3.exa.ext X164)) (by omega) (by decide) (by decide) (ble rfl) fun h176 K176 A176 => ?_
      have X176 : Ext h' h176 := ext_keep X164 K176 (allS (by omega) all0)
      exact Go.drop (Go.mono 31 64 rfl rfl (J5 h176 _ _ _ [(e0, c0), (e1, c1), (e2, c2), (e3, c3)] _ _ _ _ m hm tok ct (ext_trans EZ' X176) A176 rfl (ble rfl) (inPS (T0.ext X176) (inPS (T1.ext X176) (inPS (T2.ext X176) (inPS (T3.ext X176) (inP0))))) (Tt.ext X176)))
    · omega
  -- the four Strings
  have mkw := wb_DispatchContainsPinLaw_mk_lJrLjavalangString hw
  have J3 : ∀ (h' : Heap) (m : Nat), m < 2147483648 → ∀ (tok e0 e1 e2 : Addr) (ct c0 c1 c2 : List Int32), Ext Z.heap h' → Str Z h' tok ct → Str Z h' e0 c0 → Str Z h' e1 c1 → Str Z h' e2 c2 →
      GoL X Z a0 h' 24 48 (mkF X.m 97 #[.val (.int p0), .val (.int p1), .val (.long p2), .second, .val (.long p3), .second, .val (.long p4), .second, .val (.int (Int32.ofNat j)), .val (.int (Int32.ofNat m)), .val (.ref tok), .val (.ref e0), .val (.ref e1), .val (.ref e2), .unset, .unset, .unset] []) := by
    intro h' m hm tok e0 e1 e2 ct c0 c1 c2 EZ' Tt T0 T1 T2
    refine g_iloadN (pc' := 98) at_97 rfl rfl ?_
    refine g_bipush (pc' := 100) (w := 6) at_98 rfl (by decide) ?_
    refine g_iushr (pc' := 101) at_100 rfl ?_
    refine g_iconst (pc' := 102) (w := 1) at_101 rfl (by decide) ?_
    refine g_iand (pc' := 103) at_102 rfl ?_
    refine g_ifeq (pc' := 106) (pc2 := 113) at_103 rfl (by decide) rfl (fun c103 => ?_) (fun c103 => ?_)
    · refine g_lloadN (pc' := 107) at_106 rfl rfl ?_
      refine g_invokestatic (pc' := 110) [] [_] at_107 rfl (wl_DispatchContainsPinLaw_7 hw) (ws_DispatchContainsPinLaw_mk_lJrLjavalangString hw) (wi_DispatchContainsPinLaw hw) (wb_DispatchContainsPinLaw_mk_lJrLjavalangString hw) (by decide) (Pay.of_met (met_mk hw S hz p2) mkw (wi_DispatchContainsPinLaw hw) rfl rfl) pd_lJrLjavalangString rfl rfl rfl rfl rfl (fun _ q => nomatch q) fun v107 h107 q107 l107 => ?_
      obtain ⟨e3, c3, rfl, E, T3⟩ := q107
      refine g_goto (pc' := 121) at_110 (by decide) rfl ?_
      refine g_astore (pc' := 123) (Ls' := #[_, _, _, _, _, _, _, _, _, _, _, _, _, _, _, _, _]) at_121 rfl rfl rfl ?_
      exact J4 _ m hm tok e0 e1 e2 e3 ct c0 c1 c2 c3 (ext_trans EZ' E) (Tt.ext E) (T0.ext E) (T1.ext E) (T2.ext E) T3
    · refine g_lload (pc' := 115) at_113 rfl rfl ?_
      refine g_bipush (pc' := 117) (w := 32) at_115 rfl (by decide) ?_
      refine g_lushr (pc' := 118) at_117 rfl ?_
      refine g_invokestatic (pc' := 121) [] [_] at_118 rfl (wl_DispatchContainsPinLaw_7 hw) (ws_DispatchContainsPinLaw_mk_lJrLjavalangString hw) (wi_DispatchContainsPinLaw hw) (wb_DispatchContainsPinLaw_mk_lJrLjavalangString hw) (by decide) (Pay.of_met (met_mk hw S hz _) mkw (wi_DispatchContainsPinLaw hw) rfl rfl) pd_lJrLjavalangString rfl rfl rfl rfl rfl (fun _ q => nomatch q) fun v118 h118 q118 l118 => ?_
      obtain ⟨e3, c3, rfl, E, T3⟩ := q118
      refine g_astore (pc' := 123) (Ls' := #[_, _, _, _, _, _, _, _, _, _, _, _, _, _, _, _, _]) at_121 rfl rfl rfl ?_
      exact J4 _ m hm tok e0 e1 e2 e3 ct c0 c1 c2 c3 (ext_trans EZ' E) (Tt.ext E) (T0.ext E) (T1.ext E) (T2.ext E) T3
  have J2 : ∀ (h' : Heap) (m : Nat), m < 2147483648 → ∀ (tok e0 e1 : Addr) (ct c0 c1 : List Int32), Ext Z.heap h' → Str Z h' tok ct → Str Z h' e0 c0 → Str Z h' e1 c1 →
      GoL X Z a0 h' 18 36 (mkF X.m 75 #[.val (.int p0), .val (.int p1), .val (.long p2), .second, .val (.long p3), .second, .val (.long p4), .second, .val (.int (Int32.ofNat j)), .val (.int (Int32.ofNat m)), .val (.ref tok), .val (.ref e0), .val (.ref e1), .unset, .unset, .unset, .unset] []) := by
    intro h' m hm tok e0 e1 ct c0 c1 EZ' Tt T0 T1
    refine g_iloadN (pc' := 76) at_75 rfl rfl ?_
    refine g_iconst (pc' := 77) (w := 5) at_76 rfl (by decide) ?_
    refine g_iushr (pc' := 78) at_77 rfl ?_
    refine g_iconst (pc' := 79) (w := 1) at_78 rfl (by decide) ?_
    refine g_iand (pc' := 80) at_79 rfl ?_
    refine g_ifeq (pc' := 83) (pc2 := 90) at_80 rfl (by decide) rfl (fun c80 => ?_) (fun c80 => ?_)
    · refine g_lloadN (pc' := 84) at_83 rfl rfl ?_
      refine g_invokestatic (pc' := 87) [] [_] at_84 rfl (wl_DispatchContainsPinLaw_7 hw) (ws_DispatchContainsPinLaw_mk_lJrLjavalangString hw) (wi_DispatchContainsPinLaw hw) (wb_DispatchContainsPinLaw_mk_lJrLjavalangString hw) (by decide) (Pay.of_met (met_mk hw S hz p2) mkw (wi_DispatchContainsPinLaw hw) rfl rfl) pd_lJrLjavalangString rfl rfl rfl rfl rfl (fun _ q => nomatch q) fun v84 h84 q84 l84 => ?_
      obtain ⟨e2, c2, rfl, E, T2⟩ := q84
      refine g_goto (pc' := 95) at_87 (by decide) rfl ?_
      refine g_astore (pc' := 97) (Ls' := #[_, _, _, _, _, _, _, _, _, _, _, _, _, _, _, _, _]) at_95 rfl rfl rfl ?_
      exact J3 _ m hm tok e0 e1 e2 ct c0 c1 c2 (ext_trans EZ' E) (Tt.ext E) (T0.ext E) (T1.ext E) T2
    · refine g_lload (pc' := 92) at_90 rfl rfl ?_
      refine g_invokestatic (pc' := 95) [] [_] at_92 rfl (wl_DispatchContainsPinLaw_7 hw) (ws_DispatchContainsPinLaw_mk_lJrLjavalangString hw) (wi_DispatchContainsPinLaw hw) (wb_DispatchContainsPinLaw_mk_lJrLjavalangString hw) (by decide) (Pay.of_met (met_mk hw S hz _) mkw (wi_DispatchContainsPinLaw hw) rfl rfl) pd_lJrLjavalangString rfl rfl rfl rfl rfl (fun _ q => nomatch q) fun v92 h92 q92 l92 => ?_
      obtain ⟨e2, c2, rfl, E, T2⟩ := q92
      refine g_astore (pc' := 97) (Ls' := #[_, _, _, _, _, _, _, _, _, _, _, _, _, _, _, _, _]) at_95 rfl rfl rfl ?_
      exact J3 _ m hm tok e0 e1 e2 ct c0 c1 c2 (ext_trans EZ' E) (Tt.ext E) (T0.ext E) (T1.ext E) T2
  have J1 : ∀ (h' : Heap) (m : Nat), m < 2147483648 → ∀ (tok e0 : Addr) (ct c0 : List Int32), Ext Z.heap h' → Str Z h' tok ct → Str Z h' e0 c0 →
      GoL X Z a0 h' 12 24 (mkF X.m 50 #[.val (.int p0), .val (.int p1), .val (.long p2), .second, .val (.long p3), .second, .val (.long p4), .second, .val (.int (Int32.ofNat j)), .val (.int (Int32.ofNat m)), .val (.ref tok), .val (.ref e0), .unset, .unset, .unset, .unset, .unset] []) := by
    intro h' m hm tok e0 ct c0 EZ' Tt T0
    refine g_iloadN (pc' := 51) at_50 rfl rfl ?_
    refine g_iconst (pc' := 52) (w := 4) at_51 rfl (by decide) ?_
    refine g_iushr (pc' := 53) at_52 rfl ?_
    refine g_iconst (pc' := 54) (w := 1) at_53 rfl (by decide) ?_
    refine g_iand (pc' := 55) at_54 rfl ?_
    refine g_ifeq (pc' := 58) (pc2 := 65) at_55 rfl (by decide) rfl (fun c55 => ?_) (fun c55 => ?_)
    · refine g_lloadN (pc' := 59) at_58 rfl rfl ?_
      refine g_invokestatic (pc' := 62) [] [_] at_59 rfl (wl_DispatchContainsPinLaw_7 hw) (ws_DispatchContainsPinLaw_mk_lJrLjavalangString hw) (wi_DispatchContainsPinLaw hw) (wb_DispatchContainsPinLaw_mk_lJrLjavalangString hw) (by decide) (Pay.of_met (met_mk hw S hz p2) mkw (wi_DispatchContainsPinLaw hw) rfl rfl) pd_lJrLjavalangString rfl rfl rfl rfl rfl (fun _ q => nomatch q) fun v59 h59 q59 l59 => ?_
      obtain ⟨e1, c1, rfl, E, T1⟩ := q59
      refine g_goto (pc' := 73) at_62 (by decide) rfl ?_
      refine g_astore (pc' := 75) (Ls' := #[_, _, _, _, _, _, _, _, _, _, _, _, _, _, _, _, _]) at_73 rfl rfl rfl ?_
      exact J2 _ m hm tok e0 e1 ct c0 c1 (ext_trans EZ' E) (Tt.ext E) (T0.ext E) T1
    · refine g_lload (pc' := 67) at_65 rfl rfl ?_
      refine g_bipush (pc' := 69) (w := 32) at_67 rfl (by decide) ?_
      refine g_lushr (pc' := 70) at_69 rfl ?_
      refine g_invokestatic (pc' := 73) [] [_] at_70 rfl (wl_DispatchContainsPinLaw_7 hw) (ws_DispatchContainsPinLaw_mk_lJrLjavalangString hw) (wi_DispatchContainsPinLaw hw) (wb_DispatchContainsPinLaw_mk_lJrLjavalangString hw) (by decide) (Pay.of_met (met_mk hw S hz _) mkw (wi_DispatchContainsPinLaw hw) rfl rfl) pd_lJrLjavalangString rfl rfl rfl rfl rfl (fun _ q => nomatch q) fun v70 h70 q70 l70 => ?_
      obtain ⟨e1, c1, rfl, E, T1⟩ := q70
      refine g_astore (pc' := 75) (Ls' := #[_, _, _, _, _, _, _, _, _, _, _, _, _, _, _, _, _]) at_73 rfl rfl rfl ?_
      exact J2 _ m hm tok e0 e1 ct c0 c1 (ext_trans EZ' E) (Tt.ext E) (T0.ext E) T1
  have J0 : ∀ s : Int32, ¬ s < 0 → GoL X Z a0 h 0 0 (mkF X.m 20 #[.val (.int p0), .val (.int p1), .val (.long p2), .second, .val (.long p3), .second, .val (.long p4), .second, .val (.int (Int32.ofNat j)), .unset, .unset, .unset, .unset, .unset, .unset, .unset, .unset] [.int s]) := by
    intro s hs
    obtain ⟨m, hm, rfl⟩ := nn_ofNat hs
    refine g_istore (pc' := 22) (Ls' := #[_, _, _, _, _, _, _, _, _, _, _, _, _, _, _, _, _]) at_20 rfl rfl ?_
    refine g_lloadN (pc' := 23) at_22 rfl rfl ?_
    refine g_invokestatic (pc' := 26) [] [_] at_23 rfl (wl_DispatchContainsPinLaw_7 hw) (ws_DispatchContainsPinLaw_mk_lJrLjavalangString hw) (wi_DispatchContainsPinLaw hw) (wb_DispatchContainsPinLaw_mk_lJrLjavalangString hw) (by decide) (Pay.of_met (met_mk hw S hz p2) mkw (wi_DispatchContainsPinLaw hw) rfl rfl) pd_lJrLjavalangString rfl rfl rfl rfl rfl (fun _ q => nomatch q) fun v23 h23 q23 l23 => ?_
    obtain ⟨tok, ct, rfl, Et, Tt⟩ := q23
    refine g_astore (pc' := 28) (Ls' := #[_, _, _, _, _, _, _, _, _, _, _, _, _, _, _, _, _]) at_26 rfl rfl rfl ?_
    refine g_iloadN (pc' := 29) at_28 rfl rfl ?_
    refine g_iconst (pc' := 30) (w := 3) at_29 rfl (by decide) ?_
    refine g_iushr (pc' := 31) at_30 rfl ?_
    refine g_iconst (pc' := 32) (w := 1) at_31 rfl (by decide) ?_
    refine g_iand (pc' := 33) at_32 rfl ?_
    refine g_ifeq (pc' := 36) (pc2 := 43) at_33 rfl (by decide) rfl (fun c33 => ?_) (fun c33 => ?_)
    · refine g_lloadN (pc' := 37) at_36 rfl rfl ?_
      refine g_invokestatic (pc' := 40) [] [_] at_37 rfl (wl_DispatchContainsPinLaw_7 hw) (ws_DispatchContainsPinLaw_mk_lJrLjavalangString hw) (wi_DispatchContainsPinLaw hw) (wb_DispatchContainsPinLaw_mk_lJrLjavalangString hw) (by decide) (Pay.of_met (met_mk hw S hz p2) mkw (wi_DispatchContainsPinLaw hw) rfl rfl) pd_lJrLjavalangString rfl rfl rfl rfl rfl (fun _ q => nomatch q) fun v37 h37 q37 l37 => ?_
      obtain ⟨e0, c0, rfl, E, T0⟩ := q37
      refine g_goto (pc' := 48) at_40 (by decide) rfl ?_
      refine g_astore (pc' := 50) (Ls' := #[_, _, _, _, _, _, _, _, _, _, _, _, _, _, _, _, _]) at_48 rfl rfl rfl ?_
      exact J1 _ m hm tok e0 ct c0 (ext_trans (ext_trans EZ Et) E) (Tt.ext E) T0
    · refine g_lload (pc' := 45) at_43 rfl rfl ?_
      refine g_invokestatic (pc' := 48) [] [_] at_45 rfl (wl_DispatchContainsPinLaw_7 hw) (ws_DispatchContainsPinLaw_mk_lJrLjavalangString hw) (wi_DispatchContainsPinLaw hw) (wb_DispatchContainsPinLaw_mk_lJrLjavalangString hw) (by decide) (Pay.of_met (met_mk hw S hz _) mkw (wi_DispatchContainsPinLaw hw) rfl rfl) pd_lJrLjavalangString rfl rfl rfl rfl rfl (fun _ q => nomatch q) fun v45 h45 q45 l45 => ?_
      obtain ⟨e0, c0, rfl, E, T0⟩ := q45
      refine g_astore (pc' := 50) (Ls' := #[_, _, _, _, _, _, _, _, _, _, _, _, _, _, _, _, _]) at_48 rfl rfl rfl ?_
      exact J1 _ m hm tok e0 ct c0 (ext_trans (ext_trans EZ Et) E) (Tt.ext E) T0
  refine g_iloadN (pc' := 1) at_0 rfl rfl ?_
  refine g_bipush (pc' := 3) (w := 7) at_1 rfl (by decide) ?_
  refine g_iand (pc' := 4) at_3 rfl ?_
  refine g_iconst (pc' := 5) (w := 5) at_4 rfl (by decide) ?_
  refine g_irem (pc' := 6) at_5 rfl (by decide) ?_
  rw [ej]
  refine g_istore (pc' := 8) (Ls' := #[_, _, _, _, _, _, _, _, _, _, _, _, _, _, _, _, _]) at_6 rfl rfl ?_
  refine g_iloadN (pc' := 9) at_8 rfl rfl ?_
  refine g_ifge (pc' := 12) (pc2 := 19) at_9 rfl (by decide) rfl (fun c9 => ?_) (fun c9 => ?_)
  · refine g_iloadN (pc' := 13) at_12 rfl rfl ?_
    refine g_bipush (pc' := 15) (w := 7) at_13 rfl (by decide) ?_
    refine g_iand (pc' := 16) at_15 rfl ?_
    refine g_goto (pc' := 20) at_16 (by decide) rfl ?_
    exact J0 _ (and_lt (x := p1) 7 (by decide)).1
  · refine g_iloadN (pc' := 20) at_19 rfl rfl ?_
    exact J0 _ c9
end Law
set_option maxRecDepth 65536 in
set_option maxHeartbeats 40000000 in
theorem comes_1 {Post : Tables → Env → Array Value → State → Outcome → State → Prop} (hpost : ∀ tb e args s v u, (limb_1_1.after args s (.returned v) u = true ∧ limb_1_2.after args s (.returned v) u = true ∧ True) → ReturnedEndW s (.returned v) u (Jvm.fieldLocs frame_1_writes args s ++ Jvm.arrayLocs frame_1_arrays args s ++ Jvm.staticLocs frame_1_statics s) 48 1216 → Post tb e args s (.returned v) u) :
    ArmFor flags0 classFile x code maxLocals ret World_1 tables_1 room_1 Calls_1 rest_1 Pre_1 Post := by
  intro l hfl _ _ p e ha hc hk s m args below hf hA hF happ hP
  obtain ⟨hcalls, hrest, hpre⟩ := hP
  obtain ⟨-, -, -, hnamed, -, -, -, hat⟩ := (Spec.applies_iff hf).mp happ
  obtain ⟨hg, hn⟩ := and_e (Cond.before_iff.mp (show (Jvm.Cond.and given_1 narrow_1).before args s = true from hpre))
  obtain ⟨hcount, hg⟩ := and_e hg
  obtain ⟨g0, hg⟩ := and_e hg
  obtain ⟨g1, hg⟩ := and_e hg
  obtain ⟨g2, hg⟩ := and_e hg
  obtain ⟨g3, hg⟩ := and_e hg
  have g4 := hg
  obtain ⟨w0, w1, w2, w3, w4, rfl⟩ : ∃ w0 w1 w2 w3 w4 : Value, args = #[w0, w1, w2, w3, w4] := by
    have hs : args.size = 5 := by simpa [Cond.value, given_1] using hcount
    obtain ⟨L⟩ := args
    match L, hs with
    | [w0, w1, w2, w3, w4], _ => exact ⟨w0, w1, w2, w3, w4, rfl⟩
  have hw := fun d (hd : d ∈ tables_1) => atoms_spec (ws := Jvm.Cond.code x code maxLocals ret :: tables_1) hat d (List.mem_cons_of_mem _ hd)
  obtain ⟨hsets, hown0⟩ := atoms_of _ (rest_1_c_eq ▸ (show rest_1_c.before _ s = true from hrest))
  have hfit : Fit s := fun {y c} hc i hi => by
    obtain ⟨ha, rfl⟩ := Array.getElem?_eq_some_iff.mp hc
    have q := List.all_eq_true.mp ((Array.all_eq_true_iff_forall_mem.mp hF) _ (Array.getElem_mem ha)) i (List.mem_range.mpr hi)
    simpa [Array.getElem?_eq_getElem hi] using q
  obtain ⟨i0, e0⟩ := is_v g0
  obtain rfl : w0 = (.int i0) := Option.some.inj e0
  obtain ⟨i1, e1⟩ := is_v g1
  obtain rfl : w1 = (.int i1) := Option.some.inj e1
  obtain ⟨i2, e2⟩ := isL_v g2
  obtain rfl : w2 = (.long i2) := Option.some.inj e2
  obtain ⟨i3, e3⟩ := isL_v g3
  obtain rfl : w3 = (.long i3) := Option.some.inj e3
  obtain ⟨i4, e4⟩ := isL_v g4
  obtain rfl : w4 = (.long i4) := Option.some.inj e4
  have n5 := not_v (Cond.before_iff.mp (hsets _ (List.mem_of_getElem? (i := 2) rfl)))
  obtain ⟨zc, ezc⟩ := is_v (Cond.before_iff.mp (hsets _ (List.mem_of_getElem? (i := 1) rfl)))
  have S12 : Sta s s.heap "java/lang/String" "COMPACT_STRINGS" "Z" (.int zc) := Sta.start ezc (Or.inl (hsets _ (List.mem_of_getElem? (i := 0) rfl)))
  have c17 : ¬ (zc = (0 : Int32)) := gotF (Cond.eq_ints ezc (Term.int_eval (0))) n5
  obtain ⟨vf, evf, rvf⟩ := isR_v (Cond.before_iff.mp (hsets _ (List.mem_of_getElem? (i := 8) rfl)))
  have S16 : Sta s s.heap "jdk/internal/util/Preconditions" "SIOOBE_FORMATTER" "Ljava/util/function/BiFunction;" vf := Sta.start evf (Or.inl (hsets _ (List.mem_of_getElem? (i := 7) rfl)))
  have hheld : ∀ p ∈ consts_1, Jvm.Lit.constHeld s p.1 p.2 := fun p hp => hcalls.1 p hp
  have hcw : Jvm.Lit.compactW.before _ s = true := hsets _ (List.mem_of_getElem? (i := 2) rfl)
  have hEL : EW s _ consts_1 := EW.cons (wt_String_7 hw) (by decide) (EW.nil)
  have hCH : CHv s consts_1 s.vm s.heap := CHv.start hEL hheld hcw (wa_byte hw) (wn_String hw)
  obtain ⟨n, o, h1, h2, h3, _, L, rfl, ⟨rfl, N, -⟩, -, -, hq⟩ := met_law (l := l) hw S12 c17 tables_1 i0 i1 i2 i3 i4 p e ha hc hk s m _ below hf ((Spec.applies_iff_loose hf).mp happ).1 ⟨rfl, State.Warmed39.refl s, rfl, hCH, ext_refl _, hEL, fun _ q => nomatch q⟩ trivial
  refine ⟨n, _, h1, h2, h3, hpost _ _ _ _ _ _ ⟨Cond.after_iff.mpr rfl, Cond.after_iff.mpr (eq_i res_at (Term.int_eval (1)) rfl), trivial⟩ ⟨hq.1, hq.2.1, hq.2.2.1, (hq.2.2.2.sift fun y hy => Or.inr (N y hy)).mono (by decide) (by decide)⟩⟩
theorem main_1_1 : Claimed_1_1 := comes_1 fun _ _ _ _ _ _ h hF => ⟨h.1, hF⟩
theorem main_1_2 : Claimed_1_2 := comes_1 fun _ _ _ _ _ _ h hF => ⟨h.2.1, hF⟩
end Jvm.Pilot.@@N@@
namespace Jvm.Pilot.@@N@@
open Jvm Jvm.ClassFile Sem Op Lib Jvm.Free Jvm.Stand Jvm.Pilot.@@N@@.Jvm.D
/-! MADE BY PROGRAM (witnessworld.py) out of the Statement's table words and the real class files: 21 classes; the members and pool entries that the words name. The judged class is class 1, her method 1. -/
namespace start1
open Jvm.ClassFile
def u (s : String) : CpInfo := .utf8 (stringToUtf16 s)
/-- a pool by its gaps: so many unusable entries, then the entry; so many at the end -/
def gap : Nat → List CpInfo → List CpInfo
  | 0, r => r
  | n + 1, r => .unusable :: gap n r
def poolList (es : List (Nat × CpInfo)) (last : Nat) : List CpInfo := es.foldr (fun e r => gap e.1 (e.2 :: r)) (gap last [])
def pool (es : List (Nat × CpInfo)) (last : Nat) : Array CpInfo := ⟨poolList es last⟩
def fileOf (pool : Array CpInfo) (this : Nat) (attrs : Array Attribute := #[]) (ms : Array MethodInfo := #[]) (fl : Nat := 33) (sup : Nat := 0) (ifs : Array Nat := #[]) (fds : Array FieldInfo := #[]) : ClassFile where
  minorVersion := 0
  majorVersion := 65
  constantPool := pool
  accessFlags := fl
  thisClass := this
  superClass := sup
  interfaces := ifs
  fields := fds
  methods := ms
  attributes := attrs
def plain (name : String) (sup : Option ClassId) : Class where
  name := name
  kind := .ordinary
  loader := none
  accessFlags := 33
  super := sup
  interfaces := #[]
  cf := none
  fields := #[]
  methods := #[]
  instanceTypes := #[]
  staticTypes := #[]
  resolved := #[]
  callSites := []
  init := .initialized
  statics := none
  mirror := none

def pool0 : Array CpInfo := pool [(5, u "<init>"), (0, u "()V"), (1, .class_ 10), (1, u "java/lang/Object")] 113

def k0c0 : Code := { maxStack := 0, maxLocals := 1, code := object_method_1_code, exceptionTable := #[], attributes := #[] }
def k0m0 : Method := { name := "<init>", desc := "()V", sig := { parameters := [], returnType := none }, accessFlags := 1, code := some k0c0 }
/-- java/lang/Object -/
def k0 : Class := { plain "java/lang/Object" none with
  accessFlags := 33
  interfaces := #[]
  cf := some (fileOf pool0 8 #[] #[{ accessFlags := 1, nameIndex := 5, descriptorIndex := 6, attributes := #[] }] 33 0 #[] #[])
  fields := #[]
  methods := #[k0m0]
  instanceTypes := #[]
  staticTypes := #[]
  resolved := Array.replicate 124 none
  statics := none }

def pool1 : Array CpInfo := pool [(2, .class_ 4), (1, u "java/lang/Object"), (0, u "<init>"), (0, u "()V"), (0, .methodref 8 9), (0, .class_ 10), (0, .nameAndType 11 12), (0, u "com/example/derivant/derivant/cli/DispatchContainsPinLaw"), (0, u "mk"), (0, u "(J)Ljava/lang/String;"), (0, .class_ 14), (0, u "java/lang/String"), (0, .methodref 8 16), (0, .nameAndType 17 18), (0, u "hit"), (0, u "([Ljava/lang/String;IILjava/lang/String;)Z"), (0, .methodref 20 21), (0, .class_ 22), (0, .nameAndType 23 24), (0, u "com/example/derivant/derivant/cli/Dispatch"), (0, u "contains"), (0, u "([Ljava/lang/String;ILjava/lang/String;)Z"), (0, .methodref 13 26), (0, .nameAndType 27 28), (0, u "equals"), (0, u "(Ljava/lang/Object;)Z"), (0, .long 3), (1, .long 255), (1, .methodref 13 34), (0, .nameAndType 5 35), (0, u "([C)V"), (0, .methodref 13 37), (0, .nameAndType 38 39), (0, u "valueOf"), (0, u "(C)Ljava/lang/String;"), (2, u "law"), (0, u "(IIJJJ)Z")] 5

def k1m0 : Method := { name := "<init>", desc := "()V", sig := { parameters := [], returnType := none }, accessFlags := 2, code := none }
def k1c1 : Code := { maxStack := 4, maxLocals := 17, code := code, exceptionTable := #[], attributes := #[] }
def k1m1 : Method := { name := "law", desc := "(IIJJJ)Z", sig := { parameters := [.int, .int, .long, .long, .long], returnType := some .boolean }, accessFlags := 9, code := some k1c1 }
def k1c2 : Code := { maxStack := 2, maxLocals := 4, code := method_3_code, exceptionTable := #[], attributes := #[] }
def k1m2 : Method := { name := "hit", desc := "([Ljava/lang/String;IILjava/lang/String;)Z", sig := { parameters := [(.array (.object "java/lang/String")), .int, .int, (.object "java/lang/String")], returnType := some .boolean }, accessFlags := 10, code := some k1c2 }
def k1c3 : Code := { maxStack := 6, maxLocals := 5, code := method_4_code, exceptionTable := #[], attributes := #[] }
def k1m3 : Method := { name := "mk", desc := "(J)Ljava/lang/String;", sig := { parameters := [.long], returnType := some (.object "java/lang/String") }, accessFlags := 10, code := some k1c3 }
/-- com/example/derivant/derivant/cli/DispatchContainsPinLaw -/
def k1 : Class := { plain "com/example/derivant/derivant/cli/DispatchContainsPinLaw" (some 0) with
  accessFlags := 49
  interfaces := #[]
  cf := some (fileOf pool1 8 #[] #[{ accessFlags := 2, nameIndex := 5, descriptorIndex := 6, attributes := #[] }, { accessFlags := 9, nameIndex := 42, descriptorIndex := 43, attributes := #[] }, { accessFlags := 10, nameIndex := 17, descriptorIndex := 18, attributes := #[] }, { accessFlags := 10, nameIndex := 11, descriptorIndex := 12, attributes := #[] }] 49 2 #[] #[])
  fields := #[]
  methods := #[k1m0, k1m1, k1m2, k1m3]
  instanceTypes := #[]
  staticTypes := #[]
  resolved := Array.replicate 49 none
  statics := none }

def pool2 : Array CpInfo := pool [(1, .class_ 2), (0, u "java/io/Serializable"), (0, .class_ 4), (0, u "java/lang/Object")] 2

/-- java/io/Serializable -/
def k2 : Class := { plain "java/io/Serializable" (some 0) with
  accessFlags := 1537
  interfaces := #[]
  cf := some (fileOf pool2 1 #[] #[] 1537 3 #[] #[])
  fields := #[]
  methods := #[]
  instanceTypes := #[]
  staticTypes := #[]
  resolved := Array.replicate 7 none
  statics := none }

def pool3 : Array CpInfo := pool [(1, .class_ 2), (0, u "java/lang/Comparable"), (0, .class_ 4), (0, u "java/lang/Object")] 7

/-- java/lang/Comparable -/
def k3 : Class := { plain "java/lang/Comparable" (some 0) with
  accessFlags := 1537
  interfaces := #[]
  cf := some (fileOf pool3 1 #[] #[] 1537 3 #[] #[])
  fields := #[]
  methods := #[]
  instanceTypes := #[]
  staticTypes := #[]
  resolved := Array.replicate 12 none
  statics := none }

def pool4 : Array CpInfo := pool [(2, .class_ 4), (1, u "java/lang/CharSequence"), (42, .class_ 48), (0, u "java/lang/CharSequence$1CodePointIterator"), (10, .class_ 60), (0, u "java/lang/CharSequence$1CharIterator"), (5, .class_ 67), (0, u "java/lang/Object")] 63

/-- java/lang/CharSequence -/
def k4 : Class := { plain "java/lang/CharSequence" (some 0) with
  accessFlags := 1537
  interfaces := #[]
  cf := some (fileOf pool4 2 #[.nestMembers #[47, 59]] #[] 1537 66 #[] #[])
  fields := #[]
  methods := #[]
  instanceTypes := #[]
  staticTypes := #[]
  resolved := Array.replicate 131 none
  statics := none }

def pool5 : Array CpInfo := pool [(1, .class_ 2), (0, u "java/lang/constant/Constable"), (0, .class_ 4), (0, u "java/lang/Object")] 6

/-- java/lang/constant/Constable -/
def k5 : Class := { plain "java/lang/constant/Constable" (some 0) with
  accessFlags := 1537
  interfaces := #[]
  cf := some (fileOf pool5 1 #[] #[] 1537 3 #[] #[])
  fields := #[]
  methods := #[]
  instanceTypes := #[]
  staticTypes := #[]
  resolved := Array.replicate 11 none
  statics := none }

def pool6 : Array CpInfo := pool [(1, .class_ 2), (0, u "java/lang/constant/ConstantDesc"), (0, .class_ 4), (0, u "java/lang/Object")] 32

/-- java/lang/constant/ConstantDesc -/
def k6 : Class := { plain "java/lang/constant/ConstantDesc" (some 0) with
  accessFlags := 1537
  interfaces := #[]
  cf := some (fileOf pool6 1 #[] #[] 1537 3 #[] #[])
  fields := #[]
  methods := #[]
  instanceTypes := #[]
  staticTypes := #[]
  resolved := Array.replicate 37 none
  statics := none }

def pool7 : Array CpInfo := pool [(1, .methodref 2 3), (0, .class_ 4), (0, .nameAndType 5 6), (0, u "java/lang/Object"), (0, u "<init>"), (0, u "()V"), (0, .string 8), (0, u ""), (0, .fieldref 10 11), (0, .class_ 12), (0, .nameAndType 13 14), (0, u "java/lang/String"), (0, u "value"), (0, u "[B"), (0, .fieldref 10 16), (0, .nameAndType 17 18), (0, u "coder"), (0, u "B"), (2, u "hash"), (0, u "I"), (2, u "hashIsZero"), (0, u "Z"), (0, .methodref 10 28), (0, .nameAndType 5 29), (0, u "([CIILjava/lang/Void;)V"), (8, .fieldref 10 39), (0, .nameAndType 40 26), (0, u "COMPACT_STRINGS"), (1, .class_ 44), (1, u "java/lang/StringUTF16"), (0, u "compress"), (1, .methodref 42 48), (0, .nameAndType 49 50), (0, u "coderFromArrayLen"), (0, u "([BI)B"), (2, u "toBytes"), (53, .class_ 109), (1, u "java/lang/StringLatin1"), (67, .methodref 42 178), (0, .nameAndType 45 179), (0, u "([CII)[B"), (29, .methodref 10 210), (0, .nameAndType 5 211), (0, u "([BB)V"), (157, u "(C)Z"), (171, .methodref 107 542), (0, .nameAndType 543 544), (0, u "equals"), (0, u "([B[B)Z"), (28, u "(Ljava/lang/Object;)Z"), (1, .class_ 576), (0, u "java/lang/CharSequence"), (22, u "CASE_INSENSITIVE_ORDER"), (0, u "Ljava/util/Comparator;"), (181, u "valueOf"), (0, u "(C)Ljava/lang/String;"), (226, u "([C)V"), (4, .methodref 107 1016), (0, .nameAndType 1017 369), (0, u "canEncode"), (0, .methodref 107 1019), (0, .nameAndType 53 1020), (0, u "(C)[B"), (80, u "serialPersistentFields"), (0, u "[Ljava/io/ObjectStreamField;"), (0, .class_ 1104), (0, u "java/lang/String$CaseInsensitiveComparator"), (1, .class_ 1107), (0, u "java/io/Serializable"), (0, .class_ 1109), (0, u "java/lang/Comparable"), (0, .class_ 1111), (0, u "java/lang/constant/Constable"), (0, .class_ 1113), (0, u "java/lang/constant/ConstantDesc"), (2, u "serialVersionUID"), (0, u "J"), (3, u "REPL"), (0, u "C"), (2, u "LATIN1"), (1, u "UTF16")] 323

def k7m0 : Method := { name := "<init>", desc := "()V", sig := { parameters := [], returnType := none }, accessFlags := 1, code := none }
def k7c1 : Code := { maxStack := 5, maxLocals := 2, code := jdk_42_method_3_code, exceptionTable := #[], attributes := #[] }
def k7m1 : Method := { name := "<init>", desc := "([C)V", sig := { parameters := [(.array .char)], returnType := none }, accessFlags := 1, code := some k7c1 }
def k7c2 : Code := { maxStack := 2, maxLocals := 3, code := jdk_42_method_66_code, exceptionTable := #[], attributes := #[] }
def k7m2 : Method := { name := "equals", desc := "(Ljava/lang/Object;)Z", sig := { parameters := [(.object "java/lang/Object")], returnType := some .boolean }, accessFlags := 1, code := some k7c2 }
def k7c3 : Code := { maxStack := 4, maxLocals := 1, code := jdk_42_method_139_code, exceptionTable := #[], attributes := #[] }
def k7m3 : Method := { name := "valueOf", desc := "(C)Ljava/lang/String;", sig := { parameters := [.char], returnType := some (.object "java/lang/String") }, accessFlags := 9, code := some k7c3 }
def k7c4 : Code := { maxStack := 4, maxLocals := 6, code := jdk_42_method_149_code, exceptionTable := #[], attributes := #[] }
def k7m4 : Method := { name := "<init>", desc := "([CIILjava/lang/Void;)V", sig := { parameters := [(.array .char), .int, .int, (.object "java/lang/Void")], returnType := none }, accessFlags := 2, code := some k7c4 }
def k7c5 : Code := { maxStack := 2, maxLocals := 3, code := jdk_42_method_151_code, exceptionTable := #[], attributes := #[] }
def k7m5 : Method := { name := "<init>", desc := "([BB)V", sig := { parameters := [(.array .byte), .byte], returnType := none }, accessFlags := 0, code := some k7c5 }
/-- java/lang/String -/
def k7 : Class := { plain "java/lang/String" (some 0) with
  accessFlags := 49
  interfaces := #[2, 3, 4, 5, 6]
  cf := some (fileOf pool7 10 #[.nestMembers #[1103]] #[{ accessFlags := 1, nameIndex := 5, descriptorIndex := 6, attributes := #[] }, { accessFlags := 1, nameIndex := 5, descriptorIndex := 1010, attributes := #[] }, { accessFlags := 1, nameIndex := 543, descriptorIndex := 573, attributes := #[] }, { accessFlags := 9, nameIndex := 782, descriptorIndex := 783, attributes := #[] }, { accessFlags := 2, nameIndex := 5, descriptorIndex := 29, attributes := #[] }, { accessFlags := 0, nameIndex := 5, descriptorIndex := 211, attributes := #[] }] 49 2 #[1106, 1108, 575, 1110, 1112] #[{ accessFlags := 18, nameIndex := 13, descriptorIndex := 14, attributes := #[] }, { accessFlags := 18, nameIndex := 17, descriptorIndex := 18, attributes := #[] }, { accessFlags := 2, nameIndex := 21, descriptorIndex := 22, attributes := #[] }, { accessFlags := 2, nameIndex := 25, descriptorIndex := 26, attributes := #[] }, { accessFlags := 26, nameIndex := 1116, descriptorIndex := 1117, attributes := #[] }, { accessFlags := 24, nameIndex := 40, descriptorIndex := 26, attributes := #[] }, { accessFlags := 26, nameIndex := 1101, descriptorIndex := 1102, attributes := #[] }, { accessFlags := 26, nameIndex := 1121, descriptorIndex := 1122, attributes := #[] }, { accessFlags := 25, nameIndex := 599, descriptorIndex := 600, attributes := #[] }, { accessFlags := 24, nameIndex := 1125, descriptorIndex := 18, attributes := #[] }, { accessFlags := 24, nameIndex := 1127, descriptorIndex := 18, attributes := #[] }])
  fields := #[{ name := "value", type := (.array .byte), accessFlags := 18, slot := 0, constantValue := 0 }, { name := "coder", type := .byte, accessFlags := 18, slot := 1, constantValue := 0 }, { name := "hash", type := .int, accessFlags := 2, slot := 2, constantValue := 0 }, { name := "hashIsZero", type := .boolean, accessFlags := 2, slot := 3, constantValue := 0 }, { name := "serialVersionUID", type := .long, accessFlags := 26, slot := 0, constantValue := 0 }, { name := "COMPACT_STRINGS", type := .boolean, accessFlags := 24, slot := 1, constantValue := 0 }, { name := "serialPersistentFields", type := (.array (.object "java/io/ObjectStreamField")), accessFlags := 26, slot := 2, constantValue := 0 }, { name := "REPL", type := .char, accessFlags := 26, slot := 3, constantValue := 0 }, { name := "CASE_INSENSITIVE_ORDER", type := (.object "java/util/Comparator"), accessFlags := 25, slot := 4, constantValue := 0 }, { name := "LATIN1", type := .byte, accessFlags := 24, slot := 5, constantValue := 0 }, { name := "UTF16", type := .byte, accessFlags := 24, slot := 6, constantValue := 0 }]
  methods := #[k7m0, k7m1, k7m2, k7m3, k7m4, k7m5]
  instanceTypes := #[(.array .byte), .byte, .int, .boolean]
  staticTypes := #[.long, .boolean, (.array (.object "java/io/ObjectStreamField")), .char, (.object "java/util/Comparator"), .byte, .byte]
  resolved := Array.replicate 1451 none
  statics := some 0 }

def pool8 : Array CpInfo := pool [(4, .class_ 6), (1, u "java/lang/Object"), (0, u "<init>"), (0, u "()V"), (5, .class_ 16), (1, u "java/lang/StringLatin1"), (73, u "canEncode"), (14, u "(C)Z"), (15, u "$assertionsDisabled"), (0, u "Z"), (98, .class_ 223), (1, u "java/lang/StringLatin1$LinesSpliterator"), (57, u "equals"), (0, u "([B[B)Z"), (97, u "toBytes"), (1, u "(C)[B"), (7, .class_ 391), (0, u "java/lang/StringLatin1$CharsSpliterator")] 3

def k8m0 : Method := { name := "<init>", desc := "()V", sig := { parameters := [], returnType := none }, accessFlags := 0, code := none }
def k8c1 : Code := { maxStack := 2, maxLocals := 1, code := jdk_43_method_3_code, exceptionTable := #[], attributes := #[] }
def k8m1 : Method := { name := "canEncode", desc := "(C)Z", sig := { parameters := [.char], returnType := some .boolean }, accessFlags := 9, code := some k8c1 }
def k8c2 : Code := { maxStack := 3, maxLocals := 3, code := jdk_43_method_13_code, exceptionTable := #[], attributes := #[] }
def k8m2 : Method := { name := "equals", desc := "([B[B)Z", sig := { parameters := [(.array .byte), (.array .byte)], returnType := some .boolean }, accessFlags := 9, code := some k8c2 }
def k8c3 : Code := { maxStack := 4, maxLocals := 1, code := jdk_43_method_46_code, exceptionTable := #[], attributes := #[] }
def k8m3 : Method := { name := "toBytes", desc := "(C)[B", sig := { parameters := [.char], returnType := some (.array .byte) }, accessFlags := 9, code := some k8c3 }
/-- java/lang/StringLatin1 -/
def k8 : Class := { plain "java/lang/StringLatin1" (some 0) with
  accessFlags := 48
  interfaces := #[]
  cf := some (fileOf pool8 14 #[.nestMembers #[390, 221]] #[{ accessFlags := 0, nameIndex := 7, descriptorIndex := 8, attributes := #[] }, { accessFlags := 9, nameIndex := 90, descriptorIndex := 105, attributes := #[] }, { accessFlags := 9, nameIndex := 281, descriptorIndex := 282, attributes := #[] }, { accessFlags := 9, nameIndex := 380, descriptorIndex := 382, attributes := #[] }] 48 4 #[] #[{ accessFlags := 4120, nameIndex := 121, descriptorIndex := 122, attributes := #[] }])
  fields := #[{ name := "$assertionsDisabled", type := .boolean, accessFlags := 4120, slot := 0, constantValue := 0 }]
  methods := #[k8m0, k8m1, k8m2, k8m3]
  instanceTypes := #[]
  staticTypes := #[.boolean]
  resolved := Array.replicate 395 none
  statics := none }

def pool9 : Array CpInfo := pool [(2, .class_ 4), (1, u "com/example/derivant/derivant/cli/Dispatch"), (3, .class_ 10), (1, u "java/lang/Object"), (31, .class_ 43), (0, u "java/lang/String"), (46, u "commands"), (0, u "Ljava/util/List;"), (2, u "afterEachAnswer"), (0, u "Ljava/lang/Runnable;"), (2, u "readsKeyFiles"), (0, u "Z"), (60, .methodref 42 161), (0, .nameAndType 162 163), (0, u "equals"), (0, u "(Ljava/lang/Object;)Z"), (4, u "contains"), (0, u "([Ljava/lang/String;ILjava/lang/String;)Z"), (147, u "VERSION_RESOURCE"), (0, u "Ljava/lang/String;")] 58

def k9c0 : Code := { maxStack := 2, maxLocals := 4, code := prog_11_method_13_code, exceptionTable := #[], attributes := #[] }
def k9m0 : Method := { name := "contains", desc := "([Ljava/lang/String;ILjava/lang/String;)Z", sig := { parameters := [(.array (.object "java/lang/String")), .int, (.object "java/lang/String")], returnType := some .boolean }, accessFlags := 8, code := some k9c0 }
/-- com/example/derivant/derivant/cli/Dispatch -/
def k9 : Class := { plain "com/example/derivant/derivant/cli/Dispatch" (some 0) with
  accessFlags := 48
  interfaces := #[]
  cf := some (fileOf pool9 2 #[] #[{ accessFlags := 8, nameIndex := 168, descriptorIndex := 169, attributes := #[] }] 48 8 #[] #[{ accessFlags := 26, nameIndex := 317, descriptorIndex := 318, attributes := #[] }, { accessFlags := 18, nameIndex := 90, descriptorIndex := 91, attributes := #[] }, { accessFlags := 18, nameIndex := 94, descriptorIndex := 95, attributes := #[] }, { accessFlags := 18, nameIndex := 98, descriptorIndex := 99, attributes := #[] }])
  fields := #[{ name := "VERSION_RESOURCE", type := (.object "java/lang/String"), accessFlags := 26, slot := 0, constantValue := 0 }, { name := "commands", type := (.object "java/util/List"), accessFlags := 18, slot := 0, constantValue := 0 }, { name := "afterEachAnswer", type := (.object "java/lang/Runnable"), accessFlags := 18, slot := 1, constantValue := 0 }, { name := "readsKeyFiles", type := .boolean, accessFlags := 18, slot := 2, constantValue := 0 }]
  methods := #[k9m0]
  instanceTypes := #[(.object "java/util/List"), (.object "java/lang/Runnable"), .boolean]
  staticTypes := #[(.object "java/lang/String")]
  resolved := Array.replicate 377 none
  statics := none }

def pool10 : Array CpInfo := pool [(6, .class_ 8), (1, u "java/lang/Object"), (0, u "<init>"), (0, u "()V"), (1, .class_ 14), (1, u "java/lang/StringUTF16"), (31, u "$assertionsDisabled"), (0, u "Z"), (13, u "HI_BYTE_SHIFT"), (0, u "I"), (2, u "LO_BYTE_SHIFT"), (49, .methodref 12 116), (0, .nameAndType 117 118), (0, u "compress"), (0, u "([CI[BII)I"), (3, u "([CII)[B"), (138, u "coderFromArrayLen"), (0, u "([BI)B"), (106, .class_ 371), (1, u "java/lang/StringUTF16$LinesSpliterator"), (58, u "MAX_LENGTH"), (196, .class_ 628), (0, u "java/lang/StringUTF16$CodePointsSpliterator"), (0, .class_ 630), (0, u "java/lang/StringUTF16$CharsSpliterator")] 4

def k10m0 : Method := { name := "<init>", desc := "()V", sig := { parameters := [], returnType := none }, accessFlags := 0, code := none }
def k10c1 : Code := { maxStack := 2, maxLocals := 2, code := jdk_52_method_15_code, exceptionTable := #[], attributes := #[] }
def k10m1 : Method := { name := "coderFromArrayLen", desc := "([BI)B", sig := { parameters := [(.array .byte), .int], returnType := some .byte }, accessFlags := 8, code := some k10c1 }
def k10c2 : Code := { maxStack := 5, maxLocals := 6, code := jdk_52_method_16_code, exceptionTable := #[], attributes := #[] }
def k10m2 : Method := { name := "compress", desc := "([CII)[B", sig := { parameters := [(.array .char), .int, .int], returnType := some (.array .byte) }, accessFlags := 9, code := some k10c2 }
def k10c3 : Code := { maxStack := 3, maxLocals := 7, code := jdk_52_method_21_code, exceptionTable := #[], attributes := #[] }
def k10m3 : Method := { name := "compress", desc := "([CI[BII)I", sig := { parameters := [(.array .char), .int, (.array .byte), .int, .int], returnType := some .int }, accessFlags := 9, code := some k10c3 }
/-- java/lang/StringUTF16 -/
def k10 : Class := { plain "java/lang/StringUTF16" (some 0) with
  accessFlags := 48
  interfaces := #[]
  cf := some (fileOf pool10 12 #[.nestMembers #[627, 629, 369]] #[{ accessFlags := 0, nameIndex := 9, descriptorIndex := 10, attributes := #[] }, { accessFlags := 8, nameIndex := 261, descriptorIndex := 262, attributes := #[] }, { accessFlags := 9, nameIndex := 117, descriptorIndex := 122, attributes := #[] }, { accessFlags := 9, nameIndex := 117, descriptorIndex := 118, attributes := #[] }] 48 6 #[] #[{ accessFlags := 26, nameIndex := 61, descriptorIndex := 62, attributes := #[] }, { accessFlags := 26, nameIndex := 65, descriptorIndex := 62, attributes := #[] }, { accessFlags := 24, nameIndex := 430, descriptorIndex := 62, attributes := #[] }, { accessFlags := 4120, nameIndex := 46, descriptorIndex := 47, attributes := #[] }])
  fields := #[{ name := "HI_BYTE_SHIFT", type := .int, accessFlags := 26, slot := 0, constantValue := 0 }, { name := "LO_BYTE_SHIFT", type := .int, accessFlags := 26, slot := 1, constantValue := 0 }, { name := "MAX_LENGTH", type := .int, accessFlags := 24, slot := 2, constantValue := 0 }, { name := "$assertionsDisabled", type := .boolean, accessFlags := 4120, slot := 3, constantValue := 0 }]
  methods := #[k10m0, k10m1, k10m2, k10m3]
  instanceTypes := #[]
  staticTypes := #[.int, .int, .int, .boolean]
  resolved := Array.replicate 635 none
  statics := none }

def pool11 : Array CpInfo := pool [(2, .class_ 4), (1, u "java/lang/Object"), (0, u "<init>"), (0, u "()V"), (17, .class_ 26), (1, u "jdk/internal/util/Preconditions"), (28, .class_ 56), (0, u "jdk/internal/util/Preconditions$4"), (57, .class_ 115), (0, u "jdk/internal/util/Preconditions$1"), (7, u "SIOOBE_FORMATTER"), (0, u "Ljava/util/function/BiFunction;"), (0, .class_ 126), (0, u "jdk/internal/util/Preconditions$2"), (3, u "AIOOBE_FORMATTER"), (0, .class_ 132), (0, u "jdk/internal/util/Preconditions$3"), (3, u "IOOBE_FORMATTER")] 57

def k11m0 : Method := { name := "<init>", desc := "()V", sig := { parameters := [], returnType := none }, accessFlags := 1, code := none }
/-- jdk/internal/util/Preconditions -/
def k11 : Class := { plain "jdk/internal/util/Preconditions" (some 0) with
  accessFlags := 33
  interfaces := #[]
  cf := some (fileOf pool11 24 #[.nestMembers #[55, 131, 125, 114]] #[{ accessFlags := 1, nameIndex := 5, descriptorIndex := 6, attributes := #[] }] 33 2 #[] #[{ accessFlags := 25, nameIndex := 123, descriptorIndex := 124, attributes := #[] }, { accessFlags := 25, nameIndex := 130, descriptorIndex := 124, attributes := #[] }, { accessFlags := 25, nameIndex := 136, descriptorIndex := 124, attributes := #[] }])
  fields := #[{ name := "SIOOBE_FORMATTER", type := (.object "java/util/function/BiFunction"), accessFlags := 25, slot := 0, constantValue := 0 }, { name := "AIOOBE_FORMATTER", type := (.object "java/util/function/BiFunction"), accessFlags := 25, slot := 1, constantValue := 0 }, { name := "IOOBE_FORMATTER", type := (.object "java/util/function/BiFunction"), accessFlags := 25, slot := 2, constantValue := 0 }]
  methods := #[k11m0]
  instanceTypes := #[]
  staticTypes := #[(.object "java/util/function/BiFunction"), (.object "java/util/function/BiFunction"), (.object "java/util/function/BiFunction")]
  resolved := Array.replicate 194 none
  statics := some 1 }

def pool12 : Array CpInfo := pool [(9, u "<init>"), (6, .class_ 18), (1, u "java/lang/Object"), (0, u "()V"), (1, .class_ 23), (1, u "jdk/internal/util/ArraysSupport"), (0, u "LOG2_ARRAY_LONG_INDEX_SCALE"), (0, u "I"), (2, u "U"), (0, u "Ljdk/internal/misc/Unsafe;"), (8, u "BIG_ENDIAN"), (0, u "Z"), (8, u "LOG2_BYTE_BIT_SIZE"), (4, u "LOG2_ARRAY_INT_INDEX_SCALE"), (54, u "JLA"), (0, u "Ljdk/internal/access/JavaLangAccess;"), (11, u "LOG2_ARRAY_BOOLEAN_INDEX_SCALE"), (9, u "LOG2_ARRAY_BYTE_INDEX_SCALE"), (5, u "LOG2_ARRAY_CHAR_INDEX_SCALE"), (5, u "LOG2_ARRAY_SHORT_INDEX_SCALE"), (18, u "LOG2_ARRAY_FLOAT_INDEX_SCALE"), (24, u "LOG2_ARRAY_DOUBLE_INDEX_SCALE"), (89, u "T_BOOLEAN"), (2, u "T_CHAR"), (1, u "T_FLOAT"), (1, u "T_DOUBLE"), (1, u "T_BYTE"), (1, u "T_SHORT"), (1, u "T_INT"), (1, u "T_LONG"), (1, u "SOFT_MAX_ARRAY_LENGTH")] 83

def k12m0 : Method := { name := "<init>", desc := "()V", sig := { parameters := [], returnType := none }, accessFlags := 2, code := none }
/-- jdk/internal/util/ArraysSupport -/
def k12 : Class := { plain "jdk/internal/util/ArraysSupport" (some 0) with
  accessFlags := 33
  interfaces := #[]
  cf := some (fileOf pool12 21 #[] #[{ accessFlags := 2, nameIndex := 9, descriptorIndex := 19, attributes := #[] }] 33 16 #[] #[{ accessFlags := 24, nameIndex := 28, descriptorIndex := 29, attributes := #[] }, { accessFlags := 26, nameIndex := 38, descriptorIndex := 39, attributes := #[] }, { accessFlags := 25, nameIndex := 121, descriptorIndex := 25, attributes := #[] }, { accessFlags := 25, nameIndex := 131, descriptorIndex := 25, attributes := #[] }, { accessFlags := 25, nameIndex := 137, descriptorIndex := 25, attributes := #[] }, { accessFlags := 25, nameIndex := 143, descriptorIndex := 25, attributes := #[] }, { accessFlags := 25, nameIndex := 53, descriptorIndex := 25, attributes := #[] }, { accessFlags := 25, nameIndex := 24, descriptorIndex := 25, attributes := #[] }, { accessFlags := 25, nameIndex := 162, descriptorIndex := 25, attributes := #[] }, { accessFlags := 25, nameIndex := 187, descriptorIndex := 25, attributes := #[] }, { accessFlags := 26, nameIndex := 48, descriptorIndex := 25, attributes := #[] }, { accessFlags := 25, nameIndex := 277, descriptorIndex := 25, attributes := #[] }, { accessFlags := 25, nameIndex := 280, descriptorIndex := 25, attributes := #[] }, { accessFlags := 25, nameIndex := 282, descriptorIndex := 25, attributes := #[] }, { accessFlags := 25, nameIndex := 284, descriptorIndex := 25, attributes := #[] }, { accessFlags := 25, nameIndex := 286, descriptorIndex := 25, attributes := #[] }, { accessFlags := 25, nameIndex := 288, descriptorIndex := 25, attributes := #[] }, { accessFlags := 25, nameIndex := 290, descriptorIndex := 25, attributes := #[] }, { accessFlags := 25, nameIndex := 292, descriptorIndex := 25, attributes := #[] }, { accessFlags := 26, nameIndex := 108, descriptorIndex := 109, attributes := #[] }, { accessFlags := 25, nameIndex := 294, descriptorIndex := 25, attributes := #[] }])
  fields := #[{ name := "U", type := (.object "jdk/internal/misc/Unsafe"), accessFlags := 24, slot := 0, constantValue := 0 }, { name := "BIG_ENDIAN", type := .boolean, accessFlags := 26, slot := 1, constantValue := 0 }, { name := "LOG2_ARRAY_BOOLEAN_INDEX_SCALE", type := .int, accessFlags := 25, slot := 2, constantValue := 0 }, { name := "LOG2_ARRAY_BYTE_INDEX_SCALE", type := .int, accessFlags := 25, slot := 3, constantValue := 0 }, { name := "LOG2_ARRAY_CHAR_INDEX_SCALE", type := .int, accessFlags := 25, slot := 4, constantValue := 0 }, { name := "LOG2_ARRAY_SHORT_INDEX_SCALE", type := .int, accessFlags := 25, slot := 5, constantValue := 0 }, { name := "LOG2_ARRAY_INT_INDEX_SCALE", type := .int, accessFlags := 25, slot := 6, constantValue := 0 }, { name := "LOG2_ARRAY_LONG_INDEX_SCALE", type := .int, accessFlags := 25, slot := 7, constantValue := 0 }, { name := "LOG2_ARRAY_FLOAT_INDEX_SCALE", type := .int, accessFlags := 25, slot := 8, constantValue := 0 }, { name := "LOG2_ARRAY_DOUBLE_INDEX_SCALE", type := .int, accessFlags := 25, slot := 9, constantValue := 0 }, { name := "LOG2_BYTE_BIT_SIZE", type := .int, accessFlags := 26, slot := 10, constantValue := 0 }, { name := "T_BOOLEAN", type := .int, accessFlags := 25, slot := 11, constantValue := 0 }, { name := "T_CHAR", type := .int, accessFlags := 25, slot := 12, constantValue := 0 }, { name := "T_FLOAT", type := .int, accessFlags := 25, slot := 13, constantValue := 0 }, { name := "T_DOUBLE", type := .int, accessFlags := 25, slot := 14, constantValue := 0 }, { name := "T_BYTE", type := .int, accessFlags := 25, slot := 15, constantValue := 0 }, { name := "T_SHORT", type := .int, accessFlags := 25, slot := 16, constantValue := 0 }, { name := "T_INT", type := .int, accessFlags := 25, slot := 17, constantValue := 0 }, { name := "T_LONG", type := .int, accessFlags := 25, slot := 18, constantValue := 0 }, { name := "JLA", type := (.object "jdk/internal/access/JavaLangAccess"), accessFlags := 26, slot := 19, constantValue := 0 }, { name := "SOFT_MAX_ARRAY_LENGTH", type := .int, accessFlags := 25, slot := 20, constantValue := 0 }]
  methods := #[k12m0]
  instanceTypes := #[]
  staticTypes := #[(.object "jdk/internal/misc/Unsafe"), .boolean, .int, .int, .int, .int, .int, .int, .int, .int, .int, .int, .int, .int, .int, .int, .int, .int, .int, (.object "jdk/internal/access/JavaLangAccess"), .int]
  resolved := Array.replicate 378 none
  statics := none }

def pool13 : Array CpInfo := pool [(1, u "java/lang/Cloneable"), (0, .class_ 1), (0, u "java/lang/Object"), (0, .class_ 3)] 3

/-- java/lang/Cloneable -/
def k13 : Class := { plain "java/lang/Cloneable" (some 0) with
  accessFlags := 1537
  interfaces := #[]
  cf := some (fileOf pool13 2 #[] #[] 1537 4 #[] #[])
  fields := #[]
  methods := #[]
  instanceTypes := #[]
  staticTypes := #[]
  resolved := Array.replicate 8 none
  statics := none }

/-- the primitive byte -/
def k14 : Class := { plain "byte" none with kind := .primitive 'B', accessFlags := 0x411 }
/-- [B -/
def k15 : Class := { plain "[B" (some 0) with kind := .array 14 .byte, interfaces := #[13, 2], accessFlags := 1041 }

/-- the primitive char -/
def k16 : Class := { plain "char" none with kind := .primitive 'C', accessFlags := 0x411 }
/-- [C -/
def k17 : Class := { plain "[C" (some 0) with kind := .array 16 .char, interfaces := #[13, 2], accessFlags := 1041 }

/-- the primitive int -/
def k18 : Class := { plain "int" none with kind := .primitive 'I', accessFlags := 0x411 }
/-- [I -/
def k19 : Class := { plain "[I" (some 0) with kind := .array 18 .int, interfaces := #[13, 2], accessFlags := 1041 }

/-- [Ljava/lang/String; -/
def k20 : Class := { plain "[Ljava/lang/String;" (some 0) with kind := .array 7 (.object "java/lang/String"), interfaces := #[13, 2], accessFlags := 1041 }

def heap : Heap := #[{ cls := 7, slots := #[.long 0, .int 1, .null, .int 0, .null, .int 0, .int 0], vm := .statics 7 },
  { cls := 11, slots := #[.null, .null, .null], vm := .statics 11 }]
def classes : Array Class := #[k0, k1, k2, k3, k4, k5, k6, k7, k8, k9, k10, k11, k12, k13, k14, k15, k16, k17, k18, k19, k20]
def interned : List (Array UInt16 × Addr) := []
def slotsUsed : Nat := 10
def theMethod : MethodId := ⟨1, 1⟩
def args0 : Array Value := #[.int 123, .int 1, .long 260, .long 777, .long 12345]
def aboutOver (below : List Frame) : State where
  vm := { classes := classes, interned := interned.toArray }
  heap := heap
  slotsUsed := slotsUsed
  threads := #[{ frames := .invoking theMethod args0 :: below }]
def below0 : List Frame := [.native { method := ⟨0, 0⟩, args := #[] }]
def about1 : State := aboutOver below0
def p0 : Program := .bare "" "" ""
def e0 : Env := launch0.env 0 0 0
theorem w_frames : about1.frames = Frame.invoking theMethod args0 :: below0 := rfl
set_option maxRecDepth 65536 in
theorem w_args : argsFit about1.vm theMethod args0 = true := by decide +kernel
set_option maxRecDepth 65536 in
theorem w_heap : heapFits about1 = true := by decide +kernel
set_option maxRecDepth 65536 in
theorem w_runnable : about1.curStatus? = some .runnable := by decide +kernel
set_option maxRecDepth 65536 in
theorem w_alone : about1.alone = true := by decide +kernel
set_option maxRecDepth 65536 in
theorem w_named : about1.methodNamed? x = some theMethod := by decide +kernel
set_option maxRecDepth 65536 in
theorem w_hears : about1.hears theMethod below0 = true := by decide +kernel
set_option maxRecDepth 65536 in
theorem w_ripe : about1.ripe theMethod args0 below0 = true := by decide +kernel
theorem w_running : about1.status = .running := rfl
set_option maxRecDepth 65536 in
theorem w_room : about1.hasRoom e0.platform room_1 = true :=
  launch0.hasRoom_least _ room_1 (by decide +kernel) (by decide +kernel) (by decide +kernel) (by decide +kernel) (by decide +kernel) (by decide +kernel)
theorem allAtoms_all (ts : List Jvm.Cond) (a : Array Jvm.Value) (st : Jvm.State) : (allAtoms ts).before a st = ts.all (fun c => c.before a st) := by
  induction ts with
  | nil => rfl
  | cons c t ih =>
    show (Jvm.Cond.and c (allAtoms t)).before a st = _
    rw [Jvm.Cond.before_and, ih, List.all_cons]
def words1 : List Jvm.Cond := Jvm.Cond.code x code maxLocals ret :: tables_1
/-- a 'code' word, met by the world's own term for the bytes: nothing is compared byte by byte -/
theorem code_word {y : MethodName} {bytes : ByteArray} {mx : Nat} {rt : Option FieldType} {a : Array Value} {s : State} {m : MethodId} {meth : Method} {c : Code} (h1 : s.methodNamed? y = some m) (h2 : s.vm.method? m = some meth) (h3 : meth.code = some c) (h4 : c.code = bytes)
    (h5 : (c.maxLocals == mx && c.exceptionTable.isEmpty && decide (c.maxStack ≤ mostOperands) && decide (meth.sig.returnType = rt) && !meth.locks && decide (parseMethodDescriptor y.desc = some meth.sig)) = true) : (Jvm.Cond.code y bytes mx rt).before a s = true := by
  simp only [Bool.and_eq_true, beq_iff_eq, Bool.not_eq_true', decide_eq_true_eq] at h5
  obtain ⟨⟨⟨⟨⟨g1, g2⟩, g3⟩, g4⟩, g5⟩, g6⟩ := h5
  simp [Cond.before, Cond.holds, Cond.value, h1, h2, h3, h4, g1, g2, g3, g4, g5, g6]
def isCode : Jvm.Cond → Bool
  | .code _ _ _ _ => true
  | _ => false
theorem all_split {L : List Jvm.Cond} {P : Jvm.Cond → Bool} (h1 : L.all (fun c => isCode c || P c) = true) (h2 : ∀ c ∈ L.filter isCode, P c = true) : L.all P = true := by
  refine List.all_eq_true.mpr fun c hc => ?_
  have h := List.all_eq_true.mp h1 c hc
  rcases Bool.eq_false_or_eq_true (isCode c) with hi | hi
  · exact h2 c (List.mem_filter.mpr ⟨hc, hi⟩)
  · simpa [hi] using h
set_option maxRecDepth 65536 in
theorem w_c0 : (Jvm.Cond.code x code maxLocals ret).before args0 about1 = true := code_word (m := ⟨1, 1⟩) (meth := k1m1) (c := k1c1) (by decide +kernel) rfl rfl rfl (by decide +kernel)
set_option maxRecDepth 65536 in
theorem w_c1 : (Jvm.Cond.code ({ cls := "com/example/derivant/derivant/cli/DispatchContainsPinLaw", name := "mk", desc := "(J)Ljava/lang/String;" } : Jvm.MethodName) method_4_code (5 : Nat) (Option.some (Jvm.ClassFile.FieldType.object "java/lang/String"))).before args0 about1 = true := code_word (m := ⟨1, 3⟩) (meth := k1m3) (c := k1c3) (by decide +kernel) rfl rfl rfl (by decide +kernel)
set_option maxRecDepth 65536 in
theorem w_c2 : (Jvm.Cond.code ({ cls := "java/lang/String", name := "valueOf", desc := "(C)Ljava/lang/String;" } : Jvm.MethodName) jdk_42_method_139_code (1 : Nat) (Option.some (Jvm.ClassFile.FieldType.object "java/lang/String"))).before args0 about1 = true := code_word (m := ⟨7, 3⟩) (meth := k7m3) (c := k7c3) (by decide +kernel) rfl rfl rfl (by decide +kernel)
set_option maxRecDepth 65536 in
theorem w_c3 : (Jvm.Cond.code ({ cls := "java/lang/StringLatin1", name := "canEncode", desc := "(C)Z" } : Jvm.MethodName) jdk_43_method_3_code (1 : Nat) (Option.some Jvm.ClassFile.FieldType.boolean)).before args0 about1 = true := code_word (m := ⟨8, 1⟩) (meth := k8m1) (c := k8c1) (by decide +kernel) rfl rfl rfl (by decide +kernel)
set_option maxRecDepth 65536 in
theorem w_c4 : (Jvm.Cond.code ({ cls := "java/lang/StringLatin1", name := "toBytes", desc := "(C)[B" } : Jvm.MethodName) jdk_43_method_46_code (1 : Nat) (Option.some (Jvm.ClassFile.FieldType.array Jvm.ClassFile.FieldType.byte))).before args0 about1 = true := code_word (m := ⟨8, 3⟩) (meth := k8m3) (c := k8c3) (by decide +kernel) rfl rfl rfl (by decide +kernel)
set_option maxRecDepth 65536 in
theorem w_c5 : (Jvm.Cond.code ({ cls := "java/lang/String", name := "<init>", desc := "([BB)V" } : Jvm.MethodName) jdk_42_method_151_code (3 : Nat) (Option.none : Option Jvm.ClassFile.FieldType)).before args0 about1 = true := code_word (m := ⟨7, 5⟩) (meth := k7m5) (c := k7c5) (by decide +kernel) rfl rfl rfl (by decide +kernel)
set_option maxRecDepth 65536 in
theorem w_c6 : (Jvm.Cond.code ({ cls := "java/lang/Object", name := "<init>", desc := "()V" } : Jvm.MethodName) object_method_1_code (1 : Nat) (Option.none : Option Jvm.ClassFile.FieldType)).before args0 about1 = true := code_word (m := ⟨0, 0⟩) (meth := k0m0) (c := k0c0) (by decide +kernel) rfl rfl rfl (by decide +kernel)
set_option maxRecDepth 65536 in
theorem w_c7 : (Jvm.Cond.code ({ cls := "java/lang/String", name := "<init>", desc := "([C)V" } : Jvm.MethodName) jdk_42_method_3_code (2 : Nat) (Option.none : Option Jvm.ClassFile.FieldType)).before args0 about1 = true := code_word (m := ⟨7, 1⟩) (meth := k7m1) (c := k7c1) (by decide +kernel) rfl rfl rfl (by decide +kernel)
set_option maxRecDepth 65536 in
theorem w_c8 : (Jvm.Cond.code ({ cls := "java/lang/String", name := "<init>", desc := "([CIILjava/lang/Void;)V" } : Jvm.MethodName) jdk_42_method_149_code (6 : Nat) (Option.none : Option Jvm.ClassFile.FieldType)).before args0 about1 = true := code_word (m := ⟨7, 4⟩) (meth := k7m4) (c := k7c4) (by decide +kernel) rfl rfl rfl (by decide +kernel)
set_option maxRecDepth 65536 in
theorem w_c9 : (Jvm.Cond.code ({ cls := "com/example/derivant/derivant/cli/DispatchContainsPinLaw", name := "hit", desc := "([Ljava/lang/String;IILjava/lang/String;)Z" } : Jvm.MethodName) method_3_code (4 : Nat) (Option.some Jvm.ClassFile.FieldType.boolean)).before args0 about1 = true := code_word (m := ⟨1, 2⟩) (meth := k1m2) (c := k1c2) (by decide +kernel) rfl rfl rfl (by decide +kernel)
set_option maxRecDepth 65536 in
theorem w_c10 : (Jvm.Cond.code ({ cls := "com/example/derivant/derivant/cli/Dispatch", name := "contains", desc := "([Ljava/lang/String;ILjava/lang/String;)Z" } : Jvm.MethodName) prog_11_method_13_code (4 : Nat) (Option.some Jvm.ClassFile.FieldType.boolean)).before args0 about1 = true := code_word (m := ⟨9, 0⟩) (meth := k9m0) (c := k9c0) (by decide +kernel) rfl rfl rfl (by decide +kernel)
set_option maxRecDepth 65536 in
theorem w_c11 : (Jvm.Cond.code ({ cls := "java/lang/StringUTF16", name := "compress", desc := "([CII)[B" } : Jvm.MethodName) jdk_52_method_16_code (6 : Nat) (Option.some (Jvm.ClassFile.FieldType.array Jvm.ClassFile.FieldType.byte))).before args0 about1 = true := code_word (m := ⟨10, 2⟩) (meth := k10m2) (c := k10c2) (by decide +kernel) rfl rfl rfl (by decide +kernel)
set_option maxRecDepth 65536 in
theorem w_c12 : (Jvm.Cond.code ({ cls := "java/lang/StringUTF16", name := "compress", desc := "([CI[BII)I" } : Jvm.MethodName) jdk_52_method_21_code (7 : Nat) (Option.some Jvm.ClassFile.FieldType.int)).before args0 about1 = true := code_word (m := ⟨10, 3⟩) (meth := k10m3) (c := k10c3) (by decide +kernel) rfl rfl rfl (by decide +kernel)
set_option maxRecDepth 65536 in
theorem w_c13 : (Jvm.Cond.code ({ cls := "java/lang/StringUTF16", name := "coderFromArrayLen", desc := "([BI)B" } : Jvm.MethodName) jdk_52_method_15_code (2 : Nat) (Option.some Jvm.ClassFile.FieldType.byte)).before args0 about1 = true := code_word (m := ⟨10, 1⟩) (meth := k10m1) (c := k10c1) (by decide +kernel) rfl rfl rfl (by decide +kernel)
set_option maxRecDepth 65536 in
theorem w_c14 : (Jvm.Cond.code ({ cls := "java/lang/String", name := "equals", desc := "(Ljava/lang/Object;)Z" } : Jvm.MethodName) jdk_42_method_66_code (3 : Nat) (Option.some Jvm.ClassFile.FieldType.boolean)).before args0 about1 = true := code_word (m := ⟨7, 2⟩) (meth := k7m2) (c := k7c2) (by decide +kernel) rfl rfl rfl (by decide +kernel)
set_option maxRecDepth 65536 in
theorem w_c15 : (Jvm.Cond.code ({ cls := "java/lang/StringLatin1", name := "equals", desc := "([B[B)Z" } : Jvm.MethodName) jdk_43_method_13_code (3 : Nat) (Option.some Jvm.ClassFile.FieldType.boolean)).before args0 about1 = true := code_word (m := ⟨8, 2⟩) (meth := k8m2) (c := k8c2) (by decide +kernel) rfl rfl rfl (by decide +kernel)
def codes1 : List Jvm.Cond := [Jvm.Cond.code x code maxLocals ret, Jvm.Cond.code ({ cls := "com/example/derivant/derivant/cli/DispatchContainsPinLaw", name := "mk", desc := "(J)Ljava/lang/String;" } : Jvm.MethodName) method_4_code (5 : Nat) (Option.some (Jvm.ClassFile.FieldType.object "java/lang/String")), Jvm.Cond.code ({ cls := "java/lang/String", name := "valueOf", desc := "(C)Ljava/lang/String;" } : Jvm.MethodName) jdk_42_method_139_code (1 : Nat) (Option.some (Jvm.ClassFile.FieldType.object "java/lang/String")), Jvm.Cond.code ({ cls := "java/lang/StringLatin1", name := "canEncode", desc := "(C)Z" } : Jvm.MethodName) jdk_43_method_3_code (1 : Nat) (Option.some Jvm.ClassFile.FieldType.boolean), Jvm.Cond.code ({ cls := "java/lang/StringLatin1", name := "toBytes", desc := "(C)[B" } : Jvm.MethodName) jdk_43_method_46_code (1 : Nat) (Option.some (Jvm.ClassFile.FieldType.array Jvm.ClassFile.FieldType.byte)), Jvm.Cond.code ({ cls := "java/lang/String", name := "<init>", desc := "([BB)V" } : Jvm.MethodName) jdk_42_method_151_code (3 : Nat) (Option.none : Option Jvm.ClassFile.FieldType), Jvm.Cond.code ({ cls := "java/lang/Object", name := "<init>", desc := "()V" } : Jvm.MethodName) object_method_1_code (1 : Nat) (Option.none : Option Jvm.ClassFile.FieldType), Jvm.Cond.code ({ cls := "java/lang/String", name := "<init>", desc := "([C)V" } : Jvm.MethodName) jdk_42_method_3_code (2 : Nat) (Option.none : Option Jvm.ClassFile.FieldType), Jvm.Cond.code ({ cls := "java/lang/String", name := "<init>", desc := "([CIILjava/lang/Void;)V" } : Jvm.MethodName) jdk_42_method_149_code (6 : Nat) (Option.none : Option Jvm.ClassFile.FieldType), Jvm.Cond.code ({ cls := "com/example/derivant/derivant/cli/DispatchContainsPinLaw", name := "hit", desc := "([Ljava/lang/String;IILjava/lang/String;)Z" } : Jvm.MethodName) method_3_code (4 : Nat) (Option.some Jvm.ClassFile.FieldType.boolean), Jvm.Cond.code ({ cls := "com/example/derivant/derivant/cli/Dispatch", name := "contains", desc := "([Ljava/lang/String;ILjava/lang/String;)Z" } : Jvm.MethodName) prog_11_method_13_code (4 : Nat) (Option.some Jvm.ClassFile.FieldType.boolean), Jvm.Cond.code ({ cls := "java/lang/StringUTF16", name := "compress", desc := "([CII)[B" } : Jvm.MethodName) jdk_52_method_16_code (6 : Nat) (Option.some (Jvm.ClassFile.FieldType.array Jvm.ClassFile.FieldType.byte)), Jvm.Cond.code ({ cls := "java/lang/StringUTF16", name := "compress", desc := "([CI[BII)I" } : Jvm.MethodName) jdk_52_method_21_code (7 : Nat) (Option.some Jvm.ClassFile.FieldType.int), Jvm.Cond.code ({ cls := "java/lang/StringUTF16", name := "coderFromArrayLen", desc := "([BI)B" } : Jvm.MethodName) jdk_52_method_15_code (2 : Nat) (Option.some Jvm.ClassFile.FieldType.byte), Jvm.Cond.code ({ cls := "java/lang/String", name := "equals", desc := "(Ljava/lang/Object;)Z" } : Jvm.MethodName) jdk_42_method_66_code (3 : Nat) (Option.some Jvm.ClassFile.FieldType.boolean), Jvm.Cond.code ({ cls := "java/lang/StringLatin1", name := "equals", desc := "([B[B)Z" } : Jvm.MethodName) jdk_43_method_13_code (3 : Nat) (Option.some Jvm.ClassFile.FieldType.boolean)]
set_option maxRecDepth 65536 in
theorem codes_eq : words1.filter isCode = codes1 := rfl
theorem w_codes : ∀ c ∈ words1.filter isCode, c.before args0 about1 = true := by
  rw [codes_eq]
  intro c hc
  simp only [codes1, List.mem_cons, List.not_mem_nil, or_false] at hc
  rcases hc with rfl | rfl | rfl | rfl | rfl | rfl | rfl | rfl | rfl | rfl | rfl | rfl | rfl | rfl | rfl | rfl
  · exact w_c0
  · exact w_c1
  · exact w_c2
  · exact w_c3
  · exact w_c4
  · exact w_c5
  · exact w_c6
  · exact w_c7
  · exact w_c8
  · exact w_c9
  · exact w_c10
  · exact w_c11
  · exact w_c12
  · exact w_c13
  · exact w_c14
  · exact w_c15
set_option maxRecDepth 65536 in
theorem w_t1 : (words1.take 24).all (fun c => isCode c || c.before args0 about1) = true := by decide +kernel
set_option maxRecDepth 65536 in
theorem w_t2 : ((words1.drop 24).take 24).all (fun c => isCode c || c.before args0 about1) = true := by decide +kernel
set_option maxRecDepth 65536 in
theorem w_t3 : ((words1.drop 24).drop 24).all (fun c => isCode c || c.before args0 about1) = true := by decide +kernel
theorem w_tables : (allAtoms (Jvm.Cond.code x code maxLocals ret :: tables_1)).before args0 about1 = true := by
  rw [allAtoms_all]
  show words1.all (fun c => c.before args0 about1) = true
  refine all_split ?_ w_codes
  rw [← List.take_append_drop 24 words1, List.all_append, w_t1, ← List.take_append_drop 24 (words1.drop 24), List.all_append, w_t2, w_t3]
  rfl
set_option maxRecDepth 65536 in
theorem w_rest : rest_1_c.before args0 about1 = true := by decide +kernel
set_option maxRecDepth 65536 in
theorem w_case : (Jvm.Cond.and given_1 narrow_1).before args0 about1 = true := by decide +kernel
set_option maxRecDepth 65536 in
theorem w_consts : constsHeld consts_1 about1 := Jvm.Lit.constsHeldB_iff.mp (by decide +kernel)
theorem w_applies : (headSpec (Jvm.Cond.code x code maxLocals ret :: tables_1) room_1).applies x e0.platform about1 = true :=
  (Spec.applies_iff w_frames).mpr ⟨w_running, w_runnable, w_alone, w_named, w_hears, w_ripe, w_room, w_tables⟩
theorem atStart : AtStart classFile x code maxLocals ret World_1 tables_1 room_1 Calls_1 rest_1 Pre_1 launch0 p0 e0 about1 theMethod args0 below0 :=
  ⟨lists_1, trivial, launch0.admits_env _ _ _, launch0.least_env, fairChoices_fair.cas, fairChoices_fair.clock, w_frames, w_args, w_heap, w_applies, ⟨w_consts, trivial⟩, w_rest, w_case⟩
end start1
theorem witness_1 : WitnessClaimed_1 := ⟨start1.p0, start1.e0, start1.about1, start1.theMethod, start1.args0, start1.below0, start1.atStart⟩
end Jvm.Pilot.@@N@@
