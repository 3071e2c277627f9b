import JvmDerived
import JvmDerived.Pilot.@@N@@Statement
import JvmDerived.Pilot.@@N@@Code
set_option linter.unusedVariables false
set_option linter.unusedSimpArgs false
/- laws to paste: Road.backV, Road.lenW, Road.chN, Road.codOf (cut by pick.py; bodies as the Statement names them) -/
namespace Jvm.Pilot.@@N@@
namespace StrChars
open Jvm Sem ClassFile Op Lib Jvm.Stand Jvm.Free.XT Jvm.Free.ALB Jvm.Free.JM Jvm.Free
open Jvm.Lib.Cold (StaticIs)
/-- a char array whose places are chars -/
def Ch (a : Addr) (A : Cell) (U : State) : Prop := Arr .char a A U ∧ Typed .char A
theorem Ch.mv {a : Addr} {A : Cell} {U U' : State} (h : Ch a A U) (hal : U.vm.Alike U'.vm) (hh : U'.heap = U.heap) : Ch a A U' := ⟨h.1.mv hal hh, h.2⟩
theorem Ch.keep {a : Addr} {A : Cell} {U U' : State} (h : Ch a A U) (hal : U.vm.Alike U'.vm) (hk : U'.heap[a]? = some A) : Ch a A U' := ⟨h.1.keep hal hk, h.2⟩
/-- what place i of a char[]'s cell holds -/
def cv (A : Cell) (i : Nat) : Int32 := match A.slots[i]? with | some (.int x) => x | _ => 0
theorem Ch.get {a : Addr} {A : Cell} {U : State} (h : Ch a A U) {i : Nat} (hi : i < A.slots.size) : A.slots[i]? = some (.int (cv A i)) := by
  have e := Array.getElem?_eq_getElem hi
  have f := h.2 i _ e
  unfold cv; rw [e]
  generalize A.slots[i] = v at f
  cases v <;> simp [fits] at f ⊢
/-- the byte that i2b leaves of a char -/
def lo8 (x : Int32) : Int32 := x.toInt8.toInt32
theorem fits_lo8 (y : Int32) : fits .byte (.int (lo8 y)) = true := by
  have h1 := y.toInt8.le_toInt
  have h2 := y.toInt8.toInt_lt
  simp only [lo8, fits, Bool.and_eq_true, decide_eq_true_eq, Int32.le_iff_toInt_le, Int8.toInt_toInt32, show (-128 : Int32).toInt = -128 from by decide, show (127 : Int32).toInt = 127 from by decide]
  omega
/-- A' is A but that each place j of lo .. hi - 1 holds f j -/
def Laid (A A' : Cell) (lo hi : Nat) (f : Nat → Value) : Prop := A'.cls = A.cls ∧ A'.vm = A.vm ∧ A'.slots.size = A.slots.size ∧ ∀ i, A'.slots[i]? = if lo ≤ i ∧ i < hi then some (f i) else A.slots[i]?
theorem Laid.zero (A : Cell) (lo : Nat) (f : Nat → Value) : Laid A A lo (lo + 0) f := ⟨rfl, rfl, rfl, fun i => by rw [if_neg (by omega)]⟩
theorem Laid.step {A Ak : Cell} {lo k : Nat} {f : Nat → Value} {v : Value} (h : Laid A Ak lo k f) (hlo : lo ≤ k) (hk : k < Ak.slots.size) (hv : v = f k) : Laid A (Ak.setSlot k v) lo (k + 1) f := by
  refine ⟨h.1, h.2.1, by simpa [Cell.setSlot] using h.2.2.1, fun i => ?_⟩
  by_cases e : k = i
  · subst e; rw [Cell.slots_setSlot_self v hk, if_pos (by omega), hv]
  · rw [Cell.slots_setSlot_ne v e, h.2.2.2 i]
    by_cases q : lo ≤ i ∧ i < k
    · rw [if_pos q, if_pos (by omega)]
    · rw [if_neg q, if_neg (by omega)]
def U16 : String := "java/lang/StringUTF16"
namespace Cmp5
def yN : MethodName := ⟨"java/lang/StringUTF16", "compress", "([CI[BII)I"⟩
abbrev yB : ByteArray := jdk_52_method_21_code
theorem d0 : decode yB 0 = .ok (.iconst 0, 1) := by decide +kernel
theorem d1 : decode yB 1 = .ok (.istore 5, 2) := by decide +kernel
theorem d3 : decode yB 3 = .ok (.iload 5, 2) := by decide +kernel
theorem d5 : decode yB 5 = .ok (.iload 4, 2) := by decide +kernel
theorem d7 : decode yB 7 = .ok (.if_icmp (.ge) 37, 3) := by decide +kernel
theorem d10 : decode yB 10 = .ok (.aload_n 0, 1) := by decide +kernel
theorem d11 : decode yB 11 = .ok (.iload_n 1, 1) := by decide +kernel
theorem d12 : decode yB 12 = .ok (.caload, 1) := by decide +kernel
theorem d13 : decode yB 13 = .ok (.istore 6, 2) := by decide +kernel
theorem d15 : decode yB 15 = .ok (.iload 6, 2) := by decide +kernel
theorem d17 : decode yB 17 = .ok (.sipush 255, 3) := by decide +kernel
theorem d20 : decode yB 20 = .ok (.if_icmp (.le) 6, 3) := by decide +kernel
theorem d26 : decode yB 26 = .ok (.aload_n 2, 1) := by decide +kernel
theorem d27 : decode yB 27 = .ok (.iload_n 3, 1) := by decide +kernel
theorem d28 : decode yB 28 = .ok (.iload 6, 2) := by decide +kernel
theorem d30 : decode yB 30 = .ok (.i2b, 1) := by decide +kernel
theorem d31 : decode yB 31 = .ok (.bastore, 1) := by decide +kernel
theorem d32 : decode yB 32 = .ok (.iinc 1 1, 3) := by decide +kernel
theorem d35 : decode yB 35 = .ok (.iinc 3 1, 3) := by decide +kernel
theorem d38 : decode yB 38 = .ok (.iinc 5 1, 3) := by decide +kernel
theorem d41 : decode yB 41 = .ok (.goto (-38), 3) := by decide +kernel
theorem d44 : decode yB 44 = .ok (.iload 4, 2) := by decide +kernel
theorem d46 : decode yB 46 = .ok (.ireturn, 1) := by decide +kernel
def site : List Cond := []
def tab : Cond := tabOf yN yB 7 (some .int) site
def P (b : Addr) (A : Cell) (d : Addr) (B : Cell) (o q len : Nat) (args : Array Value) (s : State) : Prop := args = #[.ref b, .int (Int32.ofNat o), .ref d, .int (Int32.ofNat q), .int (Int32.ofNat len)] ∧ Ch b A s ∧ Arr .byte d B s ∧ b ≠ d ∧ o + len ≤ A.slots.size ∧ q + len ≤ B.slots.size ∧ ∀ i, i < len → ¬ 255 < cv A (o + i)
def E (b : Addr) (A : Cell) (d : Addr) (B : Cell) (o q len : Nat) (r : Option Value) (s u : State) : Prop := r = some (.int (Int32.ofNat len)) ∧ ∃ B', Put d B' s u ∧ Laid B B' q (q + len) (fun j => Value.int (lo8 (cv A (o + (j - q)))))
/-- no char of the range above 255: len; the places written hold each char's low byte -/
theorem law (l : Launch) (b : Addr) (A : Cell) (d : Addr) (B : Cell) (o q len : Nat) : Law l yN 5 5 0 0 yB 7 (some .int) site (P b A d B o q len) (E b A d B o q len) (copyLocs d q len) 0 0 := by
  refine Law.of_walk (plainFor_of_name (by decide +kernel)) (by decide +kernel) (by decide +kernel) (by decide) (fun _ _ h => by rw [h.1]; rfl) (fun _ U U' hal hh h => ⟨h.1, h.2.1.mv hal hh, h.2.2.1.mv hal hh, h.2.2.2⟩) (fun r U U' V V' h1 hal h2 h => ⟨h.1, h.2.elim fun B' q => ⟨B', q.1.mv h1 h2, q.2⟩⟩) ?_
  intro p e s m args below meth c s₁ X0 hexec hbytes hml hret hlk hnm hown hh0 W hP
  obtain ⟨rfl, hA, hB, hne, l1, l2, hp⟩ := hP
  have c1 : Steps p.tables e below (s₁.setTop (entryFrame m #[.ref b, .int (Int32.ofNat o), .ref d, .int (Int32.ofNat q), .int (Int32.ofNat len)] 7)) (s₁.setTop (mkF m 0 #[.val (.ref b), .val (.int (Int32.ofNat o)), .val (.ref d), .val (.int (Int32.ofNat q)), .val (.int (Int32.ofNat len)), .unset, .unset] [])) := entry rfl
  have hA0 := hA.1.mv X0.warmed.alike hh0
  have hB0 := hB.mv X0.warmed.alike hh0
  have a31 := hA.1.2.2.2
  have c2 : Steps p.tables e below (s₁.setTop (entryFrame m #[.ref b, .int (Int32.ofNat o), .ref d, .int (Int32.ofNat q), .int (Int32.ofNat len)] 7)) (s₁.setTop (mkF m 3 #[.val (.ref b), .val (.int (Int32.ofNat o)), .val (.ref d), .val (.int (Int32.ofNat q)), .val (.int (Int32.ofNat len)), .val (.int 0), .unset] [])) := c1.trans (by
    refine iconstV X0.here hexec rfl 0 (hb hbytes d0) (by decide) ?_
    refine XS.istore X0.here hexec rfl (hb hbytes d1) rfl rfl ?_
    exact Steps.refl _)
  have loop : ∀ (r i : Nat), i + r = len → ∀ (z : Slot), (z = .unset ∨ ∃ w, z = .val w ∧ w.category = 1) → ∀ (Tl : State) (Bk : Cell), Stand p l e { frames := 0, locals := 0, cells := 0, slots := 0 } s m #[.ref b, .int (Int32.ofNat o), .ref d, .int (Int32.ofNat q), .int (Int32.ofNat len)] below meth c Tl ([] ++ copyLocs d q i) 0 0 → Put d Bk s₁ Tl → Laid B Bk q (q + i) (fun j => Value.int (lo8 (cv A (o + (j - q))))) →
      Steps p.tables e below (s₁.setTop (entryFrame m #[.ref b, .int (Int32.ofNat o), .ref d, .int (Int32.ofNat q), .int (Int32.ofNat len)] 7)) (Tl.setTop (mkF m 3 #[.val (.ref b), .val (.int (Int32.ofNat (o + i))), .val (.ref d), .val (.int (Int32.ofNat (q + i))), .val (.int (Int32.ofNat len)), .val (.int (Int32.ofNat i)), z] [])) → ∃ (T' : State) (B' : Cell) (z' : Slot), Stand p l e { frames := 0, locals := 0, cells := 0, slots := 0 } s m #[.ref b, .int (Int32.ofNat o), .ref d, .int (Int32.ofNat q), .int (Int32.ofNat len)] below meth c T' ([] ++ copyLocs d q len) 0 0 ∧ Put d B' s₁ T' ∧ Laid B B' q (q + len) (fun j => Value.int (lo8 (cv A (o + (j - q))))) ∧
      Steps p.tables e below (s₁.setTop (entryFrame m #[.ref b, .int (Int32.ofNat o), .ref d, .int (Int32.ofNat q), .int (Int32.ofNat len)] 7)) (T'.setTop (mkF m 3 #[.val (.ref b), .val (.int (Int32.ofNat (o + len))), .val (.ref d), .val (.int (Int32.ofNat (q + len))), .val (.int (Int32.ofNat len)), .val (.int (Int32.ofNat len)), z'] [])) := by
    intro r
    induction r with
    | zero =>
      intro i hi z hz Tl Bk Xl pl fl cl
      have hil : i = len := by omega
      rw [hil] at Xl fl cl
      exact ⟨Tl, Bk, z, Xl, pl, fl, cl⟩
    | succ r ih =>
      intro i hi z hz Tl Bk Xl pl fl cl
      have all := X0.warmed.alike.symm.trans Xl.warmed.alike
      have hAl := hA0.keep all (pl.other hne hA0.1)
      have hBk := hB0.like all pl.1 fl.1 fl.2.1 fl.2.2.1
      have hlt : q + i < Bk.slots.size := by rw [fl.2.2.1]; omega
      have c3 : Steps p.tables e below (s₁.setTop (entryFrame m #[.ref b, .int (Int32.ofNat o), .ref d, .int (Int32.ofNat q), .int (Int32.ofNat len)] 7)) (Tl.setTop (mkF m 12 #[.val (.ref b), .val (.int (Int32.ofNat (o + i))), .val (.ref d), .val (.int (Int32.ofNat (q + i))), .val (.int (Int32.ofNat len)), .val (.int (Int32.ofNat i)), z] [.int (Int32.ofNat (o + i)), .ref b])) := cl.trans (by
        refine XS.iload Xl.here hexec rfl (hb hbytes d3) rfl ?_
        refine XS.iload Xl.here hexec rfl (hb hbytes d5) rfl ?_
        refine XS.icmpNo Xl.here hexec rfl (hb hbytes d7) rfl (ii_ge_f (lt32 (by omega) (by omega))) ?_
        refine XS.aloadN Xl.here hexec rfl (hb hbytes d10) rfl rfl ?_
        refine XS.iloadN Xl.here hexec rfl (hb hbytes d11) rfl ?_
        exact Steps.refl _)
      have c4 : Steps p.tables e below (s₁.setTop (entryFrame m #[.ref b, .int (Int32.ofNat o), .ref d, .int (Int32.ofNat q), .int (Int32.ofNat len)] 7)) (Tl.setTop (mkF m 13 #[.val (.ref b), .val (.int (Int32.ofNat (o + i))), .val (.ref d), .val (.int (Int32.ofNat (q + i))), .val (.int (Int32.ofNat len)), .val (.int (Int32.ofNat i)), z] [.int (cv A (o + i))])) := c3.trans (by
        refine Xl.aget hexec hAl rfl (hA.get (i := o + i) (by omega)) rfl rfl (hb hbytes d12) ?_
        exact Steps.refl _)
      have c5 : Steps p.tables e below (s₁.setTop (entryFrame m #[.ref b, .int (Int32.ofNat o), .ref d, .int (Int32.ofNat q), .int (Int32.ofNat len)] 7)) (Tl.setTop (mkF m 15 #[.val (.ref b), .val (.int (Int32.ofNat (o + i))), .val (.ref d), .val (.int (Int32.ofNat (q + i))), .val (.int (Int32.ofNat len)), .val (.int (Int32.ofNat i)), .val (.int (cv A (o + i)))] [])) := c4.trans (by
        refine XS.istoreS Xl.here hexec rfl (hb hbytes d13) rfl rfl hz ?_
        exact Steps.refl _)
      have c6 : Steps p.tables e below (s₁.setTop (entryFrame m #[.ref b, .int (Int32.ofNat o), .ref d, .int (Int32.ofNat q), .int (Int32.ofNat len)] 7)) (Tl.setTop (mkF m 31 #[.val (.ref b), .val (.int (Int32.ofNat (o + i))), .val (.ref d), .val (.int (Int32.ofNat (q + i))), .val (.int (Int32.ofNat len)), .val (.int (Int32.ofNat i)), .val (.int (cv A (o + i)))] [.int (lo8 (cv A (o + i))), .int (Int32.ofNat (q + i)), .ref d])) := c5.trans (by
        refine XS.iload Xl.here hexec rfl (hb hbytes d15) rfl ?_
        refine sipushV Xl.here hexec rfl 255 (hb hbytes d17) (by decide) ?_
        refine XS.icmpYes Xl.here hexec rfl (pc0 := 20) rfl (hb hbytes d20) rfl (ii_le_t (hp i (by omega))) (by decide) rfl ?_
        refine XS.aloadN Xl.here hexec rfl (hb hbytes d26) rfl rfl ?_
        refine XS.iloadN Xl.here hexec rfl (hb hbytes d27) rfl ?_
        refine XS.iload Xl.here hexec rfl (hb hbytes d28) rfl ?_
        refine i2b Xl.here hexec rfl (hb hbytes d30) rfl ?_
        exact Steps.refl _)
      obtain ⟨T7, X7, p7, st7⟩ := Xl.aput hexec hBk rfl hlt rfl (fits_lo8 (cv A (o + i))) (g := (mkF m 31 #[.val (.ref b), .val (.int (Int32.ofNat (o + i))), .val (.ref d), .val (.int (Int32.ofNat (q + i))), .val (.int (Int32.ofNat len)), .val (.int (Int32.ofNat i)), .val (.int (cv A (o + i)))] [.int (lo8 (cv A (o + i))), .int (Int32.ofNat (q + i)), .ref d])) rfl (rest := []) rfl (hb hbytes d31)
      have c8 : Steps p.tables e below (s₁.setTop (entryFrame m #[.ref b, .int (Int32.ofNat o), .ref d, .int (Int32.ofNat q), .int (Int32.ofNat len)] 7)) (T7.setTop (mkF m 32 #[.val (.ref b), .val (.int (Int32.ofNat (o + i))), .val (.ref d), .val (.int (Int32.ofNat (q + i))), .val (.int (Int32.ofNat len)), .val (.int (Int32.ofNat i)), .val (.int (cv A (o + i)))] [])) := c6.trans (st7 _ (Steps.refl _))
      have c9 : Steps p.tables e below (s₁.setTop (entryFrame m #[.ref b, .int (Int32.ofNat o), .ref d, .int (Int32.ofNat q), .int (Int32.ofNat len)] 7)) (T7.setTop (mkF m 3 #[.val (.ref b), .val (.int (Int32.ofNat (o + i) + 1)), .val (.ref d), .val (.int (Int32.ofNat (q + i) + 1)), .val (.int (Int32.ofNat len)), .val (.int (Int32.ofNat i + 1)), .val (.int (cv A (o + i)))] [])) := c8.trans (by
        refine iincV X7.here hexec rfl 1 (hb hbytes d32) (by decide) rfl rfl ?_
        refine iincV X7.here hexec rfl 1 (hb hbytes d35) (by decide) rfl rfl ?_
        refine iincV X7.here hexec rfl 1 (hb hbytes d38) (by decide) rfl rfl ?_
        refine XS.goto X7.here hexec rfl (pc0 := 41) rfl (hb hbytes d41) (by decide) rfl ?_
        exact Steps.refl _)
      have c10 : Steps p.tables e below (s₁.setTop (entryFrame m #[.ref b, .int (Int32.ofNat o), .ref d, .int (Int32.ofNat q), .int (Int32.ofNat len)] 7)) (T7.setTop (mkF m 3 #[.val (.ref b), .val (.int (Int32.ofNat (o + (i + 1)))), .val (.ref d), .val (.int (Int32.ofNat (q + (i + 1)))), .val (.int (Int32.ofNat len)), .val (.int (Int32.ofNat (i + 1))), .val (.int (cv A (o + i)))] [])) := by
        have := c9
        rw [succ32, succ32, succ32] at this
        exact this
      exact ih (i + 1) (by omega) _ (Or.inr ⟨_, rfl, rfl⟩) T7 _ (by rw [copyLocs_step, ← List.append_assoc]; exact X7) (pl.trans p7) (fl.step (by omega) hlt (by simp)) c10
  obtain ⟨T9, B9, z9, X9, p9, f9, g9⟩ := loop len 0 (by omega) .unset (Or.inl rfl) s₁ B (by simpa [copyLocs] using X0) ⟨hB0.1, fun _ _ => rfl, rfl⟩ (Laid.zero _ _ _) c2
  have c11 : Steps p.tables e below (s₁.setTop (entryFrame m #[.ref b, .int (Int32.ofNat o), .ref d, .int (Int32.ofNat q), .int (Int32.ofNat len)] 7)) (T9.setTop (mkF m 46 #[.val (.ref b), .val (.int (Int32.ofNat (o + len))), .val (.ref d), .val (.int (Int32.ofNat (q + len))), .val (.int (Int32.ofNat len)), .val (.int (Int32.ofNat len)), z9] [.int (Int32.ofNat len)])) := g9.trans (by
    refine XS.iload X9.here hexec rfl (hb hbytes d3) rfl ?_
    refine XS.iload X9.here hexec rfl (hb hbytes d5) rfl ?_
    refine XS.icmpYes X9.here hexec rfl (pc0 := 7) rfl (hb hbytes d7) rfl (ii_ge_t (nlt32 (by omega) (Nat.le_refl _))) (by decide) rfl ?_
    refine XS.iload X9.here hexec rfl (hb hbytes d44) rfl ?_
    exact Steps.refl _)
  exact ⟨T9, some (.int (Int32.ofNat len)), _, _, _, X9, by simp, rfl, rfl, (fun h => by cases h), ⟨rfl, B9, p9.from hh0, f9⟩, fun fs hl => c11.trans (X9.ireturnOut hexec hret rfl (Or.inl rfl) (hb hbytes d46) hl)⟩
end Cmp5
namespace Cmp3
def yN : MethodName := ⟨"java/lang/StringUTF16", "compress", "([CII)[B"⟩
abbrev yB : ByteArray := jdk_52_method_16_code
theorem d0 : decode yB 0 = .ok (.iload_n 2, 1) := by decide +kernel
theorem d1 : decode yB 1 = .ok (.newarray .byte, 2) := by decide +kernel
theorem d3 : decode yB 3 = .ok (.astore_n 3, 1) := by decide +kernel
theorem d4 : decode yB 4 = .ok (.aload_n 0, 1) := by decide +kernel
theorem d5 : decode yB 5 = .ok (.iload_n 1, 1) := by decide +kernel
theorem d6 : decode yB 6 = .ok (.aload_n 3, 1) := by decide +kernel
theorem d7 : decode yB 7 = .ok (.iconst 0, 1) := by decide +kernel
theorem d8 : decode yB 8 = .ok (.iload_n 2, 1) := by decide +kernel
theorem d9 : decode yB 9 = .ok (.invokestatic 115, 3) := by decide +kernel
theorem d12 : decode yB 12 = .ok (.istore 4, 2) := by decide +kernel
theorem d14 : decode yB 14 = .ok (.iload 4, 2) := by decide +kernel
theorem d16 : decode yB 16 = .ok (.iload_n 2, 1) := by decide +kernel
theorem d17 : decode yB 17 = .ok (.if_icmp (.eq) 40, 3) := by decide +kernel
theorem d57 : decode yB 57 = .ok (.aload_n 3, 1) := by decide +kernel
theorem d58 : decode yB 58 = .ok (.areturn, 1) := by decide +kernel
def site : List Cond := [.arrayClass .byte, Cmp5.tab] ++ staticW U16 115 Cmp5.yN
def tab : Cond := tabOf yN yB 6 (some (.array .byte)) site
def P (b : Addr) (A : Cell) (o len : Nat) (args : Array Value) (s : State) : Prop := args = #[.ref b, .int (Int32.ofNat o), .int (Int32.ofNat len)] ∧ Ch b A s ∧ o + len ≤ A.slots.size ∧ len ≤ 536870912 ∧ ∀ i, i < len → ¬ 255 < cv A (o + i)
def E (b : Addr) (A : Cell) (o len : Nat) (r : Option Value) (s u : State) : Prop := NewArr .byte "[B" len (fun j => .int (lo8 (cv A (o + j)))) r s u ∧ u.heap.size = s.heap.size + 1
/-- no char of the range above 255: a new byte[] of their low bytes -/
theorem law (l : Launch) (b : Addr) (A : Cell) (o len : Nat) : Law l yN 3 3 1 18 yB 6 (some (.array .byte)) site (P b A o len) (E b A o len) [] 1 len := by
  refine Law.of_walk (plainFor_of_name (by decide +kernel)) (by decide +kernel) (by decide +kernel) (by decide) (fun _ _ h => by rw [h.1]; rfl) (fun _ U U' hal hh h => ⟨h.1, h.2.1.mv hal hh, h.2.2⟩) (fun r U U' V V' h1 hal h2 h => ⟨NewArr.mv r U U' V V' h1 hal h2 h.1, by rw [h1, h2]; exact h.2⟩) ?_
  intro p e s m args below meth c s₁ X0 hexec hbytes hml hret hlk hnm hown hh0 W hP
  obtain ⟨rfl, hA, l1, l2, hp⟩ := hP
  have a31 := hA.1.2.2.2
  have c1 : Steps p.tables e below (s₁.setTop (entryFrame m #[.ref b, .int (Int32.ofNat o), .int (Int32.ofNat len)] 6)) (s₁.setTop (mkF m 0 #[.val (.ref b), .val (.int (Int32.ofNat o)), .val (.int (Int32.ofNat len)), .unset, .unset, .unset] [])) := entry rfl
  have c2 : Steps p.tables e below (s₁.setTop (entryFrame m #[.ref b, .int (Int32.ofNat o), .int (Int32.ofNat len)] 6)) (s₁.setTop (mkF m 1 #[.val (.ref b), .val (.int (Int32.ofNat o)), .val (.int (Int32.ofNat len)), .unset, .unset, .unset] [.int (Int32.ofNat len)])) := c1.trans (by
    refine XS.iloadN X0.here hexec rfl (hb hbytes d0) rfl ?_
    exact Steps.refl _)
  obtain ⟨T3, B3, X3, ba3, bs3, bv3, bh3, bf3, st3⟩ := X0.anew hexec (atype := .byte) (wk W (.arrayClass .byte)) rfl (by show len * 1 ≤ _; omega) (by omega) (g := (mkF m 1 #[.val (.ref b), .val (.int (Int32.ofNat o)), .val (.int (Int32.ofNat len)), .unset, .unset, .unset] [.int (Int32.ofNat len)])) rfl (hb hbytes d1) (rest := []) rfl (Nat.le_refl _) (by show 0 + len ≤ len; omega)
  rw [hh0] at ba3 st3
  have kp3 : XT.Kept s T3 := (XT.Kept.of_eq hh0).push bh3
  have hA3 := hA.keep X3.warmed.alike (kp3 _ _ hA.1.1)
  have hne : b ≠ s.heap.size := hA.1.ne
  have c4 : Steps p.tables e below (s₁.setTop (entryFrame m #[.ref b, .int (Int32.ofNat o), .int (Int32.ofNat len)] 6)) (T3.setTop (mkF m 3 #[.val (.ref b), .val (.int (Int32.ofNat o)), .val (.int (Int32.ofNat len)), .unset, .unset, .unset] [.ref s.heap.size])) := c2.trans (st3 _ (Steps.refl _))
  have c5 : Steps p.tables e below (s₁.setTop (entryFrame m #[.ref b, .int (Int32.ofNat o), .int (Int32.ofNat len)] 6)) (T3.setTop (mkF m 9 #[.val (.ref b), .val (.int (Int32.ofNat o)), .val (.int (Int32.ofNat len)), .val (.ref s.heap.size), .unset, .unset] [.int (Int32.ofNat len), .int 0, .ref s.heap.size, .int (Int32.ofNat o), .ref b])) := c4.trans (by
    refine XS.astoreN X3.here hexec rfl (hb hbytes d3) rfl rfl rfl ?_
    refine XS.aloadN X3.here hexec rfl (hb hbytes d4) rfl rfl ?_
    refine XS.iloadN X3.here hexec rfl (hb hbytes d5) rfl ?_
    refine XS.aloadN X3.here hexec rfl (hb hbytes d6) rfl rfl ?_
    refine iconstV X3.here hexec rfl 0 (hb hbytes d7) (by decide) ?_
    refine XS.iloadN X3.here hexec rfl (hb hbytes d8) rfl ?_
    exact Steps.refl _)
  obtain ⟨v6, T6, X6, E6, g6⟩ := X3.callS hexec (Cmp5.law l b A s.heap.size B3 o 0 len) hown (wks W (staticW U16 115 Cmp5.yN)) (wk W Cmp5.tab) (W := 0) (Nat.le_of_ble_eq_true rfl) (Nat.le_of_ble_eq_true rfl) (Nat.le_refl _) (by show 0 + len + 0 ≤ len; omega) (g := (mkF m 9 #[.val (.ref b), .val (.int (Int32.ofNat o)), .val (.int (Int32.ofNat len)), .val (.ref s.heap.size), .unset, .unset] [.int (Int32.ofNat len), .int (Int32.ofNat 0), .ref s.heap.size, .int (Int32.ofNat o), .ref b])) rfl (by rw [hml]; rfl) c5 (argsL := [.ref b, .int (Int32.ofNat o), .ref s.heap.size, .int (Int32.ofNat 0), .int (Int32.ofNat len)]) (rest := []) rfl rfl (by show 2 * 0 + 0 ≤ _; decide) (hb hbytes d9) (⟨rfl, hA3, ba3, hne, l1, by rw [bs3]; simp, hp⟩)
  obtain ⟨rfl, B6, p6, f6⟩ := E6
  have c7 : Steps p.tables e below (s₁.setTop (entryFrame m #[.ref b, .int (Int32.ofNat o), .int (Int32.ofNat len)] 6)) (T6.setTop (mkF m 12 #[.val (.ref b), .val (.int (Int32.ofNat o)), .val (.int (Int32.ofNat len)), .val (.ref s.heap.size), .unset, .unset] [.int (Int32.ofNat len)])) := g6
  have c8 : Steps p.tables e below (s₁.setTop (entryFrame m #[.ref b, .int (Int32.ofNat o), .int (Int32.ofNat len)] 6)) (T6.setTop (mkF m 58 #[.val (.ref b), .val (.int (Int32.ofNat o)), .val (.int (Int32.ofNat len)), .val (.ref s.heap.size), .val (.int (Int32.ofNat len)), .unset] [.ref s.heap.size])) := c7.trans (by
    refine XS.istore X6.here hexec rfl (hb hbytes d12) rfl rfl ?_
    refine XS.iload X6.here hexec rfl (hb hbytes d14) rfl ?_
    refine XS.iloadN X6.here hexec rfl (hb hbytes d16) rfl ?_
    refine XS.icmpYes X6.here hexec rfl (pc0 := 17) rfl (hb hbytes d17) rfl (ii_eq_t rfl) (by decide) rfl ?_
    refine XS.aloadN X6.here hexec rfl (hb hbytes d57) rfl rfl ?_
    exact Steps.refl _)
  have X8 := X6.wide (L' := []) (cells' := 1) (slots' := len) (fun x hx hlt => by
    simp only [List.nil_append, copyLocs, List.mem_map, List.mem_range] at hx
    obtain ⟨i, -, rfl⟩ := hx
    exact absurd hlt (Nat.lt_irrefl _)) (Nat.le_refl _) (by omega)
  exact ⟨T6, some (.ref s.heap.size), _, _, _, X8, rfl, rfl, rfl, (fun h => by cases h), ⟨⟨rfl, B6, ba3.like (X3.warmed.alike.symm.trans X6.warmed.alike) p6.1 f6.1 f6.2.1 f6.2.2.1, f6.2.1.trans bv3, by rw [X6.warmed.alike.findClass, f6.1]; exact bf3, by rw [f6.2.2.1, bs3]; simp, fun j hj => by rw [f6.2.2.2 j, if_pos (by omega)]; rfl, kp3.put p6 (Nat.le_refl _)⟩, by rw [p6.2.2, bh3, hh0]; simp⟩, fun fs hl => c8.trans (X8.areturnOut hexec rfl hret rfl (hb hbytes d58) hl)⟩
end Cmp3
namespace CodL
def yN : MethodName := ⟨"java/lang/StringUTF16", "coderFromArrayLen", "([BI)B"⟩
abbrev yB : ByteArray := jdk_52_method_15_code
theorem d0 : decode yB 0 = .ok (.iload_n 1, 1) := by decide +kernel
theorem d1 : decode yB 1 = .ok (.aload_n 0, 1) := by decide +kernel
theorem d2 : decode yB 2 = .ok (.arraylength, 1) := by decide +kernel
theorem d3 : decode yB 3 = .ok (.isub, 1) := by decide +kernel
theorem d4 : decode yB 4 = .ok (.bipush 31, 2) := by decide +kernel
theorem d6 : decode yB 6 = .ok (.iushr, 1) := by decide +kernel
theorem d7 : decode yB 7 = .ok (.i2b, 1) := by decide +kernel
theorem d8 : decode yB 8 = .ok (.ireturn, 1) := by decide +kernel
def site : List Cond := []
def tab : Cond := tabOf yN yB 2 (some .byte) site
def P (d : Addr) (B : Cell) (args : Array Value) (s : State) : Prop := args = #[.ref d, .int (Int32.ofNat B.slots.size)] ∧ Arr .byte d B s
def E (r : Option Value) (s u : State) : Prop := XT.PureE (some (.int 0)) r s u
/-- an array as long as the number of chars: LATIN1 -/
theorem law (l : Launch) (d : Addr) (B : Cell) : Law l yN 2 2 0 0 yB 2 (some .byte) site (P d B) E [] 0 0 := by
  refine Law.of_walk (plainFor_of_name (by decide +kernel)) (by decide +kernel) (by decide +kernel) (by decide) (fun _ _ h => by rw [h.1]; rfl) (fun _ U U' hal hh h => ⟨h.1, h.2.mv hal hh⟩) (fun r U U' V V' h1 hal h2 h => XT.PureE.mv r U U' V V' h1 hal h2 h) ?_
  intro p e s m args below meth c s₁ X0 hexec hbytes hml hret hlk hnm hown hh0 W hP
  obtain ⟨rfl, hB⟩ := hP
  have hB0 := hB.mv X0.warmed.alike hh0
  have c1 : Steps p.tables e below (s₁.setTop (entryFrame m #[.ref d, .int (Int32.ofNat B.slots.size)] 2)) (s₁.setTop (mkF m 0 #[.val (.ref d), .val (.int (Int32.ofNat B.slots.size))] [])) := entry rfl
  have c2 : Steps p.tables e below (s₁.setTop (entryFrame m #[.ref d, .int (Int32.ofNat B.slots.size)] 2)) (s₁.setTop (mkF m 2 #[.val (.ref d), .val (.int (Int32.ofNat B.slots.size))] [.ref d, .int (Int32.ofNat B.slots.size)])) := c1.trans (by
    refine XS.iloadN X0.here hexec rfl (hb hbytes d0) rfl ?_
    refine XS.aloadN X0.here hexec rfl (hb hbytes d1) rfl rfl ?_
    exact Steps.refl _)
  have c3 : Steps p.tables e below (s₁.setTop (entryFrame m #[.ref d, .int (Int32.ofNat B.slots.size)] 2)) (s₁.setTop (mkF m 8 #[.val (.ref d), .val (.int (Int32.ofNat B.slots.size))] [.int (lo8 (ushr (Int32.ofNat B.slots.size - Int32.ofNat B.slots.size) 31))])) := c2.trans (by
    refine X0.alen hexec hB0 rfl rfl (hb hbytes d2) ?_
    refine XS.isub X0.here hexec rfl (hb hbytes d3) rfl ?_
    refine bipushV X0.here hexec rfl 31 (hb hbytes d4) (by decide) ?_
    refine iushr X0.here hexec rfl (hb hbytes d6) rfl ?_
    refine i2b X0.here hexec rfl (hb hbytes d7) rfl ?_
    exact Steps.refl _)
  have e0 : lo8 (ushr (Int32.ofNat B.slots.size - Int32.ofNat B.slots.size) 31) = 0 := by rw [Int32.sub_self]; decide
  rw [e0] at c3
  exact ⟨s₁, some (.int 0), _, _, _, X0, rfl, rfl, rfl, (fun h => by cases h), ⟨rfl, hh0⟩, fun fs hl => c3.trans (X0.ireturnOut hexec hret rfl (Or.inr (Or.inr (Or.inl rfl))) (hb hbytes d8) hl)⟩
end CodL
/-- the String at a is Latin-1 over a new byte[] (the heap's one new cell): the low bytes of the len chars of A from o on; every cell but a is kept -/
def Got (a : Addr) (D : Cell) (fV fC : Field) (A : Cell) (o len : Nat) (r : Option Value) (s u : State) : Prop := r = none ∧ ∃ D' V : Cell, Blank "java/lang/String" a D' u ∧ Same D D' [fV.slot, fC.slot] ∧ D'.slots[fV.slot]? = some (.ref s.heap.size) ∧ D'.slots[fC.slot]? = some (.int 0) ∧ Arr .byte s.heap.size V u ∧ V.vm = .none ∧ u.vm.findClass "[B" = some V.cls ∧ V.slots.size = len ∧ (∀ j, j < len → V.slots[j]? = some (.int (lo8 (cv A (o + j))))) ∧ (∀ (y : Addr) (c : Cell), y ≠ a → s.heap[y]? = some c → u.heap[y]? = some c) ∧ u.heap.size = s.heap.size + 1
theorem Got.mv {a : Addr} {D A : Cell} {fV fC : Field} {o len : Nat} : ∀ r (U U' V V' : State), U'.heap = U.heap → V.vm.Alike V'.vm → V'.heap = V.heap → Got a D fV fC A o len r U V → Got a D fV fC A o len r U' V' :=
  fun r U U' V V' h1 hal h2 ⟨e0, D', X, a1, a2, a3, a4, a5, a6, a7, a8, a9, a10, a11⟩ => ⟨e0, D', X, a1.mv hal h2, a2, by rw [h1]; exact a3, a4, by rw [h1]; exact a5.mv hal h2, a6, by rw [hal.findClass]; exact a7, a8, a9, by rw [h1, h2]; exact a10, by rw [h1, h2]; exact a11⟩
namespace New4
def yN : MethodName := ⟨"java/lang/String", "<init>", "([CIILjava/lang/Void;)V"⟩
abbrev yB : ByteArray := jdk_42_method_149_code
theorem d0 : decode yB 0 = .ok (.aload_n 0, 1) := by decide +kernel
theorem d1 : decode yB 1 = .ok (.invokespecial 1, 3) := by decide +kernel
theorem d4 : decode yB 4 = .ok (.iload_n 3, 1) := by decide +kernel
theorem d5 : decode yB 5 = .ok (.ifCond (.ne) 22, 3) := by decide +kernel
theorem d27 : decode yB 27 = .ok (.getstatic 38, 3) := by decide +kernel
theorem d30 : decode yB 30 = .ok (.ifCond (.eq) 28, 3) := by decide +kernel
theorem d33 : decode yB 33 = .ok (.aload_n 1, 1) := by decide +kernel
theorem d34 : decode yB 34 = .ok (.iload_n 2, 1) := by decide +kernel
theorem d35 : decode yB 35 = .ok (.iload_n 3, 1) := by decide +kernel
theorem d36 : decode yB 36 = .ok (.invokestatic 177, 3) := by decide +kernel
theorem d39 : decode yB 39 = .ok (.astore 5, 2) := by decide +kernel
theorem d41 : decode yB 41 = .ok (.aload_n 0, 1) := by decide +kernel
theorem d42 : decode yB 42 = .ok (.aload 5, 2) := by decide +kernel
theorem d44 : decode yB 44 = .ok (.iload_n 3, 1) := by decide +kernel
theorem d45 : decode yB 45 = .ok (.invokestatic 47, 3) := by decide +kernel
theorem d48 : decode yB 48 = .ok (.putfield 15, 3) := by decide +kernel
theorem d51 : decode yB 51 = .ok (.aload_n 0, 1) := by decide +kernel
theorem d52 : decode yB 52 = .ok (.aload 5, 2) := by decide +kernel
theorem d54 : decode yB 54 = .ok (.putfield 9, 3) := by decide +kernel
theorem d57 : decode yB 57 = .ok (.return_, 1) := by decide +kernel
def site : List Cond := [.fieldLink "java/lang/String" 38 "java/lang/String" "COMPACT_STRINGS" "Z", Cmp3.tab, CodL.tab, .laysFinal "java/lang/String" "java/lang/String" "value" "[B", .fieldLink "java/lang/String" 9 "java/lang/String" "value" "[B", .laysFinal "java/lang/String" "java/lang/String" "coder" "B", .fieldLink "java/lang/String" 15 "java/lang/String" "coder" "B"] ++ objW "java/lang/String" 1 ++ staticW "java/lang/String" 177 Cmp3.yN ++ staticW "java/lang/String" 47 CodL.yN
def tab : Cond := tabOf yN yB 6 none site
def P (a : Addr) (D : Cell) (fV fC : Field) (b : Addr) (A : Cell) (z : Int32) (o len : Nat) (args : Array Value) (s : State) : Prop := args = #[.ref a, .ref b, .int (Int32.ofNat o), .int (Int32.ofNat len), .null] ∧ Blank "java/lang/String" a D s ∧ Found "java/lang/String" "value" "[B" fV s ∧ Found "java/lang/String" "coder" "B" fC s ∧ Ch b A s ∧ StaticIs s "java/lang/String" "COMPACT_STRINGS" "Z" (.int z) ∧ ¬ z = 0 ∧ 0 < len ∧ o + len ≤ A.slots.size ∧ len ≤ 536870912 ∧ ∀ i, i < len → ¬ 255 < cv A (o + i)
def E (a : Addr) (D : Cell) (fV fC : Field) (A : Cell) (o len : Nat) (r : Option Value) (s u : State) : Prop := Got a D fV fC A o len r s u
/-- len > 0, no char of the range above 255: a Latin-1 String of their low bytes -/
theorem law (l : Launch) (a : Addr) (D : Cell) (fV fC : Field) (b : Addr) (A : Cell) (z : Int32) (o len : Nat) : Law l yN 5 4 2 35 yB 6 none site (P a D fV fC b A z o len) (E a D fV fC A o len) [⟨a, fC.slot⟩, ⟨a, fV.slot⟩] 1 len := by
  refine Law.of_walk (plainFor_of_name (by decide +kernel)) (by decide +kernel) (by decide +kernel) (by decide) (fun _ _ h => by rw [h.1]; rfl) (fun _ U U' hal hh h => ⟨h.1, h.2.1.mv hal hh, h.2.2.1.al hal, h.2.2.2.1.al hal, h.2.2.2.2.1.mv hal hh, h.2.2.2.2.2.1.there hal hh, h.2.2.2.2.2.2⟩) (fun r U U' V V' h1 hal h2 h => Got.mv r U U' V V' h1 hal h2 h) ?_
  intro p e s m args below meth c s₁ X0 hexec hbytes hml hret hlk hnm hown hh0 W hP
  obtain ⟨rfl, hB, f1, f2, hA, s1, hz, l0, l1, l2, hp⟩ := hP
  have a31 := hA.1.2.2.2
  have c1 : Steps p.tables e below (s₁.setTop (entryFrame m #[.ref a, .ref b, .int (Int32.ofNat o), .int (Int32.ofNat len), .null] 6)) (s₁.setTop (mkF m 0 #[.val (.ref a), .val (.ref b), .val (.int (Int32.ofNat o)), .val (.int (Int32.ofNat len)), .val .null, .unset] [])) := entry rfl
  have c2 : Steps p.tables e below (s₁.setTop (entryFrame m #[.ref a, .ref b, .int (Int32.ofNat o), .int (Int32.ofNat len), .null] 6)) (s₁.setTop (mkF m 1 #[.val (.ref a), .val (.ref b), .val (.int (Int32.ofNat o)), .val (.int (Int32.ofNat len)), .val .null, .unset] [.ref a])) := c1.trans (by
    refine XS.aloadN X0.here hexec rfl (hb hbytes d0) rfl rfl ?_
    exact Steps.refl _)
  obtain ⟨T3, X3, q3, st3⟩ := X0.oinit hexec hown (wks W (objW "java/lang/String" 1)) (g := (mkF m 1 #[.val (.ref a), .val (.ref b), .val (.int (Int32.ofNat o)), .val (.int (Int32.ofNat len)), .val .null, .unset] [.ref a])) rfl (by rw [hml]; rfl) (rest := []) rfl (hb hbytes d1) (W := 0) (by show 2 * 0 + 0 ≤ _; decide) (Nat.le_of_ble_eq_true rfl) (Nat.le_of_ble_eq_true rfl)
  have hh3 := q3.trans hh0
  have c4 : Steps p.tables e below (s₁.setTop (entryFrame m #[.ref a, .ref b, .int (Int32.ofNat o), .int (Int32.ofNat len), .null] 6)) (T3.setTop (mkF m 27 #[.val (.ref a), .val (.ref b), .val (.int (Int32.ofNat o)), .val (.int (Int32.ofNat len)), .val .null, .unset] [])) := (c2.trans (st3 _ (Steps.refl _))).trans (by
    refine XS.iloadN X3.here hexec rfl (hb hbytes d4) rfl ?_
    refine XS.ifYes X3.here hexec rfl (pc0 := 5) rfl (hb hbytes d5) rfl (i0_ne_t (nz32 (by omega) l0)) (by decide) rfl ?_
    exact Steps.refl _)
  obtain ⟨T5, X5, q5, st5⟩ := X3.sget hexec hown (wk W (.fieldLink "java/lang/String" 38 "java/lang/String" "COMPACT_STRINGS" "Z")) s1 (fun _ _ h => by rw [hh3]; exact h) (g := (mkF m 27 #[.val (.ref a), .val (.ref b), .val (.int (Int32.ofNat o)), .val (.int (Int32.ofNat len)), .val .null, .unset] [])) rfl (hb hbytes d27)
  have hh5 := q5.trans hh3
  have c6 : Steps p.tables e below (s₁.setTop (entryFrame m #[.ref a, .ref b, .int (Int32.ofNat o), .int (Int32.ofNat len), .null] 6)) (T5.setTop (mkF m 30 #[.val (.ref a), .val (.ref b), .val (.int (Int32.ofNat o)), .val (.int (Int32.ofNat len)), .val .null, .unset] [.int z])) := c4.trans (st5 _ (Steps.refl _))
  have c7 : Steps p.tables e below (s₁.setTop (entryFrame m #[.ref a, .ref b, .int (Int32.ofNat o), .int (Int32.ofNat len), .null] 6)) (T5.setTop (mkF m 36 #[.val (.ref a), .val (.ref b), .val (.int (Int32.ofNat o)), .val (.int (Int32.ofNat len)), .val .null, .unset] [.int (Int32.ofNat len), .int (Int32.ofNat o), .ref b])) := c6.trans (by
    refine XS.ifNo X5.here hexec rfl (hb hbytes d30) rfl (i0_eq_f hz) ?_
    refine XS.aloadN X5.here hexec rfl (hb hbytes d33) rfl rfl ?_
    refine XS.iloadN X5.here hexec rfl (hb hbytes d34) rfl ?_
    refine XS.iloadN X5.here hexec rfl (hb hbytes d35) rfl ?_
    exact Steps.refl _)
  obtain ⟨v8, T8, X8, E8, g8⟩ := X5.callS hexec (Cmp3.law l b A o len) hown (wks W (staticW "java/lang/String" 177 Cmp3.yN)) (wk W Cmp3.tab) (W := 0) (Nat.le_of_ble_eq_true rfl) (Nat.le_of_ble_eq_true rfl) (Nat.le_refl _) (by show 0 + len ≤ len; omega) (g := (mkF m 36 #[.val (.ref a), .val (.ref b), .val (.int (Int32.ofNat o)), .val (.int (Int32.ofNat len)), .val .null, .unset] [.int (Int32.ofNat len), .int (Int32.ofNat o), .ref b])) rfl (by rw [hml]; rfl) c7 (argsL := [.ref b, .int (Int32.ofNat o), .int (Int32.ofNat len)]) (rest := []) rfl rfl (by show 2 * 0 + 0 ≤ _; decide) (hb hbytes d36) (⟨rfl, hA.mv X5.warmed.alike hh5, l1, l2, hp⟩)
  obtain ⟨e8, z8⟩ := E8
  obtain ⟨rfl, N, n1, n2, n3, n4, n5, n6⟩ := NewArr.mv _ T5 s _ _ hh5.symm (Vm.Alike.refl _) rfl e8
  rw [hh5] at z8
  have hB1 := hB.keep X8.warmed.alike (n6 _ _ hB.1)
  have hne : s.heap.size ≠ a := (Nat.ne_of_lt (Array.getElem?_eq_some_iff.mp hB.1).1).symm
  have c9 : Steps p.tables e below (s₁.setTop (entryFrame m #[.ref a, .ref b, .int (Int32.ofNat o), .int (Int32.ofNat len), .null] 6)) (T8.setTop (mkF m 39 #[.val (.ref a), .val (.ref b), .val (.int (Int32.ofNat o)), .val (.int (Int32.ofNat len)), .val .null, .unset] [.ref s.heap.size])) := g8
  have c10 : Steps p.tables e below (s₁.setTop (entryFrame m #[.ref a, .ref b, .int (Int32.ofNat o), .int (Int32.ofNat len), .null] 6)) (T8.setTop (mkF m 45 #[.val (.ref a), .val (.ref b), .val (.int (Int32.ofNat o)), .val (.int (Int32.ofNat len)), .val .null, .val (.ref s.heap.size)] [.int (Int32.ofNat N.slots.size), .ref s.heap.size, .ref a])) := by
    have hc : Steps p.tables e below (s₁.setTop (entryFrame m #[.ref a, .ref b, .int (Int32.ofNat o), .int (Int32.ofNat len), .null] 6)) (T8.setTop (mkF m 45 #[.val (.ref a), .val (.ref b), .val (.int (Int32.ofNat o)), .val (.int (Int32.ofNat len)), .val .null, .val (.ref s.heap.size)] [.int (Int32.ofNat len), .ref s.heap.size, .ref a])) := c9.trans (by
      refine XS.astore X8.here hexec rfl (hb hbytes d39) rfl rfl rfl ?_
      refine XS.aloadN X8.here hexec rfl (hb hbytes d41) rfl rfl ?_
      refine XS.aload X8.here hexec rfl (hb hbytes d42) rfl rfl ?_
      refine XS.iloadN X8.here hexec rfl (hb hbytes d44) rfl ?_
      exact Steps.refl _)
    rw [n4]; exact hc
  obtain ⟨v11, T11, X11, E11, g11⟩ := X8.callS hexec (CodL.law l s.heap.size N) hown (wks W (staticW "java/lang/String" 47 CodL.yN)) (wk W CodL.tab) (W := 1) (Nat.le_of_ble_eq_true rfl) (Nat.le_of_ble_eq_true rfl) (Nat.le_refl _) (by show 0 + len + 0 ≤ len; omega) (g := (mkF m 45 #[.val (.ref a), .val (.ref b), .val (.int (Int32.ofNat o)), .val (.int (Int32.ofNat len)), .val .null, .val (.ref s.heap.size)] [.int (Int32.ofNat N.slots.size), .ref s.heap.size, .ref a])) rfl (by rw [hml]; rfl) c10 (argsL := [.ref s.heap.size, .int (Int32.ofNat N.slots.size)]) (rest := [.ref a]) rfl rfl (by show 2 * 0 + (1 + 0) ≤ _; decide) (hb hbytes d45) (⟨rfl, n1⟩)
  obtain ⟨rfl, q11⟩ := E11
  have hB11 := hB1.mv (X8.warmed.alike.symm.trans X11.warmed.alike) q11
  have c12 : Steps p.tables e below (s₁.setTop (entryFrame m #[.ref a, .ref b, .int (Int32.ofNat o), .int (Int32.ofNat len), .null] 6)) (T11.setTop (mkF m 48 #[.val (.ref a), .val (.ref b), .val (.int (Int32.ofNat o)), .val (.int (Int32.ofNat len)), .val .null, .val (.ref s.heap.size)] [.int 0, .ref a])) := g11
  obtain ⟨T13, X13, p13, bl13, sl13, st13⟩ := X11.finit hexec hown (wk W (.fieldLink "java/lang/String" 15 "java/lang/String" "coder" "B")) (Or.inr ⟨_, (wk W (.laysFinal "java/lang/String" "java/lang/String" "coder" "B"))⟩) (Or.inl ⟨rfl, hnm⟩) f2 (Or.inl rfl) hB11 (t := .byte) (by decide +kernel) rfl (g := (mkF m 48 #[.val (.ref a), .val (.ref b), .val (.int (Int32.ofNat o)), .val (.int (Int32.ofNat len)), .val .null, .val (.ref s.heap.size)] [.int 0, .ref a])) rfl (rest := []) rfl (hb hbytes d48)
  have c14 : Steps p.tables e below (s₁.setTop (entryFrame m #[.ref a, .ref b, .int (Int32.ofNat o), .int (Int32.ofNat len), .null] 6)) (T13.setTop (mkF m 54 #[.val (.ref a), .val (.ref b), .val (.int (Int32.ofNat o)), .val (.int (Int32.ofNat len)), .val .null, .val (.ref s.heap.size)] [.ref s.heap.size, .ref a])) := (c12.trans (st13 _ (Steps.refl _))).trans (by
    refine XS.aloadN X13.here hexec rfl (hb hbytes d51) rfl rfl ?_
    refine XS.aload X13.here hexec rfl (hb hbytes d52) rfl rfl ?_
    exact Steps.refl _)
  obtain ⟨T15, X15, p15, bl15, sl15, st15⟩ := X13.finit hexec hown (wk W (.fieldLink "java/lang/String" 9 "java/lang/String" "value" "[B")) (Or.inr ⟨_, (wk W (.laysFinal "java/lang/String" "java/lang/String" "value" "[B"))⟩) (Or.inl ⟨rfl, hnm⟩) f1 (Or.inl rfl) bl13 (t := (.array .byte)) (by decide +kernel) rfl (g := (mkF m 54 #[.val (.ref a), .val (.ref b), .val (.int (Int32.ofNat o)), .val (.int (Int32.ofNat len)), .val .null, .val (.ref s.heap.size)] [.ref s.heap.size, .ref a])) rfl (rest := []) rfl (hb hbytes d54)
  have c16 : Steps p.tables e below (s₁.setTop (entryFrame m #[.ref a, .ref b, .int (Int32.ofNat o), .int (Int32.ofNat len), .null] 6)) (T15.setTop (mkF m 57 #[.val (.ref a), .val (.ref b), .val (.int (Int32.ofNat o)), .val (.int (Int32.ofNat len)), .val .null, .val (.ref s.heap.size)] [])) := c14.trans (st15 _ (Steps.refl _))
  have ap := apart (Or.inr ⟨_, (wk W (.laysFinal "java/lang/String" "java/lang/String" "value" "[B"))⟩) (Or.inr ⟨_, (wk W (.laysFinal "java/lang/String" "java/lang/String" "coder" "B"))⟩) f1 f2 (t₁ := .array .byte) (t₂ := .byte) (by decide +kernel) (by decide +kernel) (by decide)
  have al := X8.warmed.alike.symm.trans X15.warmed.alike
  have n7 : T11.heap[s.heap.size]? = some N := by rw [q11]; exact n1.1
  exact ⟨T15, none, _, _, _, X15, by simp, rfl, by omega, (fun _ => rfl), ⟨rfl, _, N, bl15, ((Same.refl D _).set _ (by simp)).set _ (by simp), sl15, (Cell.slots_setSlot_ne _ ap).trans sl13, n1.keep al (p15.other hne (p13.other hne n7)), n2, by rw [al.findClass]; exact n3, n4, n5, fun y c h1 h2 => p15.other h1 (p13.other h1 (by rw [q11]; exact n6 y c h2)), by rw [p15.2.2, p13.2.2, q11]; exact z8⟩, fun fs hl => c16.trans (X15.returnOut hexec hret (hb hbytes d57) hl)⟩
end New4
namespace New1
def yN : MethodName := ⟨"java/lang/String", "<init>", "([C)V"⟩
abbrev yB : ByteArray := jdk_42_method_3_code
theorem d0 : decode yB 0 = .ok (.aload_n 0, 1) := by decide +kernel
theorem d1 : decode yB 1 = .ok (.aload_n 1, 1) := by decide +kernel
theorem d2 : decode yB 2 = .ok (.iconst 0, 1) := by decide +kernel
theorem d3 : decode yB 3 = .ok (.aload_n 1, 1) := by decide +kernel
theorem d4 : decode yB 4 = .ok (.arraylength, 1) := by decide +kernel
theorem d5 : decode yB 5 = .ok (.aconst_null, 1) := by decide +kernel
theorem d6 : decode yB 6 = .ok (.invokespecial 27, 3) := by decide +kernel
theorem d9 : decode yB 9 = .ok (.return_, 1) := by decide +kernel
def site : List Cond := [New4.tab] ++ initW "java/lang/String" 27 New4.yN
def tab : Cond := tabOf yN yB 2 none site
def P (a : Addr) (D : Cell) (fV fC : Field) (b : Addr) (A : Cell) (z : Int32) (args : Array Value) (s : State) : Prop := args = #[.ref a, .ref b] ∧ Blank "java/lang/String" a D s ∧ Found "java/lang/String" "value" "[B" fV s ∧ Found "java/lang/String" "coder" "B" fC s ∧ Ch b A s ∧ StaticIs s "java/lang/String" "COMPACT_STRINGS" "Z" (.int z) ∧ ¬ z = 0 ∧ 0 < A.slots.size ∧ A.slots.size ≤ 536870912 ∧ ∀ i, i < A.slots.size → ¬ 255 < cv A i
def E (a : Addr) (D : Cell) (fV fC : Field) (A : Cell) (r : Option Value) (s u : State) : Prop := Got a D fV fC A 0 A.slots.size r s u
/-- new String(chars), not empty, no char above 255: a Latin-1 String of their low bytes -/
theorem law (l : Launch) (a : Addr) (D : Cell) (fV fC : Field) (b : Addr) (A : Cell) (z : Int32) : Law l yN 2 1 3 52 yB 2 none site (P a D fV fC b A z) (E a D fV fC A) [⟨a, fC.slot⟩, ⟨a, fV.slot⟩] 1 A.slots.size := by
  refine Law.of_walk (plainFor_of_name (by decide +kernel)) (by decide +kernel) (by decide +kernel) (by decide) (fun _ _ h => by rw [h.1]; rfl) (fun _ U U' hal hh h => ⟨h.1, h.2.1.mv hal hh, h.2.2.1.al hal, h.2.2.2.1.al hal, h.2.2.2.2.1.mv hal hh, h.2.2.2.2.2.1.there hal hh, h.2.2.2.2.2.2⟩) (fun r U U' V V' h1 hal h2 h => Got.mv r U U' V V' h1 hal h2 h) ?_
  intro p e s m args below meth c s₁ X0 hexec hbytes hml hret hlk hnm hown hh0 W hP
  obtain ⟨rfl, hB, f1, f2, hA, s1, hz, l0, l2, hp⟩ := hP
  have c1 : Steps p.tables e below (s₁.setTop (entryFrame m #[.ref a, .ref b] 2)) (s₁.setTop (mkF m 0 #[.val (.ref a), .val (.ref b)] [])) := entry rfl
  have c2 : Steps p.tables e below (s₁.setTop (entryFrame m #[.ref a, .ref b] 2)) (s₁.setTop (mkF m 6 #[.val (.ref a), .val (.ref b)] [.null, .int (Int32.ofNat A.slots.size), .int 0, .ref b, .ref a])) := c1.trans (by
    refine XS.aloadN X0.here hexec rfl (hb hbytes d0) rfl rfl ?_
    refine XS.aloadN X0.here hexec rfl (hb hbytes d1) rfl rfl ?_
    refine iconstV X0.here hexec rfl 0 (hb hbytes d2) (by decide) ?_
    refine XS.aloadN X0.here hexec rfl (hb hbytes d3) rfl rfl ?_
    refine X0.alen hexec (hA.1.mv X0.warmed.alike hh0) rfl rfl (hb hbytes d4) ?_
    refine XS.aconstNull X0.here hexec rfl (hb hbytes d5) ?_
    exact Steps.refl _)
  obtain ⟨v3, T3, X3, E3, g3⟩ := X0.callN hexec (New4.law l a D fV fC b A z 0 A.slots.size) rfl hown (wks W (initW "java/lang/String" 27 New4.yN)) (W New4.tab (by simp only [site, List.mem_cons, List.mem_append, true_or, or_true])) (W := 0) (Nat.le_of_ble_eq_true rfl) (Nat.le_of_ble_eq_true rfl) (Nat.le_refl _) (by show 0 + A.slots.size ≤ A.slots.size; omega) (g := (mkF m 6 #[.val (.ref a), .val (.ref b)] [.null, .int (Int32.ofNat A.slots.size), .int (Int32.ofNat 0), .ref b, .ref a])) rfl (by rw [hml]; rfl) c2 (argsL := [.ref b, .int (Int32.ofNat 0), .int (Int32.ofNat A.slots.size), .null]) (rest := []) rfl rfl (by show 2 * 0 + 0 ≤ _; decide) (hb hbytes d6) (⟨rfl, hB.mv X0.warmed.alike hh0, f1.al X0.warmed.alike, f2.al X0.warmed.alike, hA.mv X0.warmed.alike hh0, s1.there X0.warmed.alike hh0, hz, l0, by omega, l2, fun i hi => by rw [Nat.zero_add]; exact hp i hi⟩)
  have e0 := Got.mv _ s₁ s _ _ hh0.symm (Vm.Alike.refl _) rfl E3
  obtain rfl := e0.1
  have c4 : Steps p.tables e below (s₁.setTop (entryFrame m #[.ref a, .ref b] 2)) (T3.setTop (mkF m 9 #[.val (.ref a), .val (.ref b)] [])) := g3
  exact ⟨T3, none, _, _, _, X3, by simp, rfl, by omega, (fun _ => rfl), e0, fun fs hl => c4.trans (X3.returnOut hexec hret (hb hbytes d9) hl)⟩
theorem pays {l : Launch} {R : Room} {p : Program} {e : Env} {below : List Frame} {s : State} {sargs : Array Value} {len W : Nat} (a : Addr) (D : Cell) (fV fC : Field) (b : Addr) (A : Cell) (z : Int32) (htab : tab.before sargs s = true) (hfr : 4 ≤ R.frames) (hlo : W + 65 ≤ R.locals) :
    Back l R p e below s sargs yN len W (fun A₁ a₁ => A₁.cells + 1 ≤ R.cells ∧ A₁.slots + A.slots.size ≤ R.slots ∧ P a D fV fC b A z a₁ A₁.U) (fun A₁ _ v₁ B₁ => E a D fV fC A v₁ A₁.U B₁.U ∧ B₁.locs = A₁.locs ++ [⟨a, fC.slot⟩, ⟨a, fV.slot⟩] ∧ B₁.cells = A₁.cells + 1 ∧ B₁.slots = A₁.slots + A.slots.size) :=
  (law l a D fV fC b A z).pays htab hfr (by omega)
end New1
/-- the byte, read back as charAt reads it, is the char -/
theorem lo8_mask {x : Int32} (h0 : ¬ x < 0) (h1 : ¬ 255 < x) : lo8 x &&& 255 = x := by
  have t : ∀ k : Fin 256, lo8 (Int32.ofNat k.val) &&& 255 = Int32.ofNat k.val := by decide +kernel
  rw [Int32.lt_iff_toInt_lt] at h0 h1
  have e0 : (0 : Int32).toInt = 0 := rfl
  have e1 : (255 : Int32).toInt = 255 := rfl
  obtain ⟨k, hk⟩ : ∃ k : Nat, x.toInt = k := ⟨x.toInt.toNat, by omega⟩
  have hx : x = Int32.ofNat k := Int32.toInt_inj.mp (by rw [hk, Int32.toInt_ofNat_small (by omega)])
  rw [hx]
  exact t ⟨k, by omega⟩
end StrChars
namespace StrChars.Road
open Jvm Sem ClassFile Op Lib Jvm.Stand Jvm.Free Jvm.Free.XT
open Jvm.Lib.Cold (StaticIs)
abbrev ST : String := "java/lang/String"
/-- every table word that New1's law asks, flat -/
abbrev words : List Jvm.Cond := [.code New1.yN New1.yB 2 none, .initialized ST, .methodLink ST 27 New4.yN, .instanceMethod New4.yN,
  .code New4.yN New4.yB 6 none, .fieldLink ST 38 ST "COMPACT_STRINGS" "Z", .laysFinal ST ST "value" "[B", .fieldLink ST 9 ST "value" "[B", .laysFinal ST ST "coder" "B", .fieldLink ST 15 ST "coder" "B",
  .methodLink ST 1 Lib.objectInit, .instanceMethod Lib.objectInit, .code Lib.objectInit ⟨#[0xb1]⟩ 1 none, .methodLink ST 177 Cmp3.yN, .static Cmp3.yN, .methodLink ST 47 CodL.yN, .static CodL.yN,
  .code Cmp3.yN Cmp3.yB 6 (some (.array .byte)), .initialized U16, .arrayClass .byte, .methodLink U16 115 Cmp5.yN, .static Cmp5.yN, .code Cmp5.yN Cmp5.yB 7 (some .int), .code CodL.yN CodL.yB 2 (some .byte)]
theorem tab_of {a : Array Value} {s : State} (h : ∀ w ∈ words, w.before a s = true) : New1.tab.before a s = true := by
  have h5 : Cmp5.tab.before a s = true := unparts (wk h (.code Cmp5.yN Cmp5.yB 7 (some .int))) (wks h (.initialized Cmp5.yN.cls :: Cmp5.site))
  have hc : CodL.tab.before a s = true := unparts (wk h (.code CodL.yN CodL.yB 2 (some .byte))) (wks h (.initialized CodL.yN.cls :: CodL.site))
  have q5 : ∀ w ∈ Cmp5.tab :: words, w.before a s = true := fun w hw => (List.mem_cons.mp hw).elim (fun e => e ▸ h5) (h w)
  have h3 : Cmp3.tab.before a s = true := unparts (wk q5 (.code Cmp3.yN Cmp3.yB 6 (some (.array .byte)))) (wks q5 (.initialized Cmp3.yN.cls :: Cmp3.site))
  have q3 : ∀ w ∈ Cmp3.tab :: CodL.tab :: words, w.before a s = true := fun w hw => (List.mem_cons.mp hw).elim (fun e => e ▸ h3) fun hw => (List.mem_cons.mp hw).elim (fun e => e ▸ hc) (h w)
  have h4 : New4.tab.before a s = true := unparts (wk q3 (.code New4.yN New4.yB 6 none)) (wks q3 (.initialized New4.yN.cls :: New4.site))
  have q4 : ∀ w ∈ New4.tab :: words, w.before a s = true := fun w hw => (List.mem_cons.mp hw).elim (fun e => e ▸ h4) (h w)
  exact unparts (wk q4 (.code New1.yN New1.yB 2 none)) (wks q4 (.initialized New1.yN.cls :: New1.site))
/-- the words ride from the start Z to the walk's own state -/
theorem moved {Z s : State} {a0 args : Array Value} (hZ : Z.Warmed39 s.vm) (hw : ∀ d ∈ words, d.before a0 Z = true) : ∀ d ∈ words, d.before args s = true := fun d hd => by
  have q := hw d hd
  have t : ∀ d ∈ words, d = .arrayClass .byte ∨ (d.onTables && d.keepsFace) = true := by decide +kernel
  rcases t d hd with rfl | t
  · exact RoadKit.mvA hZ q
  · exact RoadKit.mv hZ q t
/-- WHAT COMES BACK, over the tables of the start Z: h the heap at the call, h' behind it -/
def Q (Z : State) (x : Addr) (A : Cell) (h : Heap) (v : Option Value) (h' : Heap) (L : List Loc) : Prop := v = none ∧ (∀ y ∈ L, y.base = x) ∧ RoadKit.Keep h h' [x] ∧ h'.size = h.size + 1 ∧ RoadKit.Exa Z h' x ST ∧ RoadKit.Fld Z h' x ST "value" "[B" (.ref h.size) ∧ RoadKit.Fld Z h' x ST "coder" "B" (.int 0) ∧
  (∃ V : Cell, RoadKit.Arr Z h' h.size V .byte ∧ V.vm = .none ∧ Z.vm.findClass "[B" = some V.cls ∧ V.slots.size = A.slots.size ∧ ∀ j, j < A.slots.size → V.slots[j]? = some (.int (lo8 (cv A j)))) ∧
  ∀ (O n d : String) (w : Value), RoadKit.Fld Z h x O n d w → RoadKit.slotOf Z O n d ≠ RoadKit.slotOf Z ST "value" "[B" → RoadKit.slotOf Z O n d ≠ RoadKit.slotOf Z ST "coder" "B" → RoadKit.Fld Z h' x O n d w
/-- **new String(chars) AT A CALL, IN THE ROAD'S FORM**: for specialBack behind newO: x the fresh String, b the char[] with the cell A -/
theorem back {p : Program} {l : Launch} {e : Env} {R : Room} {s : State} {args : Array Value} {below : List Frame} {len W : Nat} {Z : State} {a0 : Array Value} {h : Heap} (hZ : Z.Warmed39 s.vm) (hw : ∀ d ∈ words, d.before a0 Z = true) {kI : Nat} (wi : (Jvm.Cond.instantiable ST kI).before a0 Z = true)
    {x b : Addr} {A : Cell} {z : Int32} {v0 c0 : Value} (E : RoadKit.Exa Z h x ST) (V : RoadKit.Fld Z h x ST "value" "[B" v0) (C : RoadKit.Fld Z h x ST "coder" "B" c0) (K : RoadKit.Arr Z h b A .char) (hty : Typed .char A) (S : RoadKit.Sta Z h ST "COMPACT_STRINGS" "Z" (.int z)) (hz : ¬ z = 0)
    (l0 : 0 < A.slots.size) (l2 : A.slots.size ≤ 536870912) (hp : ∀ i, i < A.slots.size → ¬ 255 < cv A i) (hfr : 4 ≤ R.frames) (hlo : W + 65 ≤ R.locals) :
    Back l R p e below s args New1.yN len W (fun P a => a = #[.ref x, .ref b] ∧ P.U.heap = h ∧ P.cells + 1 ≤ R.cells ∧ P.slots + A.slots.size ≤ R.slots)
      (fun P _ v B => ∃ L, Q Z x A h v B.U.heap L ∧ B.locs = P.locs ++ L ∧ B.cells = P.cells + 1 ∧ B.slots = P.slots + A.slots.size) := by
  intro m meth c P g ig mk a X hg hsize hdg hW hn hp'
  obtain ⟨rfl, rfl, r1, r2⟩ := hp'
  have al : Z.vm.Alike P.U.vm := hZ.alike.trans X.warmed.alike
  obtain ⟨D, cfV, kV, iV, fV, hD, gV, stV, knV, obV, asV, slV⟩ := id V
  obtain ⟨D', cfC, kC, iC, fC, hD', gC, stC, -, -, asC, slC⟩ := id C
  cases hD.symm.trans hD'
  obtain ⟨D2, kD, e1, e2, e3, e4, e5⟩ := id E
  cases hD.symm.trans e1
  obtain ⟨c2, k2, i1, i2, i3, -⟩ := Cond.instantiable_spec wi
  cases e2.symm.trans i1
  cases e3.symm.trans i2
  obtain ⟨kU, u1, u2⟩ := al.2.2 _ _ e3
  have hB : Blank ST x D P.U := ⟨hD, ⟨knV, fun q hq => by rw [hq] at obV; cases obV⟩, by rw [al.findClass]; exact e2, kU, u1, by rw [u2]; exact i3, by rw [u2]; exact e5 i3⟩
  have F1 : Found ST "value" "[B" fV P.U := ⟨SBG.found_only al ⟨cfV, kV, iV, gV⟩, stV⟩
  have F2 : Found ST "coder" "B" fC P.U := ⟨SBG.found_only al ⟨cfC, kC, iC, gC⟩, stC⟩
  have hA : Ch b A P.U := ⟨⟨K.1, State.isArrayOf_alike al K.2.1, K.2.2, by omega⟩, hty⟩
  have hS : StaticIs P.U ST "COMPACT_STRINGS" "Z" (.int z) := by
    obtain ⟨cfS, iS, kS, fS, st, cS, t1, t2, t3, t4, t5, t6, t7⟩ := S
    exact StaticIs.there (s := { Z with heap := P.U.heap }) ⟨cfS, iS, kS, fS, st, cS, t1, t2, t3, t4, t5, (fun q => by rw [q] at t6; cases t6), t7⟩ al rfl
  obtain ⟨v, B, X', ⟨⟨hv, E', V', q1, q2, q3, q4, q5, q6, q7, q8, q9, q10, q11⟩, hl, hc, hs⟩, st⟩ := New1.pays x D fV fC b A z (tab_of (moved hZ hw)) hfr hlo m meth c P g ig mk _ X hg hsize hdg hW hn ⟨r1, r2, rfl, hB, F1, F2, hA, hS, hz, l0, l2, hp⟩
  have al' : Z.vm.Alike B.U.vm := hZ.alike.trans X'.warmed.alike
  have hsz : E'.slots.size = D.slots.size := by
    obtain ⟨-, -, -, kB, w1, w2, w3⟩ := q1
    obtain ⟨kB', y1, y2⟩ := al'.2.2 _ _ e3
    rw [q2.2.1] at w1
    cases w1.symm.trans y1
    rw [w3, e5 i3, y2]
  refine ⟨v, B, X', ⟨_, ⟨hv, ?_, ⟨by omega, fun y cy hy hn' => q10 y cy (by simpa using hn') hy, fun y cy hy => ?_⟩, q11, ⟨E', _, q1.1, by rw [q2.2.1]; exact e2, by rw [q2.2.1]; exact e3, by rw [q2.1]; exact obV, fun _ => by rw [hsz]; exact e5 i3⟩,
    ⟨E', cfV, kV, iV, fV, q1.1, gV, stV, by rw [q2.1]; exact knV, by rw [q2.1]; exact obV, by rw [q2.2.1]; exact asV, q3⟩, ⟨E', cfC, kC, iC, fC, q1.1, gC, stC, by rw [q2.1]; exact knV, by rw [q2.1]; exact obV, by rw [q2.2.1]; exact asC, q4⟩,
    ⟨V', ⟨q5.1, State.isArrayOf_alike al'.symm q5.2.1, q5.2.2.1⟩, q6, by rw [← al'.findClass]; exact q7, q8, fun j hj => by have := q9 j hj; rwa [Nat.zero_add] at this⟩, fun O n d w F n1 n2 => ?_⟩, hl, hc, hs⟩, st⟩
  · intro y hy
    simp only [List.mem_cons, List.not_mem_nil, or_false] at hy
    rcases hy with rfl | rfl <;> rfl
  · by_cases q : y = x
    · subst q
      cases hD.symm.trans hy
      exact ⟨E', q1.1, q2.2.1, q2.1, hsz⟩
    · exact ⟨cy, q10 y cy q hy, rfl, rfl, rfl⟩
  · obtain ⟨D3, cf, k, i, f, g1, g2, g3, g4, g5, g6, g7⟩ := F
    cases hD.symm.trans g1
    simp only [RoadKit.slotOf, g2, gV, gC, Option.map_some, Option.getD_some] at n1 n2
    exact ⟨E', cf, k, i, f, q1.1, g2, g3, by rw [q2.1]; exact g4, by rw [q2.1]; exact g5, by rw [q2.2.1]; exact g6, by rw [q2.2.2 f.slot (by simp [n1, n2])]; exact g7⟩
end StrChars.Road
namespace StrChars.Road
open Jvm Sem ClassFile Op Lib Jvm.Stand Jvm.Free Jvm.Free.XT
/-- WHAT COMES BACK, the byte[] as a list of values -/
def QA (Z : State) (x : Addr) (zn : Int32) (cs : List Int32) (h : Heap) (v : Option Value) (h' : Heap) (L : List Loc) : Prop := v = none ∧ (∀ y ∈ L, y.base = x) ∧ RoadKit.Keep h h' [x] ∧ h'.size = h.size + 1 ∧ RoadKit.Exa Z h' x ST ∧ RoadKit.Fld Z h' x ST "value" "[B" (.ref h.size) ∧ RoadKit.Fld Z h' x ST "coder" "B" (.int 0) ∧
  (∃ kb, Z.vm.findClass "[B" = some kb ∧ RoadKit.Arv Z h' h.size kb .byte zn (cs.map fun c => .int (lo8 c)) (.int 0)) ∧
  ∀ (O n d : String) (w : Value), RoadKit.Fld Z h x O n d w → RoadKit.slotOf Z O n d ≠ RoadKit.slotOf Z ST "value" "[B" → RoadKit.slotOf Z O n d ≠ RoadKit.slotOf Z ST "coder" "B" → RoadKit.Fld Z h' x O n d w
/-- **new String(chars) AT A CALL, THE ARRAYS AS LISTS**: the char[] at b holds cs, not empty, no char above 255 -/
theorem backArv {p : Program} {l : Launch} {e : Env} {R : Room} {s : State} {args : Array Value} {below : List Frame} {len W : Nat} {Z : State} {a0 : Array Value} {h : Heap} (hZ : Z.Warmed39 s.vm) (hw : ∀ d ∈ words, d.before a0 Z = true) {kI : Nat} (wi : (Jvm.Cond.instantiable ST kI).before a0 Z = true)
    {x b : Addr} {k : ClassId} {zn z : Int32} {cs : List Int32} {dv v0 c0 : Value} (E : RoadKit.Exa Z h x ST) (V : RoadKit.Fld Z h x ST "value" "[B" v0) (C : RoadKit.Fld Z h x ST "coder" "B" c0) (K : RoadKit.Arv Z h b k .char zn (cs.map Value.int) dv) (S : RoadKit.Sta Z h ST "COMPACT_STRINGS" "Z" (.int z)) (hz : ¬ z = 0)
    (hlen : zn.toNatClampNeg = cs.length) (h0 : 0 < cs.length) (hbig : cs.length ≤ 536870912) (hall : ∀ c ∈ cs, ¬ 255 < c) (hfr : 4 ≤ R.frames) (hlo : W + 65 ≤ R.locals) :
    Back l R p e below s args New1.yN len W (fun P a => a = #[.ref x, .ref b] ∧ P.U.heap = h ∧ P.cells + 1 ≤ R.cells ∧ P.slots + cs.length ≤ R.slots)
      (fun P _ v B => ∃ L, QA Z x zn cs h v B.U.heap L ∧ B.locs = P.locs ++ L ∧ B.cells = P.cells + 1 ∧ B.slots = P.slots + cs.length) := by
  obtain ⟨A, K1, K2, K3, K4, K5, K6⟩ := K
  have e : A.slots.size = cs.length := K3.trans hlen
  have hat : ∀ (i : Nat) (hi : i < cs.length), A.slots[i]? = some (.int cs[i]) := fun i hi => by rw [K5 i (by omega)]; simp [List.getD_eq_getElem?_getD, hi]
  have hcv : ∀ (i : Nat) (hi : i < cs.length), cv A i = cs[i] := fun i hi => by unfold cv; rw [hat i hi]
  have hty : Typed .char A := fun i v hv => by
    have hi : i < A.slots.size := (Array.getElem?_eq_some_iff.mp hv).1
    have q := K5 i hi
    rw [hv] at q
    rw [Option.some.inj q]
    exact K6 i hi
  refine Back.mono (back hZ hw wi E V C K1 hty S hz (by omega) (by omega) (fun i hi => by rw [hcv i (by omega)]; exact hall _ (List.getElem_mem _)) hfr hlo) (fun P a hp => ⟨hp.1, hp.2.1, hp.2.2.1, by rw [e]; exact hp.2.2.2⟩) (fun P a v B hp hq => ?_)
  obtain ⟨L, ⟨q1, q2, q3, q4, q5, q6, q7, ⟨V', v1, v2, v3, v4, v5⟩, q9⟩, hl, hc, hs⟩ := hq
  refine ⟨L, ⟨q1, q2, q3, q4, q5, q6, q7, ⟨V'.cls, v3, V', v1, rfl, by rw [v4, e, hlen], K4, fun i hi => ?_, fun i hi => ?_⟩, q9⟩, hl, hc, by rw [hs, e]⟩
  · have hi' : i < cs.length := by omega
    rw [v5 i (by omega), hcv i hi']; simp [List.getD_eq_getElem?_getD, hi']
  · have hi' : i < cs.length := by omega
    simp only [List.getD_eq_getElem?_getD, List.getElem?_map, List.getElem?_eq_getElem hi', Option.map_some, Option.getD_some]
    exact fits_lo8 _
end StrChars.Road
namespace StrChars.Road
open Jvm Sem ClassFile Op Lib Jvm.Stand Jvm.Free Jvm.Free.XT
/-- WHAT COMES BACK, in the writer's own shape -/
def QV (Z : State) (x : Addr) (N : Int32) (bs : List Int32) (h : Heap) (n0 : Nat) (v : Option Value) (h' : Heap) (L : List Loc) : Prop := v = none ∧ RoadKit.Fr n0 L ∧ RoadKit.Keep h h' [x] ∧ RoadKit.Exa Z h' x ST ∧ RoadKit.Fld Z h' x ST "coder" "B" (.int 0) ∧
  ∃ (t : Addr) (kb : ClassId), n0 ≤ t ∧ h.size ≤ t ∧ ¬ t = x ∧ RoadKit.Fld Z h' x ST "value" "[B" (.ref t) ∧ RoadKit.Arv Z h' t kb .byte N (bs.map Value.int) (.int 0)
/-- **new String(chars) AT A CALL, FOR THE WRITER**: a char[] of n known ints, each 0 to 255 -/
theorem backV {p : Program} {l : Launch} {e : Env} {R : Room} {s : State} {args : Array Value} {below : List Frame} {len W : Nat} {Z : State} {a0 : Array Value} {h : Heap} (hZ : Z.Warmed39 s.vm) (hw : ∀ d ∈ words, d.before a0 Z = true) {kI : Nat} (wi : (Jvm.Cond.instantiable ST kI).before a0 Z = true)
    {x b : Addr} {kC : ClassId} {cs bs : List Int32} {d v0 c0 : Value} {z N : Int32} {n n0 : Nat} (hx0 : n0 ≤ x) (hh0 : n0 ≤ h.size) (E : RoadKit.Exa Z h x ST) (V : RoadKit.Fld Z h x ST "value" "[B" v0) (C : RoadKit.Fld Z h x ST "coder" "B" c0) (K : RoadKit.Arv Z h b kC .char N (cs.map Value.int) d) (S : RoadKit.Sta Z h ST "COMPACT_STRINGS" "Z" (.int z)) (hz : ¬ z = 0)
    (hn : cs.length = n) (hN : N = Int32.ofNat n) (l0 : 0 < n) (l2 : n ≤ 4000) (hp : ∀ c ∈ cs, ¬ c < 0 ∧ ¬ (255 : Int32) < c) (hb : bs = cs.map (fun c => c.toInt8.toInt32)) (hfr : 4 ≤ R.frames) (hlo : W + 65 ≤ R.locals) :
    Back l R p e below s args (⟨"java/lang/String", "<init>", "([C)V"⟩ : MethodName) len W (fun P a => a = #[.ref x, .ref b] ∧ P.U.heap = h ∧ P.cells + 1 ≤ R.cells ∧ P.slots + n ≤ R.slots)
      (fun P _ v B => ∃ L, QV Z x N bs h n0 v B.U.heap L ∧ B.locs = P.locs ++ L ∧ B.cells = P.cells + 1 ∧ B.slots = P.slots + n) := by
  subst hn hN hb
  refine Back.mono (backArv hZ hw wi E V C K S hz (n32 (by omega)) l0 (by omega) (fun c hc => (hp c hc).2) hfr hlo) (fun P a hp => hp) (fun P a v B hp hq => ?_)
  obtain ⟨L, ⟨q1, q2, q3, q4, q5, q6, q7, ⟨kb, v1, v2⟩, q9⟩, hl, hc, hs⟩ := hq
  exact ⟨L, ⟨q1, fun y hy => by rw [q2 y hy]; exact hx0, q3, q5, q7, h.size, kb, hh0, Nat.le_refl _, Nat.ne_of_gt E.lt, q6, by rw [List.map_map]; exact v2⟩, hl, hc, hs⟩
end StrChars.Road
namespace StrChars
open Jvm Sem ClassFile Op Lib Jvm.Stand Jvm.Free.XT Jvm.Free.ALB Jvm.Free.JM Jvm.Free
open Jvm.Lib.Cold (StaticIs)
def hi8 (x : Int32) : Int32 := lo8 (x >>> ((8 : Int32) &&& 31))
/-- what StringUTF16.getChar makes of two bytes -/
def pairCh (u v : Int32) : Int32 := (((u &&& 255) <<< ((0 : Int32) &&& 31)) ||| ((v &&& 255) <<< ((8 : Int32) &&& 31))).toUInt32.toUInt16.toUInt32.toInt32
theorem shr0 (c : Int32) : c >>> ((0 : Int32) &&& 31) = c := by
  have e : ((0 : Int32) &&& 31) = 0 := by decide
  rw [e]
  apply Int32.toBitVec_inj.mp
  rw [Int32.toBitVec_shiftRight]
  have e1 : ((0 : Int32).toBitVec.smod 32) = 0#32 := by decide
  rw [e1, BitVec.sshiftRight_eq']
  exact BitVec.sshiftRight_zero
theorem lo8_and (x : Int32) : (lo8 x &&& 255).toBitVec.toNat = x.toBitVec.toNat % 256 := by
  have h : (lo8 x).toBitVec = (x.toBitVec.signExtend 8).signExtend 32 := by rw [lo8, Int8.toBitVec_toInt32, Int32.toBitVec_toInt8]
  rw [Int32.toBitVec_and, BitVec.toNat_and, h]
  have e : ((x.toBitVec.signExtend 8).signExtend 32).toNat % 256 = x.toBitVec.toNat % 256 := by
    rw [BitVec.toNat_signExtend]
    have hlt := x.toBitVec.isLt
    simp only [BitVec.toNat_setWidth, BitVec.toNat_signExtend]
    split <;> split <;> omega
  rw [← e]
  exact Nat.and_two_pow_sub_one_eq_mod _ 8
theorem pair_says {c : Int32} (h0 : ¬ c < 0) (h1 : ¬ 65535 < c) : pairCh (lo8 c) (hi8 c) = c := by
  rw [Int32.lt_iff_toInt_lt] at h0 h1
  have e0 : (0 : Int32).toInt = 0 := rfl
  have e1 : (65535 : Int32).toInt = 65535 := rfl
  have hc : c.toInt = c.toBitVec.toNat := by
    have := c.toBitVec.isLt
    have e : c.toInt = c.toBitVec.toInt := rfl
    rw [e] at h0 h1
    rw [e]
    rw [BitVec.toInt_eq_toNat_cond] at h0 h1 ⊢
    split at h0 <;> split <;> omega
  have hn : c.toBitVec.toNat < 65536 := by omega
  have a1 := lo8_and c
  have a2 : (hi8 c &&& 255).toBitVec.toNat = c.toBitVec.toNat / 256 := by
    rw [hi8, lo8_and]
    have e : ((8 : Int32) &&& 31) = 8 := by decide
    rw [e, Int32.toBitVec_shiftRight]
    have e2 : ((8 : Int32).toBitVec.smod 32) = 8#32 := by decide
    rw [e2, BitVec.sshiftRight_eq', BitVec.toNat_sshiftRight_of_msb_false (by rw [BitVec.msb_eq_false_iff_two_mul_lt]; omega)]
    show c.toBitVec.toNat >>> 8 % 256 = _
    rw [Nat.shiftRight_eq_div_pow]
    omega
  unfold pairCh
  apply Int32.toBitVec_inj.mp
  apply BitVec.eq_of_toNat_eq
  have f0 : ((0 : Int32) &&& 31) = 0 := by decide
  have f8 : ((8 : Int32) &&& 31) = 8 := by decide
  rw [f0, f8]
  have g : (((lo8 c &&& 255) <<< (0 : Int32)) ||| ((hi8 c &&& 255) <<< (8 : Int32))).toBitVec.toNat = c.toBitVec.toNat := by
    rw [Int32.toBitVec_or, Int32.toBitVec_shiftLeft, Int32.toBitVec_shiftLeft]
    have s0 : ((0 : Int32).toBitVec.smod 32) = 0#32 := by decide
    have s8 : ((8 : Int32).toBitVec.smod 32) = 8#32 := by decide
    rw [s0, s8, BitVec.toNat_or]
    simp only [BitVec.shiftLeft_eq', BitVec.toNat_shiftLeft, a1, a2]
    show (c.toBitVec.toNat % 256) <<< 0 % 2 ^ 32 ||| (c.toBitVec.toNat / 256) <<< 8 % 2 ^ 32 = _
    rw [Nat.shiftLeft_zero, Nat.mod_eq_of_lt (show c.toBitVec.toNat % 256 < 2 ^ 32 by omega), Nat.mod_eq_of_lt (show (c.toBitVec.toNat / 256) <<< 8 < 2 ^ 32 by rw [Nat.shiftLeft_eq]; omega), Nat.or_comm, ← Nat.shiftLeft_add_eq_or_of_lt (by omega), Nat.shiftLeft_eq]
    omega
  show BitVec.toNat (((((lo8 c &&& 255) <<< (0 : Int32)) ||| ((hi8 c &&& 255) <<< (8 : Int32))).toBitVec.setWidth 16).setWidth 32) = _
  rw [BitVec.toNat_setWidth, BitVec.toNat_setWidth, g]
  omega
end StrChars
namespace StrChars
open Jvm Sem ClassFile Op Lib Jvm.Stand Jvm.Free.XT Jvm.Free.ALB Jvm.Free.JM Jvm.Free
open Jvm.Lib.Cold (StaticIs)
theorem shr1 {n : Nat} (h : 2 * n < 2 ^ 31) : Int32.ofNat (2 * n) >>> ((1 : Int32) &&& 31) = Int32.ofNat n := by
  have e : ((1 : Int32) &&& 31) = 1 := by decide
  rw [e]
  apply Int32.toBitVec_inj.mp
  rw [Int32.toBitVec_shiftRight]
  have e1 : ((1 : Int32).toBitVec.smod 32) = 1#32 := by decide
  have hm : (BitVec.ofNat 32 (2 * n)).toNat = 2 * n := by rw [BitVec.toNat_ofNat, Nat.mod_eq_of_lt (by omega)]
  rw [e1, BitVec.sshiftRight_eq']
  apply BitVec.eq_of_toNat_eq
  show ((BitVec.ofNat 32 (2 * n)).sshiftRight 1).toNat = (BitVec.ofNat 32 n).toNat
  rw [BitVec.toNat_sshiftRight_of_msb_false (by rw [BitVec.msb_eq_false_iff_two_mul_lt, hm]; omega), hm, BitVec.toNat_ofNat, Nat.shiftRight_eq_div_pow]
  omega
/-- charAt's cast of a byte read back -/
def chr8 (u : Int32) : Int32 := (u &&& 255).toUInt32.toUInt16.toUInt32.toInt32
theorem chr8_lo8 {c : Int32} (h0 : ¬ c < 0) (h1 : ¬ 255 < c) : chr8 (lo8 c) = c := by
  have t : ∀ k : Fin 256, (Int32.ofNat k.val).toUInt32.toUInt16.toUInt32.toInt32 = Int32.ofNat k.val := by decide +kernel
  unfold chr8
  rw [lo8_mask h0 h1]
  rw [Int32.lt_iff_toInt_lt] at h0 h1
  have e0 : (0 : Int32).toInt = 0 := rfl
  have e1 : (255 : Int32).toInt = 255 := rfl
  obtain ⟨k, hk⟩ : ∃ k : Nat, c.toInt = k := ⟨c.toInt.toNat, by omega⟩
  have hx : c = Int32.ofNat k := Int32.toInt_inj.mp (by rw [hk, Int32.toInt_ofNat_small (by omega)])
  rw [hx]
  exact t ⟨k, by omega⟩
theorem narrow_ch {c : Int32} (h0 : ¬ c < 0) (h1 : ¬ 65535 < c) : narrow .char (.int c) = .int c := by
  have q : narrow .char (.int (pairCh (lo8 c) (hi8 c))) = .int (pairCh (lo8 c) (hi8 c)) := narrow_c _
  rwa [pair_says h0 h1] at q
/-- the array's cell V codes the n chars f 0 .. f (n - 1) by the coder cd, as the JDK does: coder 1 just where some char is above 255 -/
def Cod (cd : Int32) (n : Nat) (f : Nat → Int32) (V : Cell) : Prop := (cd = 0 ∧ V.slots.size = n ∧ ∀ j, j < n → V.slots[j]? = some (.int (lo8 (f j))) ∧ ¬ 255 < f j) ∨ (cd = 1 ∧ V.slots.size = 2 * n ∧ (∀ j, j < n → V.slots[2 * j]? = some (.int (lo8 (f j))) ∧ V.slots[2 * j + 1]? = some (.int (hi8 (f j)))) ∧ ∃ j, j < n ∧ 255 < f j)
theorem Cod.cd {cd : Int32} {n : Nat} {f : Nat → Int32} {V : Cell} (h : Cod cd n f V) : cd = 0 ∨ cd = 1 := h.imp (fun q => q.1) fun q => q.1
theorem Cod.len {cd : Int32} {n : Nat} {f : Nat → Int32} {V : Cell} (h : Cod cd n f V) (hs : V.slots.size < 2 ^ 31) : Int32.ofNat V.slots.size >>> (cd &&& 31) = Int32.ofNat n := by
  rcases h with ⟨rfl, h, -⟩ | ⟨rfl, h, -⟩
  · rw [shr0, h]
  · rw [h, shr1 (by omega)]
/-- **x is a String of the n chars f 0 .. f (n - 1)**, Latin-1 or UTF-16; its array at t has the cell V -/
def Txt (x t : Addr) (V : Cell) (cd : Int32) (n : Nat) (f : Nat → Int32) (U : State) : Prop := Exact "java/lang/String" x U ∧ Has x "java/lang/String" "value" "[B" (.ref t) U ∧ Has x "java/lang/String" "coder" "B" (.int cd) U ∧ XT.Arr .byte t V U ∧ Cod cd n f V ∧ ∀ j, j < n → ¬ f j < 0 ∧ ¬ 65535 < f j
theorem Txt.mv {x t : Addr} {V : Cell} {cd : Int32} {n : Nat} {f : Nat → Int32} {U U' : State} (h : Txt x t V cd n f U) (hal : U.vm.Alike U'.vm) (hh : U'.heap = U.heap) : Txt x t V cd n f U' := ⟨h.1.mv hal hh, h.2.1.mv hal hh, h.2.2.1.mv hal hh, h.2.2.2.1.mv hal hh, h.2.2.2.2⟩
namespace Cdr
def yN : MethodName := ⟨"java/lang/String", "coder", "()B"⟩
abbrev yB : ByteArray := jdk_42_method_152_code
theorem d0 : decode yB 0 = .ok (.getstatic 38, 3) := by decide +kernel
theorem d3 : decode yB 3 = .ok (.ifCond (.eq) 10, 3) := by decide +kernel
theorem d6 : decode yB 6 = .ok (.aload_n 0, 1) := by decide +kernel
theorem d7 : decode yB 7 = .ok (.getfield 15, 3) := by decide +kernel
theorem d10 : decode yB 10 = .ok (.goto 4, 3) := by decide +kernel
theorem d14 : decode yB 14 = .ok (.ireturn, 1) := by decide +kernel
def site : List Cond := [.fieldLink "java/lang/String" 38 "java/lang/String" "COMPACT_STRINGS" "Z", .fieldLink "java/lang/String" 15 "java/lang/String" "coder" "B"]
def tab : Cond := tabOf yN yB 1 (some .byte) site
def P (x : Addr) (cd z : Int32) (args : Array Value) (s : State) : Prop := args = #[.ref x] ∧ Has x "java/lang/String" "coder" "B" (.int cd) s ∧ (cd = 0 ∨ cd = 1) ∧ StaticIs s "java/lang/String" "COMPACT_STRINGS" "Z" (.int z) ∧ ¬ z = 0
def E (cd : Int32) (r : Option Value) (s u : State) : Prop := XT.PureE (some (.int cd)) r s u
theorem law (l : Launch) (x : Addr) (cd z : Int32) : Law l yN 1 0 0 0 yB 1 (some .byte) site (P x cd z) (E cd) [] 0 0 := by
  refine Law.of_walk (plainFor_of_name (by decide +kernel)) (by decide +kernel) (by decide +kernel) (by decide) (fun _ _ h => by rw [h.1]; rfl) (fun _ U U' hal hh h => ⟨h.1, h.2.1.mv hal hh, h.2.2.1, h.2.2.2.1.there hal hh, h.2.2.2.2⟩) (fun r U U' V V' h1 hal h2 h => XT.PureE.mv r U U' V V' h1 hal h2 h) ?_
  intro p e s m args below meth c s₁ X0 hexec hbytes hml hret hlk hnm hown hh0 W hP
  obtain ⟨rfl, hx, hc, s1, hz⟩ := hP
  have c1 : Steps p.tables e below (s₁.setTop (entryFrame m #[.ref x] 1)) (s₁.setTop (mkF m 0 #[.val (.ref x)] [])) := entry rfl
  obtain ⟨T2, X2, q2, st2⟩ := X0.sget hexec hown (wk W (.fieldLink "java/lang/String" 38 "java/lang/String" "COMPACT_STRINGS" "Z")) s1 (fun _ _ h => by rw [hh0]; exact h) (g := (mkF m 0 #[.val (.ref x)] [])) rfl (hb hbytes d0)
  have hh2 := q2.trans hh0
  have c3 : Steps p.tables e below (s₁.setTop (entryFrame m #[.ref x] 1)) (T2.setTop (mkF m 7 #[.val (.ref x)] [.ref x])) := (c1.trans (st2 _ (Steps.refl _))).trans (by
    refine XS.ifNo X2.here hexec rfl (hb hbytes d3) rfl (i0_eq_f hz) ?_
    refine XS.aloadN X2.here hexec rfl (hb hbytes d6) rfl rfl ?_
    exact Steps.refl _)
  obtain ⟨T4, X4, q4, st4⟩ := X2.hget hexec hown (wk W (.fieldLink "java/lang/String" 15 "java/lang/String" "coder" "B")) (hx.mv X2.warmed.alike hh2) (g := (mkF m 7 #[.val (.ref x)] [.ref x])) rfl (rest := []) rfl (hb hbytes d7)
  have c5 : Steps p.tables e below (s₁.setTop (entryFrame m #[.ref x] 1)) (T4.setTop (mkF m 14 #[.val (.ref x)] [.int cd])) := (c3.trans (st4 _ (Steps.refl _))).trans (by
    refine XS.goto X4.here hexec rfl (pc0 := 10) rfl (hb hbytes d10) (by decide) rfl ?_
    exact Steps.refl _)
  exact ⟨T4, some (.int cd), _, _, _, X4, rfl, rfl, rfl, (fun h => by cases h), ⟨rfl, q4.trans hh2⟩, fun fs hl => c5.trans (X4.ireturnOut hexec hret (by rcases hc with rfl | rfl <;> rfl) (Or.inr (Or.inr (Or.inl rfl))) (hb hbytes d14) hl)⟩
end Cdr
namespace Len
def yN : MethodName := ⟨"java/lang/String", "length", "()I"⟩
abbrev yB : ByteArray := jdk_42_method_54_code
theorem d0 : decode yB 0 = .ok (.aload_n 0, 1) := by decide +kernel
theorem d1 : decode yB 1 = .ok (.getfield 9, 3) := by decide +kernel
theorem d4 : decode yB 4 = .ok (.arraylength, 1) := by decide +kernel
theorem d5 : decode yB 5 = .ok (.aload_n 0, 1) := by decide +kernel
theorem d6 : decode yB 6 = .ok (.invokevirtual 335, 3) := by decide +kernel
theorem d9 : decode yB 9 = .ok (.ishr, 1) := by decide +kernel
theorem d10 : decode yB 10 = .ok (.ireturn, 1) := by decide +kernel
def site : List Cond := [.fieldLink "java/lang/String" 9 "java/lang/String" "value" "[B", Cdr.tab] ++ virtW "java/lang/String" 335 "java/lang/String" Cdr.yN Cdr.yN
def tab : Cond := tabOf yN yB 1 (some .int) site
def P (x t : Addr) (V : Cell) (cd : Int32) (n : Nat) (f : Nat → Int32) (z : Int32) (args : Array Value) (s : State) : Prop := args = #[.ref x] ∧ Txt x t V cd n f s ∧ StaticIs s "java/lang/String" "COMPACT_STRINGS" "Z" (.int z) ∧ ¬ z = 0
def E (n : Nat) (r : Option Value) (s u : State) : Prop := XT.PureE (some (.int (Int32.ofNat n))) r s u
/-- length() of a String of n chars, in either coding -/
theorem law (l : Launch) (x t : Addr) (V : Cell) (cd : Int32) (n : Nat) (f : Nat → Int32) (z : Int32) : Law l yN 1 0 1 13 yB 1 (some .int) site (P x t V cd n f z) (E n) [] 0 0 := by
  refine Law.of_walk (plainFor_of_name (by decide +kernel)) (by decide +kernel) (by decide +kernel) (by decide) (fun _ _ h => by rw [h.1]; rfl) (fun _ U U' hal hh h => ⟨h.1, h.2.1.mv hal hh, h.2.2.1.there hal hh, h.2.2.2⟩) (fun r U U' V V' h1 hal h2 h => XT.PureE.mv r U U' V V' h1 hal h2 h) ?_
  intro p e s m args below meth c s₁ X0 hexec hbytes hml hret hlk hnm hown hh0 W hP
  obtain ⟨rfl, hx, s1, hz⟩ := hP
  have v31 := hx.2.2.2.1.2.2.2
  have c1 : Steps p.tables e below (s₁.setTop (entryFrame m #[.ref x] 1)) (s₁.setTop (mkF m 1 #[.val (.ref x)] [.ref x])) := Steps.trans (entry rfl) (by
    show Steps p.tables e below (s₁.setTop (mkF m 0 #[.val (.ref x)] [])) _
    refine XS.aloadN X0.here hexec rfl (hb hbytes d0) rfl rfl ?_
    exact Steps.refl _)
  obtain ⟨T2, X2, q2, st2⟩ := X0.hget hexec hown (wk W (.fieldLink "java/lang/String" 9 "java/lang/String" "value" "[B")) (hx.mv X0.warmed.alike hh0).2.1 (g := (mkF m 1 #[.val (.ref x)] [.ref x])) rfl (rest := []) rfl (hb hbytes d1)
  have hh2 := q2.trans hh0
  have hx2 := hx.mv X2.warmed.alike hh2
  have c3 : Steps p.tables e below (s₁.setTop (entryFrame m #[.ref x] 1)) (T2.setTop (mkF m 6 #[.val (.ref x)] [.ref x, .int (Int32.ofNat V.slots.size)])) := (c1.trans (st2 _ (Steps.refl _))).trans (by
    refine X2.alen hexec hx2.2.2.2.1 rfl rfl (hb hbytes d4) ?_
    refine XS.aloadN X2.here hexec rfl (hb hbytes d5) rfl rfl ?_
    exact Steps.refl _)
  obtain ⟨v4, T4, X4, E4, g4⟩ := X2.callV hexec (Cdr.law l x cd z) hown (wks W (virtW "java/lang/String" 335 "java/lang/String" Cdr.yN Cdr.yN)) rfl (by decide) (wk W Cdr.tab) (W := 1) (Nat.le_of_ble_eq_true rfl) (Nat.le_of_ble_eq_true rfl) (Nat.le_refl _) (Nat.le_refl _) (hx2.1.fc X2.warmed.alike) hx2.1.is (g := (mkF m 6 #[.val (.ref x)] [.ref x, .int (Int32.ofNat V.slots.size)])) rfl (by rw [hml]; rfl) c3 (argsL := []) (rest := [.int (Int32.ofNat V.slots.size)]) rfl rfl (by show 2 * 0 + (1 + 0) ≤ _; decide) (hb hbytes d6) (⟨rfl, hx2.2.2.1, hx.2.2.2.2.1.cd, s1.there X2.warmed.alike hh2, hz⟩)
  obtain ⟨rfl, q4⟩ := E4
  have c5 : Steps p.tables e below (s₁.setTop (entryFrame m #[.ref x] 1)) (T4.setTop (mkF m 10 #[.val (.ref x)] [.int (Int32.ofNat V.slots.size >>> (cd &&& 31))])) := Steps.trans g4 (by
    refine ishr X4.here hexec rfl (hb hbytes d9) rfl ?_
    exact Steps.refl _)
  rw [hx.2.2.2.2.1.len v31] at c5
  exact ⟨T4, some (.int (Int32.ofNat n)), _, _, _, X4, rfl, rfl, rfl, (fun h => by cases h), ⟨rfl, q4.trans hh2⟩, fun fs hl => c5.trans (X4.ireturnOut hexec hret rfl (Or.inl rfl) (hb hbytes d10) hl)⟩
theorem pays {l : Launch} {R : Room} {p : Program} {e : Env} {below : List Frame} {s : State} {sargs : Array Value} {len W : Nat} (x t : Addr) (V : Cell) (cd : Int32) (n : Nat) (f : Nat → Int32) (z : Int32) (htab : tab.before sargs s = true) (hfr : 2 ≤ R.frames) (hlo : W + 25 ≤ R.locals) :
    Back l R p e below s sargs yN len W (fun A₁ a₁ => A₁.cells + 0 ≤ R.cells ∧ A₁.slots + 0 ≤ R.slots ∧ P x t V cd n f z a₁ A₁.U) (fun A₁ _ v₁ B₁ => E n v₁ A₁.U B₁.U ∧ B₁.locs = A₁.locs ++ [] ∧ B₁.cells = A₁.cells + 0 ∧ B₁.slots = A₁.slots + 0) :=
  (law l x t V cd n f z).pays htab hfr (by omega)
end Len
namespace IsL
def yN : MethodName := ⟨"java/lang/String", "isLatin1", "()Z"⟩
abbrev yB : ByteArray := jdk_42_method_154_code
theorem d0 : decode yB 0 = .ok (.getstatic 38, 3) := by decide +kernel
theorem d3 : decode yB 3 = .ok (.ifCond (.eq) 14, 3) := by decide +kernel
theorem d6 : decode yB 6 = .ok (.aload_n 0, 1) := by decide +kernel
theorem d7 : decode yB 7 = .ok (.getfield 15, 3) := by decide +kernel
theorem d10 : decode yB 10 = .ok (.ifCond (.ne) 7, 3) := by decide +kernel
theorem d13 : decode yB 13 = .ok (.iconst 1, 1) := by decide +kernel
theorem d14 : decode yB 14 = .ok (.goto 4, 3) := by decide +kernel
theorem d17 : decode yB 17 = .ok (.iconst 0, 1) := by decide +kernel
theorem d18 : decode yB 18 = .ok (.ireturn, 1) := by decide +kernel
def site : List Cond := [.fieldLink "java/lang/String" 38 "java/lang/String" "COMPACT_STRINGS" "Z", .fieldLink "java/lang/String" 15 "java/lang/String" "coder" "B"]
def tab : Cond := tabOf yN yB 1 (some .boolean) site
def P (x : Addr) (cd z : Int32) (args : Array Value) (s : State) : Prop := args = #[.ref x] ∧ Has x "java/lang/String" "coder" "B" (.int cd) s ∧ (cd = 0 ∨ cd = 1) ∧ StaticIs s "java/lang/String" "COMPACT_STRINGS" "Z" (.int z) ∧ ¬ z = 0
def E (cd : Int32) (r : Option Value) (s u : State) : Prop := XT.PureE (some (.int (1 - cd))) r s u
theorem law (l : Launch) (x : Addr) (cd z : Int32) : Law l yN 1 0 0 0 yB 1 (some .boolean) site (P x cd z) (E cd) [] 0 0 := by
  refine Law.of_walk (plainFor_of_name (by decide +kernel)) (by decide +kernel) (by decide +kernel) (by decide) (fun _ _ h => by rw [h.1]; rfl) (fun _ U U' hal hh h => ⟨h.1, h.2.1.mv hal hh, h.2.2.1, h.2.2.2.1.there hal hh, h.2.2.2.2⟩) (fun r U U' V V' h1 hal h2 h => XT.PureE.mv r U U' V V' h1 hal h2 h) ?_
  intro p e s m args below meth c s₁ X0 hexec hbytes hml hret hlk hnm hown hh0 W hP
  obtain ⟨rfl, hx, hc, s1, hz⟩ := hP
  have c1 : Steps p.tables e below (s₁.setTop (entryFrame m #[.ref x] 1)) (s₁.setTop (mkF m 0 #[.val (.ref x)] [])) := entry rfl
  obtain ⟨T2, X2, q2, st2⟩ := X0.sget hexec hown (wk W (.fieldLink "java/lang/String" 38 "java/lang/String" "COMPACT_STRINGS" "Z")) s1 (fun _ _ h => by rw [hh0]; exact h) (g := (mkF m 0 #[.val (.ref x)] [])) rfl (hb hbytes d0)
  have hh2 := q2.trans hh0
  have c3 : Steps p.tables e below (s₁.setTop (entryFrame m #[.ref x] 1)) (T2.setTop (mkF m 7 #[.val (.ref x)] [.ref x])) := (c1.trans (st2 _ (Steps.refl _))).trans (by
    refine XS.ifNo X2.here hexec rfl (hb hbytes d3) rfl (i0_eq_f hz) ?_
    refine XS.aloadN X2.here hexec rfl (hb hbytes d6) rfl rfl ?_
    exact Steps.refl _)
  obtain ⟨T4, X4, q4, st4⟩ := X2.hget hexec hown (wk W (.fieldLink "java/lang/String" 15 "java/lang/String" "coder" "B")) (hx.mv X2.warmed.alike hh2) (g := (mkF m 7 #[.val (.ref x)] [.ref x])) rfl (rest := []) rfl (hb hbytes d7)
  have c5 : Steps p.tables e below (s₁.setTop (entryFrame m #[.ref x] 1)) (T4.setTop (mkF m 10 #[.val (.ref x)] [.int cd])) := c3.trans (st4 _ (Steps.refl _))
  have c6 : Steps p.tables e below (s₁.setTop (entryFrame m #[.ref x] 1)) (T4.setTop (mkF m 18 #[.val (.ref x)] [.int (1 - cd)])) := by
    rcases hc with rfl | rfl
    · exact c5.trans (by
        refine XS.ifNo X4.here hexec rfl (hb hbytes d10) rfl (i0_ne_f rfl) ?_
        refine iconstV X4.here hexec rfl 1 (hb hbytes d13) (by decide) ?_
        refine XS.goto X4.here hexec rfl (pc0 := 14) rfl (hb hbytes d14) (by decide) rfl ?_
        exact Steps.refl _)
    · exact c5.trans (by
        refine XS.ifYes X4.here hexec rfl (pc0 := 10) rfl (hb hbytes d10) rfl (i0_ne_t (by decide)) (by decide) rfl ?_
        refine iconstV X4.here hexec rfl 0 (hb hbytes d17) (by decide) ?_
        exact Steps.refl _)
  exact ⟨T4, some (.int (1 - cd)), _, _, _, X4, rfl, rfl, rfl, (fun h => by cases h), ⟨rfl, q4.trans hh2⟩, fun fs hl => c6.trans (X4.ireturnOut hexec hret (by rcases hc with rfl | rfl <;> rfl) (Or.inr (Or.inl rfl)) (hb hbytes d18) hl)⟩
end IsL
namespace LChA
def yN : MethodName := ⟨"java/lang/StringLatin1", "charAt", "([BI)C"⟩
abbrev yB : ByteArray := jdk_43_method_2_code
theorem d0 : decode yB 0 = .ok (.iload_n 1, 1) := by decide +kernel
theorem d1 : decode yB 1 = .ok (.aload_n 0, 1) := by decide +kernel
theorem d2 : decode yB 2 = .ok (.arraylength, 1) := by decide +kernel
theorem d3 : decode yB 3 = .ok (.invokestatic 9, 3) := by decide +kernel
theorem d6 : decode yB 6 = .ok (.aload_n 0, 1) := by decide +kernel
theorem d7 : decode yB 7 = .ok (.iload_n 1, 1) := by decide +kernel
theorem d8 : decode yB 8 = .ok (.baload, 1) := by decide +kernel
theorem d9 : decode yB 9 = .ok (.sipush 255, 3) := by decide +kernel
theorem d12 : decode yB 12 = .ok (.iand, 1) := by decide +kernel
theorem d13 : decode yB 13 = .ok (.i2c, 1) := by decide +kernel
theorem d14 : decode yB 14 = .ok (.ireturn, 1) := by decide +kernel
def site : List Cond := [JO.Str_checkIndex.tab] ++ staticW "java/lang/StringLatin1" 9 JO.Str_checkIndex.yN
def tab : Cond := tabOf yN yB 2 (some .char) site
def P (t : Addr) (V : Cell) (i : Nat) (u : Int32) (fm : Value) (args : Array Value) (s : State) : Prop := args = #[.ref t, .int (Int32.ofNat i)] ∧ XT.Arr .byte t V s ∧ V.slots[i]? = some (.int u) ∧ (StaticIs s "jdk/internal/util/Preconditions" "SIOOBE_FORMATTER" "Ljava/util/function/BiFunction;" fm ∧ fm.isRef = true)
def E (u : Int32) (r : Option Value) (s w : State) : Prop := XT.PureE (some (.int (chr8 u))) r s w
theorem law (l : Launch) (t : Addr) (V : Cell) (i : Nat) (u : Int32) (fm : Value) : Law l yN 2 2 2 27 yB 2 (some .char) site (P t V i u fm) (E u) [] 0 0 := by
  refine Law.of_walk (plainFor_of_name (by decide +kernel)) (by decide +kernel) (by decide +kernel) (by decide) (fun _ _ h => by rw [h.1]; rfl) (fun _ U U' hal hh h => ⟨h.1, h.2.1.mv hal hh, h.2.2.1, h.2.2.2.1.there hal hh, h.2.2.2.2⟩) (fun r U U' V V' h1 hal h2 h => XT.PureE.mv r U U' V V' h1 hal h2 h) ?_
  intro p e s m args below meth c s₁ X0 hexec hbytes hml hret hlk hnm hown hh0 W hP
  obtain ⟨rfl, hV, hu, s1, rf⟩ := hP
  have v31 := hV.2.2.2
  have hi : i < V.slots.size := (Array.getElem?_eq_some_iff.mp hu).1
  have c1 : Steps p.tables e below (s₁.setTop (entryFrame m #[.ref t, .int (Int32.ofNat i)] 2)) (s₁.setTop (mkF m 0 #[.val (.ref t), .val (.int (Int32.ofNat i))] [])) := entry rfl
  have c2 : Steps p.tables e below (s₁.setTop (entryFrame m #[.ref t, .int (Int32.ofNat i)] 2)) (s₁.setTop (mkF m 3 #[.val (.ref t), .val (.int (Int32.ofNat i))] [.int (Int32.ofNat V.slots.size), .int (Int32.ofNat i)])) := c1.trans (by
    refine XS.iloadN X0.here hexec rfl (hb hbytes d0) rfl ?_
    refine XS.aloadN X0.here hexec rfl (hb hbytes d1) rfl rfl ?_
    refine X0.alen hexec (hV.mv X0.warmed.alike hh0) rfl rfl (hb hbytes d2) ?_
    exact Steps.refl _)
  obtain ⟨v3, T3, X3, E3, g3⟩ := X0.callS hexec (JO.Str_checkIndex.law l (Int32.ofNat i) (Int32.ofNat V.slots.size) fm) hown (wks W (staticW "java/lang/StringLatin1" 9 JO.Str_checkIndex.yN)) (wk W JO.Str_checkIndex.tab) (W := 0) (Nat.le_of_ble_eq_true rfl) (Nat.le_of_ble_eq_true rfl) (Nat.le_refl _) (Nat.le_refl _) (g := (mkF m 3 #[.val (.ref t), .val (.int (Int32.ofNat i))] [.int (Int32.ofNat V.slots.size), .int (Int32.ofNat i)])) rfl (by rw [hml]; rfl) c2 (argsL := [.int (Int32.ofNat i), .int (Int32.ofNat V.slots.size)]) (rest := []) rfl rfl (by show 2 * 0 + 0 ≤ _; decide) (hb hbytes d3) (⟨rfl, rf, s1.there X0.warmed.alike hh0, Int32.ofNat_not_neg (by omega), lt32 v31 hi⟩)
  obtain ⟨rfl, q3⟩ := E3
  have hh3 := q3.trans hh0
  have c4 : Steps p.tables e below (s₁.setTop (entryFrame m #[.ref t, .int (Int32.ofNat i)] 2)) (T3.setTop (mkF m 14 #[.val (.ref t), .val (.int (Int32.ofNat i))] [.int (chr8 u)])) := Steps.trans g3 (by
    refine XS.aloadN X3.here hexec rfl (hb hbytes d6) rfl rfl ?_
    refine XS.iloadN X3.here hexec rfl (hb hbytes d7) rfl ?_
    refine X3.aget hexec (hV.mv X3.warmed.alike hh3) rfl hu rfl rfl (hb hbytes d8) ?_
    refine sipushV X3.here hexec rfl 255 (hb hbytes d9) (by decide) ?_
    refine XS.iand X3.here hexec rfl (hb hbytes d12) rfl ?_
    refine i2c X3.here hexec rfl (hb hbytes d13) rfl ?_
    exact Steps.refl _)
  exact ⟨T3, some (.int (chr8 u)), _, _, _, X3, rfl, rfl, rfl, (fun h => by cases h), ⟨rfl, hh3⟩, fun fs hl => c4.trans (X3.ireturnOut hexec hret (narrow_c _) (Or.inr (Or.inr (Or.inr (Or.inl rfl)))) (hb hbytes d14) hl)⟩
end LChA
end StrChars
namespace StrChars.Road
open Jvm Sem ClassFile Op Lib Jvm.Stand Jvm.Free Jvm.Free.XT
open Jvm.Lib.Cold (StaticIs)
theorem consq {a : Array Value} {s : State} {c : Jvm.Cond} {L : List Jvm.Cond} (h0 : c.before a s = true) (h : ∀ w ∈ L, w.before a s = true) : ∀ w ∈ c :: L, w.before a s = true := fun w hw => (List.mem_cons.mp hw).elim (fun e => e ▸ h0) (h w)
/-- the words of String.length(), either coding -/
abbrev wordsLen : List Jvm.Cond := [.code Len.yN Len.yB 1 (some .int), .initialized ST, .fieldLink ST 9 ST "value" "[B", .fieldLink ST 38 ST "COMPACT_STRINGS" "Z", .fieldLink ST 15 ST "coder" "B", .code Cdr.yN Cdr.yB 1 (some .byte), .methodLink ST 335 Cdr.yN, .declares Cdr.yN, .selects ST Cdr.yN Cdr.yN, .instanceMethod Cdr.yN]
theorem tabLen_of {a : Array Value} {s : State} (h : ∀ w ∈ wordsLen, w.before a s = true) : Len.tab.before a s = true := by
  have hc : Cdr.tab.before a s = true := unparts (wk h (.code Cdr.yN Cdr.yB 1 (some .byte))) (wks h (.initialized Cdr.yN.cls :: Cdr.site))
  have q := consq hc h
  exact unparts (wk q (.code Len.yN Len.yB 1 (some .int))) (wks q (.initialized Len.yN.cls :: Len.site))
theorem movedLen {Z s : State} {a0 args : Array Value} (hZ : Z.Warmed39 s.vm) (hw : ∀ d ∈ wordsLen, d.before a0 Z = true) : ∀ d ∈ wordsLen, d.before args s = true := fun d hd => by
  have q := hw d hd
  have t : ∀ d ∈ wordsLen, d = .arrayClass .byte ∨ (d.onTables && d.keepsFace) = true := by decide +kernel
  rcases t d hd with rfl | t
  · exact RoadKit.mvA hZ q
  · exact RoadKit.mv hZ q t
/-- the bytes of the chars cs, low before high -/
def wideBytes : List Int32 → List Value
  | [] => []
  | c :: cs => .int (lo8 c) :: .int (hi8 c) :: wideBytes cs
theorem wide_lo (d : Value) : ∀ (cs : List Int32) (j : Nat), j < cs.length → (wideBytes cs).getD (2 * j) d = .int (lo8 (cs.getD j 0))
  | [], j, h => absurd h (Nat.not_lt_zero j)
  | c :: cs, 0, _ => rfl
  | c :: cs, j + 1, h => by
    have q := wide_lo d cs j (by simpa using h)
    rw [show 2 * (j + 1) = 2 * j + 1 + 1 from by omega]
    simpa [wideBytes] using q
theorem wide_hi (d : Value) : ∀ (cs : List Int32) (j : Nat), j < cs.length → (wideBytes cs).getD (2 * j + 1) d = .int (hi8 (cs.getD j 0))
  | [], j, h => absurd h (Nat.not_lt_zero j)
  | c :: cs, 0, _ => rfl
  | c :: cs, j + 1, h => by
    have q := wide_hi d cs j (by simpa using h)
    rw [show 2 * (j + 1) + 1 = 2 * j + 1 + 1 + 1 from by omega]
    simpa [wideBytes] using q
theorem low_at (d : Value) (cs : List Int32) (j : Nat) (h : j < cs.length) : (cs.map fun c => Value.int (lo8 c)).getD j d = .int (lo8 (cs.getD j 0)) := by
  simp [List.getD_eq_getElem?_getD, h]
/-- an array of N2 bytes vs codes the chars cs by the coder cd -/
def CodA (cs : List Int32) (cd N2 : Int32) (vs : List Value) : Prop := (cd = 0 ∧ N2 = Int32.ofNat cs.length ∧ vs = (cs.map fun c => Value.int (lo8 c)) ∧ ∀ c ∈ cs, ¬ 255 < c) ∨ (cd = 1 ∧ N2 = Int32.ofNat (2 * cs.length) ∧ vs = wideBytes cs ∧ ∃ c ∈ cs, 255 < c)
theorem CodA.cod {cs : List Int32} {cd N2 : Int32} {vs : List Value} {V : Cell} (h : CodA cs cd N2 vs) (hn : 2 * cs.length < 2 ^ 31) (hs : V.slots.size = N2.toNatClampNeg) (hv : RoadKit.Has V vs (.int 0)) : Cod cd cs.length (fun j => cs.getD j 0) V := by
  rcases h with ⟨rfl, rfl, rfl, h⟩ | ⟨rfl, rfl, rfl, c, hc, hw⟩
  · rw [n32 (by omega)] at hs
    exact Or.inl ⟨rfl, hs, fun j hj => ⟨by rw [hv j (by omega), low_at _ _ _ hj], by
      have e : cs.getD j 0 = cs[j] := by simp [List.getD_eq_getElem?_getD, hj]
      show ¬ 255 < cs.getD j 0
      rw [e]; exact h _ (List.getElem_mem _)⟩⟩
  · rw [n32 (by omega)] at hs
    obtain ⟨j, hj, rfl⟩ := List.getElem_of_mem hc
    exact Or.inr ⟨rfl, hs, fun j hj => ⟨by rw [hv _ (by omega), wide_lo _ _ _ hj], by rw [hv _ (by omega), wide_hi _ _ _ hj]⟩, j, hj, by
      have e : cs.getD j 0 = cs[j] := by simp [List.getD_eq_getElem?_getD, hj]
      show 255 < cs.getD j 0
      rw [e]; exact hw⟩
/-- an object of exactly java/lang/String, its two fields found: as the laws ask it -/
theorem strObj {Z U : State} {a0 : Array Value} {kI : Nat} (wi : (Jvm.Cond.instantiable ST kI).before a0 Z = true) (al : Z.vm.Alike U.vm) {x : Addr} {v0 c0 : Value} (E : RoadKit.Exa Z U.heap x ST) (V : RoadKit.Fld Z U.heap x ST "value" "[B" v0) (C : RoadKit.Fld Z U.heap x ST "coder" "B" c0) :
    ∃ (D : Cell) (fV fC : Field), Blank ST x D U ∧ Found ST "value" "[B" fV U ∧ Found ST "coder" "B" fC U ∧ D.slots[fV.slot]? = some v0 ∧ D.slots[fC.slot]? = some c0 ∧ RoadKit.slotOf Z ST "value" "[B" = fV.slot ∧ RoadKit.slotOf Z ST "coder" "B" = fC.slot := by
  obtain ⟨D, cfV, kV, iV, fV, hD, gV, stV, knV, obV, asV, slV⟩ := V
  obtain ⟨D', cfC, kC, iC, fC, hD', gC, stC, -, -, asC, slC⟩ := C
  cases hD.symm.trans hD'
  obtain ⟨D2, kD, e1, e2, e3, e4, e5⟩ := E
  cases hD.symm.trans e1
  obtain ⟨c2, k2, i1, i2, i3, -⟩ := Cond.instantiable_spec wi
  cases e2.symm.trans i1
  cases e3.symm.trans i2
  obtain ⟨kU, u1, u2⟩ := al.2.2 _ _ e3
  exact ⟨D, fV, fC, ⟨hD, ⟨knV, fun q hq => by rw [hq] at obV; cases obV⟩, by rw [al.findClass]; exact e2, kU, u1, by rw [u2]; exact i3, by rw [u2]; exact e5 i3⟩, ⟨SBG.found_only al ⟨cfV, kV, iV, gV⟩, stV⟩, ⟨SBG.found_only al ⟨cfC, kC, iC, gC⟩, stC⟩, slV, slC, by simp [RoadKit.slotOf, gV], by simp [RoadKit.slotOf, gC]⟩
theorem sta_is {Z U : State} (al : Z.vm.Alike U.vm) {C n d : String} {v : Value} (S : RoadKit.Sta Z U.heap C n d v) : StaticIs U C n d v := by
  obtain ⟨cfS, iS, kS, fS, st, cS, t1, t2, t3, t4, t5, t6, t7⟩ := S
  exact StaticIs.there (s := { Z with heap := U.heap }) ⟨cfS, iS, kS, fS, st, cS, t1, t2, t3, t4, t5, (fun q => by rw [q] at t6; cases t6), t7⟩ al rfl
/-- **length() OF SUCH A STRING** -/
theorem lenW {p : Program} {l : Launch} {e : Env} {R : Room} {s : State} {args : Array Value} {below : List Frame} {len W : Nat} {Z : State} {a0 : Array Value} {h : Heap} (hZ : Z.Warmed39 s.vm) (hw : ∀ d ∈ wordsLen, d.before a0 Z = true) {kI : Nat} (wi : (Jvm.Cond.instantiable ST kI).before a0 Z = true)
    {x t : Addr} {kb : ClassId} {cs : List Int32} {cd N2 z : Int32} {vs : List Value} (E : RoadKit.Exa Z h x ST) (V : RoadKit.Fld Z h x ST "value" "[B" (.ref t)) (C : RoadKit.Fld Z h x ST "coder" "B" (.int cd)) (K : RoadKit.Arv Z h t kb .byte N2 vs (.int 0)) (hc : CodA cs cd N2 vs) (hb : ∀ c ∈ cs, ¬ c < 0 ∧ ¬ (65535 : Int32) < c)
    (S : RoadKit.Sta Z h ST "COMPACT_STRINGS" "Z" (.int z)) (hz : ¬ z = 0) (l2 : cs.length ≤ 4000) (hfr : 2 ≤ R.frames) (hlo : W + 25 ≤ R.locals) :
    Back l R p e below s args (⟨"java/lang/String", "length", "()I"⟩ : MethodName) len W (fun P a => a = #[.ref x] ∧ P.U.heap = h ∧ P.cells + 0 ≤ R.cells ∧ P.slots + 0 ≤ R.slots)
      (fun P _ v B => ∃ L, (v = some (.int (Int32.ofNat cs.length)) ∧ L = [] ∧ B.U.heap = h) ∧ B.locs = P.locs ++ L ∧ B.cells = P.cells + 0 ∧ B.slots = P.slots + 0) := by
  obtain ⟨A, K1, K2, K3, K4, K5, K6⟩ := K
  have hcod := hc.cod (by omega) K3 K5
  intro m meth c P g ig mk a X hg hsize hdg hW hn hp'
  obtain ⟨rfl, rfl, r1, r2⟩ := hp'
  have al : Z.vm.Alike P.U.vm := hZ.alike.trans X.warmed.alike
  obtain ⟨D, fV, fC, hB, F1, F2, g1, g2, -, -⟩ := strObj wi al E V C
  have hx : Txt x t A cd cs.length (fun j => cs.getD j 0) P.U := ⟨⟨_, hB.2.2.1, D, hB.1, rfl, by cases q : D.vm <;> first | rfl | exact absurd q (hB.2.1.2 _)⟩, Has.of hB F1 g1, Has.of hB F2 g2, ⟨K1.1, State.isArrayOf_alike al K1.2.1, K1.2.2, by rcases hcod with ⟨-, q, -⟩ | ⟨-, q, -⟩ <;> omega⟩, hcod, fun j hj => by
    have e : cs.getD j 0 = cs[j] := by simp [List.getD_eq_getElem?_getD, hj]
    show ¬ cs.getD j 0 < 0 ∧ ¬ 65535 < cs.getD j 0
    rw [e]; exact hb _ (List.getElem_mem _)⟩
  obtain ⟨v, B, X', ⟨⟨hv, hh⟩, hl, hk, hs⟩, st⟩ := Len.pays x t A cd cs.length (fun j => cs.getD j 0) z (tabLen_of (movedLen hZ hw)) hfr hlo m meth c P g ig mk _ X hg hsize hdg hW hn ⟨r1, r2, rfl, hx, sta_is al S, hz⟩
  exact ⟨v, B, X', ⟨[], ⟨hv, rfl, hh⟩, hl, hk, hs⟩, st⟩
end StrChars.Road
namespace StrChars.Road
open Jvm Sem ClassFile Op Lib Jvm.Stand Jvm.Free Jvm.Free.XT
open Jvm.Lib.Cold (StaticIs)
/-- the road's facts of a String, as the laws ask it -/
theorem txt_of {Z U : State} {a0 : Array Value} {kI : Nat} (wi : (Jvm.Cond.instantiable ST kI).before a0 Z = true) (al : Z.vm.Alike U.vm) {x t : Addr} {kb : ClassId} {cs : List Int32} {cd N2 : Int32} {vs : List Value} (E : RoadKit.Exa Z U.heap x ST) (V : RoadKit.Fld Z U.heap x ST "value" "[B" (.ref t)) (C : RoadKit.Fld Z U.heap x ST "coder" "B" (.int cd)) (K : RoadKit.Arv Z U.heap t kb .byte N2 vs (.int 0)) (hc : CodA cs cd N2 vs) (hb : ∀ c ∈ cs, ¬ c < 0 ∧ ¬ (65535 : Int32) < c) (l2 : cs.length ≤ 4000) :
    ∃ A, Txt x t A cd cs.length (fun j => cs.getD j 0) U := by
  obtain ⟨A, K1, K2, K3, K4, K5, K6⟩ := K
  have hcod := hc.cod (by omega) K3 K5
  obtain ⟨D, fV, fC, hB, F1, F2, g1, g2, -, -⟩ := strObj wi al E V C
  exact ⟨A, ⟨_, hB.2.2.1, D, hB.1, rfl, by cases q : D.vm <;> first | rfl | exact absurd q (hB.2.1.2 _)⟩, Has.of hB F1 g1, Has.of hB F2 g2, ⟨K1.1, State.isArrayOf_alike al K1.2.1, K1.2.2, by rcases hcod with ⟨-, q, -⟩ | ⟨-, q, -⟩ <;> omega⟩, hcod, fun j hj => by
    have e : cs.getD j 0 = cs[j] := by simp [List.getD_eq_getElem?_getD, hj]
    show ¬ cs.getD j 0 < 0 ∧ ¬ 65535 < cs.getD j 0
    rw [e]; exact hb _ (List.getElem_mem _)⟩
end StrChars.Road
namespace StrChars
open Jvm Sem ClassFile Op Lib Jvm.Stand Jvm.Free.XT Jvm.Free.ALB Jvm.Free.JM Jvm.Free
open Jvm.Lib.Cold (StaticIs)
namespace ChN
def yN : MethodName := ⟨"java/lang/String", "charAt", "(I)C"⟩
abbrev yB : ByteArray := jdk_42_method_56_code
theorem d0 : decode yB 0 = .ok (.aload_n 0, 1) := by decide +kernel
theorem d1 : decode yB 1 = .ok (.invokevirtual 492, 3) := by decide +kernel
theorem d4 : decode yB 4 = .ok (.ifCond (.eq) 12, 3) := by decide +kernel
theorem d7 : decode yB 7 = .ok (.aload_n 0, 1) := by decide +kernel
theorem d8 : decode yB 8 = .ok (.getfield 9, 3) := by decide +kernel
theorem d11 : decode yB 11 = .ok (.iload_n 1, 1) := by decide +kernel
theorem d12 : decode yB 12 = .ok (.invokestatic 495, 3) := by decide +kernel
theorem d15 : decode yB 15 = .ok (.ireturn, 1) := by decide +kernel
def site : List Cond := [.fieldLink "java/lang/String" 9 "java/lang/String" "value" "[B", IsL.tab, LChA.tab] ++ virtW "java/lang/String" 492 "java/lang/String" IsL.yN IsL.yN ++ staticW "java/lang/String" 495 LChA.yN
def tab : Cond := tabOf yN yB 2 (some .char) site
def P (x t : Addr) (V : Cell) (n : Nat) (f : Nat → Int32) (z : Int32) (fm : Value) (i : Nat) (args : Array Value) (s : State) : Prop := args = #[.ref x, .int (Int32.ofNat i)] ∧ Txt x t V 0 n f s ∧ i < n ∧ StaticIs s "java/lang/String" "COMPACT_STRINGS" "Z" (.int z) ∧ ¬ z = 0 ∧ StaticIs s "jdk/internal/util/Preconditions" "SIOOBE_FORMATTER" "Ljava/util/function/BiFunction;" fm ∧ fm.isRef = true
def E (f : Nat → Int32) (i : Nat) (r : Option Value) (s u : State) : Prop := XT.PureE (some (.int (f i))) r s u
/-- charAt(i) of a Latin-1 String of n chars, i < n: f i -/
theorem law (l : Launch) (x t : Addr) (V : Cell) (n : Nat) (f : Nat → Int32) (z : Int32) (fm : Value) (i : Nat) : Law l yN 2 1 3 40 yB 2 (some .char) site (P x t V n f z fm i) (E f i) [] 0 0 := by
  refine Law.of_walk (plainFor_of_name (by decide +kernel)) (by decide +kernel) (by decide +kernel) (by decide) (fun _ _ h => by rw [h.1]; rfl) (fun _ U U' hal hh h => ⟨h.1, h.2.1.mv hal hh, h.2.2.1, h.2.2.2.1.there hal hh, h.2.2.2.2.1, h.2.2.2.2.2.1.there hal hh, h.2.2.2.2.2.2⟩) (fun r U U' V V' h1 hal h2 h => XT.PureE.mv r U U' V V' h1 hal h2 h) ?_
  intro p e s m args below meth c s₁ X0 hexec hbytes hml hret hlk hnm hown hh0 W hP
  obtain ⟨rfl, hx, hi, s1, hz, s3, rf⟩ := hP
  have v31 := hx.2.2.2.1.2.2.2
  have hr := hx.2.2.2.2.2 i hi
  have hx0 := hx.mv X0.warmed.alike hh0
  have c1 : Steps p.tables e below (s₁.setTop (entryFrame m #[.ref x, .int (Int32.ofNat i)] 2)) (s₁.setTop (mkF m 1 #[.val (.ref x), .val (.int (Int32.ofNat i))] [.ref x])) := Steps.trans (entry rfl) (by
    show Steps p.tables e below (s₁.setTop (mkF m 0 #[.val (.ref x), .val (.int (Int32.ofNat i))] [])) _
    refine XS.aloadN X0.here hexec rfl (hb hbytes d0) rfl rfl ?_
    exact Steps.refl _)
  obtain ⟨v2, T2, X2, E2, g2⟩ := X0.callV hexec (IsL.law l x 0 z) hown (wks W (virtW "java/lang/String" 492 "java/lang/String" IsL.yN IsL.yN)) rfl (by decide) (wk W IsL.tab) (W := 0) (Nat.le_of_ble_eq_true rfl) (Nat.le_of_ble_eq_true rfl) (Nat.le_refl _) (Nat.le_refl _) (hx0.1.fc X0.warmed.alike) hx0.1.is (g := (mkF m 1 #[.val (.ref x), .val (.int (Int32.ofNat i))] [.ref x])) rfl (by rw [hml]; rfl) c1 (argsL := []) (rest := []) rfl rfl (by show 2 * 0 + 0 ≤ _; decide) (hb hbytes d1) (⟨rfl, hx0.2.2.1, hx.2.2.2.2.1.cd, s1.there X0.warmed.alike hh0, hz⟩)
  obtain ⟨rfl, q2⟩ := E2
  have hh2 := q2.trans hh0
  have hx2 := hx.mv X2.warmed.alike hh2
  obtain ⟨-, k1, k2⟩ | ⟨k0, -⟩ := hx.2.2.2.2.1
  · have c3 : Steps p.tables e below (s₁.setTop (entryFrame m #[.ref x, .int (Int32.ofNat i)] 2)) (T2.setTop (mkF m 8 #[.val (.ref x), .val (.int (Int32.ofNat i))] [.ref x])) := Steps.trans g2 (by
      refine XS.ifNo X2.here hexec rfl (hb hbytes d4) rfl (i0_eq_f (by decide)) ?_
      refine XS.aloadN X2.here hexec rfl (hb hbytes d7) rfl rfl ?_
      exact Steps.refl _)
    obtain ⟨T4, X4, q4, st4⟩ := X2.hget hexec hown (wk W (.fieldLink "java/lang/String" 9 "java/lang/String" "value" "[B")) hx2.2.1 (g := (mkF m 8 #[.val (.ref x), .val (.int (Int32.ofNat i))] [.ref x])) rfl (rest := []) rfl (hb hbytes d8)
    have hh4 := q4.trans hh2
    have c5 : Steps p.tables e below (s₁.setTop (entryFrame m #[.ref x, .int (Int32.ofNat i)] 2)) (T4.setTop (mkF m 12 #[.val (.ref x), .val (.int (Int32.ofNat i))] [.int (Int32.ofNat i), .ref t])) := (c3.trans (st4 _ (Steps.refl _))).trans (by
      refine XS.iloadN X4.here hexec rfl (hb hbytes d11) rfl ?_
      exact Steps.refl _)
    obtain ⟨v6, T6, X6, E6, g6⟩ := X4.callS hexec (LChA.law l t V i (lo8 (f i)) fm) hown (wks W (staticW "java/lang/String" 495 LChA.yN)) (wk W LChA.tab) (W := 0) (Nat.le_of_ble_eq_true rfl) (Nat.le_of_ble_eq_true rfl) (Nat.le_refl _) (Nat.le_refl _) (g := (mkF m 12 #[.val (.ref x), .val (.int (Int32.ofNat i))] [.int (Int32.ofNat i), .ref t])) rfl (by rw [hml]; rfl) c5 (argsL := [.ref t, .int (Int32.ofNat i)]) (rest := []) rfl rfl (by show 2 * 0 + 0 ≤ _; decide) (hb hbytes d12) (⟨rfl, hx.2.2.2.1.mv X4.warmed.alike hh4, (k2 i hi).1, s3.there X4.warmed.alike hh4, rf⟩)
    obtain ⟨rfl, q6⟩ := E6
    rw [chr8_lo8 hr.1 (k2 i hi).2] at g6
    exact ⟨T6, some (.int (f i)), _, _, _, X6, rfl, rfl, rfl, (fun h => by cases h), ⟨rfl, q6.trans hh4⟩, fun fs hl => Steps.trans g6 (X6.ireturnOut hexec hret (narrow_ch hr.1 hr.2) (Or.inr (Or.inr (Or.inr (Or.inl rfl)))) (hb hbytes d15) hl)⟩
  · exact absurd k0 (by decide)
theorem pays {l : Launch} {R : Room} {p : Program} {e : Env} {below : List Frame} {s : State} {sargs : Array Value} {len W : Nat} (x t : Addr) (V : Cell) (n : Nat) (f : Nat → Int32) (z : Int32) (fm : Value) (i : Nat) (htab : tab.before sargs s = true) (hfr : 4 ≤ R.frames) (hlo : W + 53 ≤ R.locals) :
    Back l R p e below s sargs yN len W (fun A₁ a₁ => A₁.cells + 0 ≤ R.cells ∧ A₁.slots + 0 ≤ R.slots ∧ P x t V n f z fm i a₁ A₁.U) (fun A₁ _ v₁ B₁ => E f i v₁ A₁.U B₁.U ∧ B₁.locs = A₁.locs ++ [] ∧ B₁.cells = A₁.cells + 0 ∧ B₁.slots = A₁.slots + 0) :=
  (law l x t V n f z fm i).pays htab hfr (by omega)
end ChN
end StrChars
namespace StrChars.Road
open Jvm Sem ClassFile Op Lib Jvm.Stand Jvm.Free Jvm.Free.XT
open Jvm.Lib.Cold (StaticIs)
/-- the words of String.charAt(int), the Latin-1 road alone -/
abbrev wordsChN : List Jvm.Cond := [.code ChN.yN ChN.yB 2 (some .char), .initialized ST, .fieldLink ST 9 ST "value" "[B", .fieldLink ST 38 ST "COMPACT_STRINGS" "Z", .fieldLink ST 15 ST "coder" "B", .code IsL.yN IsL.yB 1 (some .boolean), .methodLink ST 492 IsL.yN, .declares IsL.yN, .selects ST IsL.yN IsL.yN, .instanceMethod IsL.yN,
  .methodLink ST 495 LChA.yN, .static LChA.yN, .code LChA.yN LChA.yB 2 (some .char), .initialized "java/lang/StringLatin1", .methodLink "java/lang/StringLatin1" 9 JO.Str_checkIndex.yN, .static JO.Str_checkIndex.yN, .code JO.Str_checkIndex.yN JO.Str_checkIndex.yB 2 none,
  .fieldLink ST 1053 "jdk/internal/util/Preconditions" "SIOOBE_FORMATTER" "Ljava/util/function/BiFunction;", .methodLink ST 1059 JC.PreCheck.yN, .static JC.PreCheck.yN, .code JC.PreCheck.yN JC.PreCheck.yB 3 (some .int), .initialized "jdk/internal/util/Preconditions"]
theorem tabChN_of {a : Array Value} {s : State} (h : ∀ w ∈ wordsChN, w.before a s = true) : ChN.tab.before a s = true := by
  have hp : JC.PreCheck.tab.before a s = true := unparts (wk h (.code JC.PreCheck.yN JC.PreCheck.yB 3 (some .int))) (wks h (.initialized JC.PreCheck.yN.cls :: JC.PreCheck.site))
  have qk := consq hp h
  have hk : JO.Str_checkIndex.tab.before a s = true := unparts (wk qk (.code JO.Str_checkIndex.yN JO.Str_checkIndex.yB 2 none)) (wks qk (.initialized JO.Str_checkIndex.yN.cls :: JO.Str_checkIndex.site))
  have ql := consq hk h
  have hl : LChA.tab.before a s = true := unparts (wk ql (.code LChA.yN LChA.yB 2 (some .char))) (wks ql (.initialized LChA.yN.cls :: LChA.site))
  have hi : IsL.tab.before a s = true := unparts (wk h (.code IsL.yN IsL.yB 1 (some .boolean))) (wks h (.initialized IsL.yN.cls :: IsL.site))
  have q := consq hi (consq hl h)
  exact unparts (wk q (.code ChN.yN ChN.yB 2 (some .char))) (wks q (.initialized ChN.yN.cls :: ChN.site))
theorem movedChN {Z s : State} {a0 args : Array Value} (hZ : Z.Warmed39 s.vm) (hw : ∀ d ∈ wordsChN, d.before a0 Z = true) : ∀ d ∈ wordsChN, d.before args s = true := fun d hd => by
  have t : ∀ d ∈ wordsChN, (d.onTables && d.keepsFace) = true := by decide +kernel
  exact RoadKit.mv hZ (hw d hd) (t d hd)
/-- **charAt(i) OF A LATIN-1 STRING**, i < n: the char -/
theorem chN {p : Program} {l : Launch} {e : Env} {R : Room} {s : State} {args : Array Value} {below : List Frame} {len W : Nat} {Z : State} {a0 : Array Value} {h : Heap} (hZ : Z.Warmed39 s.vm) (hw : ∀ d ∈ wordsChN, d.before a0 Z = true) {kI : Nat} (wi : (Jvm.Cond.instantiable ST kI).before a0 Z = true)
    {x t : Addr} {kb : ClassId} {cs : List Int32} {N2 z : Int32} {vs : List Value} {fm : Value} {i : Nat} {j : Int32} (E : RoadKit.Exa Z h x ST) (V : RoadKit.Fld Z h x ST "value" "[B" (.ref t)) (C : RoadKit.Fld Z h x ST "coder" "B" (.int 0)) (K : RoadKit.Arv Z h t kb .byte N2 vs (.int 0)) (hc : CodA cs 0 N2 vs) (hb : ∀ c ∈ cs, ¬ c < 0 ∧ ¬ (65535 : Int32) < c)
    (S : RoadKit.Sta Z h ST "COMPACT_STRINGS" "Z" (.int z)) (hz : ¬ z = 0) (F : RoadKit.Sta Z h "jdk/internal/util/Preconditions" "SIOOBE_FORMATTER" "Ljava/util/function/BiFunction;" fm) (rf : fm.isRef = true) (l2 : cs.length ≤ 4000) (hi : i < cs.length) (hj : j = Int32.ofNat i) (hfr : 4 ≤ R.frames) (hlo : W + 53 ≤ R.locals) :
    Back l R p e below s args (⟨"java/lang/String", "charAt", "(I)C"⟩ : MethodName) len W (fun P a => a = #[.ref x, .int j] ∧ P.U.heap = h ∧ P.cells + 0 ≤ R.cells ∧ P.slots + 0 ≤ R.slots)
      (fun P _ v B => ∃ L, (v = some (.int (cs.getD i 0)) ∧ L = [] ∧ B.U.heap = h) ∧ B.locs = P.locs ++ L ∧ B.cells = P.cells + 0 ∧ B.slots = P.slots + 0) := by
  subst hj
  intro m meth c P g ig mk a X hg hsize hdg hW hn hp'
  obtain ⟨rfl, rfl, r1, r2⟩ := hp'
  have al : Z.vm.Alike P.U.vm := hZ.alike.trans X.warmed.alike
  obtain ⟨A, hx⟩ := txt_of wi al E V C K hc hb l2
  obtain ⟨v, B, X', ⟨⟨hv, hh⟩, hl, hk, hs⟩, st⟩ := ChN.pays x t A cs.length (fun j => cs.getD j 0) z fm i (tabChN_of (movedChN hZ hw)) hfr hlo m meth c P g ig mk _ X hg hsize hdg hW hn ⟨r1, r2, rfl, hx, hi, sta_is al S, hz, sta_is al F, rf⟩
  exact ⟨v, B, X', ⟨[], ⟨hv, rfl, hh⟩, hl, hk, hs⟩, st⟩
/-- what backV says of its String, as the contracts of this text ask it: cs's low bytes, coder 0 -/
theorem codOf {cs : List Int32} {n : Nat} (hn : cs.length = n) (hb : ∀ c ∈ cs, ¬ 255 < c) : CodA cs 0 (Int32.ofNat n) ((cs.map lo8).map Value.int) := Or.inl ⟨rfl, by rw [hn], by simp [List.map_map, Function.comp_def], hb⟩
end StrChars.Road
end Jvm.Pilot.@@N@@
namespace Jvm.Pilot.@@N@@
open Jvm Jvm.ClassFile Sem Op Lib Jvm.Free Jvm.Stand Jvm.LawKit Jvm.RoadKit Bundle Jvm.Pilot.@@N@@.Jvm.D

namespace Own
open Jvm Jvm.ClassFile Sem Op Lib Jvm.Free Jvm.Stand Jvm.LawKit Jvm.RoadKit Bundle
abbrev Cx : Type := Program × Launch × Env × State × MethodId × Array Value × List Frame × Method × Code
abbrev Cx.p (X : Cx) : Program := X.1
abbrev Cx.l (X : Cx) : Launch := X.2.1
abbrev Cx.e (X : Cx) : Env := X.2.2.1
abbrev Cx.s (X : Cx) : State := X.2.2.2.1
abbrev Cx.m (X : Cx) : MethodId := X.2.2.2.2.1
abbrev Cx.args (X : Cx) : Array Value := X.2.2.2.2.2.1
abbrev Cx.below (X : Cx) : List Frame := X.2.2.2.2.2.2.1
abbrev Cx.meth (X : Cx) : Method := X.2.2.2.2.2.2.2.1
abbrev Cx.c (X : Cx) : Code := X.2.2.2.2.2.2.2.2
abbrev Rm (f k s l : Nat) : Room := { frames := f, cells := k, slots := s, locals := l }
/-- what never changes in one activation -/
def Fix (X : Cx) (Z : State) (a0 : Array Value) (EL : List (String × Nat)) (y : MethodName) (bs : ByteArray) (ml : Nat) (rt : Option FieldType) : Prop :=
  X.p.tables.exec = Jvm.exec ∧ X.c.code = bs ∧ X.c.maxLocals = ml ∧ X.meth.sig.returnType = rt ∧ X.meth.name = y.name ∧ X.meth.locks = false ∧ EW Z a0 EL
/-- where the walk stands: heap h, at most k cells and n slots made; sf: addresses that no booked literal lives at -/
def Spot (X : Cx) (R : Room) (Z : State) (a0 : Array Value) (EL : List (String × Nat)) (nw : Bool) (y : MethodName) (bs : ByteArray) (ml : Nat) (rt : Option FieldType) (sf : List Addr) (T : State) (h : Heap) (k n : Nat) : Prop :=
  Fix X Z a0 EL y bs ml rt ∧
  ∃ (vm0 : Vm) (L : List Loc), Stand X.p X.l X.e R (X.s.setVm vm0) X.m X.args X.below X.meth X.c T L k n ∧ T.heap = h ∧ X.s.Since vm0 h.size ∧ Z.Warmed39 vm0 ∧ vm0.findClass y.cls = some X.m.cls ∧ CHr Z EL X.s.vm X.s.heap vm0 h ∧ Fr Z.heap.size L ∧ Ext Z.heap h ∧ (∀ x ∈ sf, x < h.size ∧ Safe Z EL vm0 h x) ∧ (nw = true → X.s.WarmedH vm0)
def Done (X : Cx) (Z : State) (EL : List (String × Nat)) (nw : Bool) (Q : Option Value → Heap → Prop) (kc ks : Nat) (T : State) (g : JFrame) : Prop :=
  ∃ s₂ o, Steps X.p.tables X.e X.below (T.setTop g) s₂ ∧ s₂.status = .running ∧ Ended s₂ X.below o ∧ ∃ v L, o = .returned v ∧ (Q v s₂.heap ∧ Fr Z.heap.size L ∧ Ext Z.heap s₂.heap) ∧ CHr Z EL X.s.vm X.s.heap s₂.vm s₂.heap ∧ (nw = true → X.s.WarmedH s₂.vm) ∧ ReturnedEndW X.s o s₂ L kc ks
/-- from every state that stands so, the frame g runs to a return that Q allows -/
def Go (X : Cx) (R : Room) (Z : State) (a0 : Array Value) (EL : List (String × Nat)) (nw : Bool) (y : MethodName) (bs : ByteArray) (ml : Nat) (rt : Option FieldType) (Q : Option Value → Heap → Prop) (kc ks : Nat) (sf : List Addr) (h : Heap) (k n : Nat) (g : JFrame) : Prop :=
  ∀ T, Spot X R Z a0 EL nw y bs ml rt sf T h k n → Done X Z EL nw Q kc ks T g
section Kit
variable {X : Cx} {R : Room} {Z : State} {a0 : Array Value} {EL : List (String × Nat)} {nw : Bool} {y : MethodName} {bs : ByteArray} {ml : Nat} {rt : Option FieldType} {Q : Option Value → Heap → Prop} {kc ks : Nat} {sf sf' : List Addr} {h h' : Heap} {k n k' n' : Nat} {pc pc' pc2 : Nat} {Ls Ls' : Array Slot} {st : List Value} {g g' : JFrame} {T T' : State}
theorem acmp_eq (v w : Value) : XT.acmp .eq v w = decide (v = w) := rfl
theorem acmp_ne (v w : Value) : XT.acmp .ne v w = decide (v ≠ w) := rfl
theorem ble {a b : Nat} (q : Nat.ble a b = true) : a ≤ b := Nat.le_of_ble_eq_true q
theorem Done.back (st : ∀ t, Steps X.p.tables X.e X.below (T'.setTop g') t → Steps X.p.tables X.e X.below (T.setTop g) t) (D : Done X Z EL nw Q kc ks T' g') : Done X Z EL nw Q kc ks T g := by
  obtain ⟨s₂, o, h1, r⟩ := D
  exact ⟨s₂, o, st _ h1, r⟩
theorem Spot.mono (S : Spot X R Z a0 EL nw y bs ml rt sf T h k n) (hk : k ≤ k') (hn : n ≤ n') (hs : ∀ x ∈ sf', x ∈ sf) : Spot X R Z a0 EL nw y bs ml rt sf' T h k' n' := by
  obtain ⟨F, vm0, L, X1, r1, r2, r3, r4, r5, r6, r7, r8, r9⟩ := S
  exact ⟨F, vm0, L, X1.mono hk hn, r1, r2, r3, r4, r5, r6, r7, fun x hx => r8 x (hs x hx), r9⟩
theorem Go.mono (k' n' : Nat) (hk : Nat.ble k k' = true) (hn : Nat.ble n n' = true) (G : Go X R Z a0 EL nw y bs ml rt Q kc ks sf h k' n' g) : Go X R Z a0 EL nw y bs ml rt Q kc ks sf h k n g := fun T S => G T (S.mono (ble hk) (ble hn) fun _ q => q)
theorem Go.drop (G : Go X R Z a0 EL nw y bs ml rt Q kc ks [] h k n g) : Go X R Z a0 EL nw y bs ml rt Q kc ks sf h k n g := fun T S => G T (S.mono (Nat.le_refl _) (Nat.le_refl _) fun _ q => nomatch q)
theorem Go.step (st : ∀ T t, At T X.m X.c X.below → X.p.tables.exec = Jvm.exec → X.c.code = bs → Steps X.p.tables X.e X.below (T.setTop g') t → Steps X.p.tables X.e X.below (T.setTop g) t) (G : Go X R Z a0 EL nw y bs ml rt Q kc ks sf h k n g') : Go X R Z a0 EL nw y bs ml rt Q kc ks sf h k n g := fun T S => by
  have S' := S
  obtain ⟨⟨hx, hc, -⟩, vm0, L, X1, -⟩ := S'
  exact (G T S).back fun t q => st T t X1.here hx hc q
/-- what is known of the tables at hand, for a step that wants more -/
theorem Go.look (G : ∀ vm0, Z.Warmed39 vm0 → CHv Z EL vm0 h → Ext Z.heap h → (∀ x ∈ sf, x < h.size ∧ Safe Z EL vm0 h x) → Go X R Z a0 EL nw y bs ml rt Q kc ks sf h k n g) : Go X R Z a0 EL nw y bs ml rt Q kc ks sf h k n g := fun T S => by
  have S' := S
  obtain ⟨-, vm0, L, -, -, -, hZ, -, hC, -, hE, hs, -⟩ := S'
  exact G vm0 hZ hC.1 hE hs T S
/-- the statics and the old cells stand -/
theorem Go.old (G : Ext Z.heap h → Go X R Z a0 EL nw y bs ml rt Q kc ks sf h k n g) : Go X R Z a0 EL nw y bs ml rt Q kc ks sf h k n g := Go.look fun _ _ _ E _ => G E
theorem g_aloadN {i : Fin 4} {v : Value} (hd : decode bs pc = .ok (.aload_n i, 1)) (hp : pc + 1 = pc') (hv : Ls[i.val]? = some (.val v)) (hr : v.isRef = true) (G : Go X R Z a0 EL nw y bs ml rt Q kc ks sf h k n (mkF X.m pc' Ls (v :: st))) : Go X R Z a0 EL nw y bs ml rt Q kc ks sf h k n (mkF X.m pc Ls (st)) := by
  subst hp
  exact Go.step (fun T t hT hx hc q => XS.aloadN hT hx rfl (hb hc hd) hv hr q) G
theorem g_aload {i : Nat} {v : Value} (hd : decode bs pc = .ok (.aload i, 2)) (hp : pc + 2 = pc') (hv : Ls[i]? = some (.val v)) (hr : v.isRef = true) (G : Go X R Z a0 EL nw y bs ml rt Q kc ks sf h k n (mkF X.m pc' Ls (v :: st))) : Go X R Z a0 EL nw y bs ml rt Q kc ks sf h k n (mkF X.m pc Ls (st)) := by
  subst hp
  exact Go.step (fun T t hT hx hc q => XS.aload hT hx rfl (hb hc hd) hv hr q) G
theorem g_iloadN {i : Fin 4} {v : Int32} (hd : decode bs pc = .ok (.iload_n i, 1)) (hp : pc + 1 = pc') (hv : Ls[i.val]? = some (.val (.int v))) (G : Go X R Z a0 EL nw y bs ml rt Q kc ks sf h k n (mkF X.m pc' Ls (.int v :: st))) : Go X R Z a0 EL nw y bs ml rt Q kc ks sf h k n (mkF X.m pc Ls (st)) := by
  subst hp
  exact Go.step (fun T t hT hx hc q => XS.iloadN hT hx rfl (hb hc hd) hv q) G
theorem g_iload {i : Nat} {v : Int32} (hd : decode bs pc = .ok (.iload i, 2)) (hp : pc + 2 = pc') (hv : Ls[i]? = some (.val (.int v))) (G : Go X R Z a0 EL nw y bs ml rt Q kc ks sf h k n (mkF X.m pc' Ls (.int v :: st))) : Go X R Z a0 EL nw y bs ml rt Q kc ks sf h k n (mkF X.m pc Ls (st)) := by
  subst hp
  exact Go.step (fun T t hT hx hc q => XS.iload hT hx rfl (hb hc hd) hv q) G
theorem g_lloadN {i : Fin 4} {v : Int64} (hd : decode bs pc = .ok (.lload_n i, 1)) (hp : pc + 1 = pc') (hv : Ls[i.val]? = some (.val (.long v))) (G : Go X R Z a0 EL nw y bs ml rt Q kc ks sf h k n (mkF X.m pc' Ls (.long v :: st))) : Go X R Z a0 EL nw y bs ml rt Q kc ks sf h k n (mkF X.m pc Ls (st)) := by
  subst hp
  exact Go.step (fun T t hT hx hc q => XS.lloadN hT hx rfl (hb hc hd) hv q) G
theorem g_lload {i : Nat} {v : Int64} (hd : decode bs pc = .ok (.lload i, 2)) (hp : pc + 2 = pc') (hv : Ls[i]? = some (.val (.long v))) (G : Go X R Z a0 EL nw y bs ml rt Q kc ks sf h k n (mkF X.m pc' Ls (.long v :: st))) : Go X R Z a0 EL nw y bs ml rt Q kc ks sf h k n (mkF X.m pc Ls (st)) := by
  subst hp
  exact Go.step (fun T t hT hx hc q => XS.lload hT hx rfl (hb hc hd) hv q) G
theorem g_iconst {i : Int} {w : Int32} (hd : decode bs pc = .ok (.iconst i, 1)) (hp : pc + 1 = pc') (hw : Int32.ofInt i = w) (G : Go X R Z a0 EL nw y bs ml rt Q kc ks sf h k n (mkF X.m pc' Ls (.int w :: st))) : Go X R Z a0 EL nw y bs ml rt Q kc ks sf h k n (mkF X.m pc Ls st) := by
  subst hp hw
  exact Go.step (fun T t hT hx hc q => XS.iconst hT hx rfl (hb hc hd) q) G
theorem g_bipush {i : Int} {w : Int32} (hd : decode bs pc = .ok (.bipush i, 2)) (hp : pc + 2 = pc') (hw : (Int8.ofInt i).toInt32 = w) (G : Go X R Z a0 EL nw y bs ml rt Q kc ks sf h k n (mkF X.m pc' Ls (.int w :: st))) : Go X R Z a0 EL nw y bs ml rt Q kc ks sf h k n (mkF X.m pc Ls st) := by
  subst hp hw
  exact Go.step (fun T t hT hx hc q => XS.bipush hT hx rfl (hb hc hd) q) G
theorem g_sipush {i : Int} {w : Int32} (hd : decode bs pc = .ok (.sipush i, 3)) (hp : pc + 3 = pc') (hw : (Int16.ofInt i).toInt32 = w) (G : Go X R Z a0 EL nw y bs ml rt Q kc ks sf h k n (mkF X.m pc' Ls (.int w :: st))) : Go X R Z a0 EL nw y bs ml rt Q kc ks sf h k n (mkF X.m pc Ls st) := by
  subst hp hw
  exact Go.step (fun T t hT hx hc q => XS.sipush hT hx rfl (hb hc hd) q) G
theorem g_lconst {i : Fin 2} {w : Int64} (hd : decode bs pc = .ok (.lconst i, 1)) (hp : pc + 1 = pc') (hw : Int64.ofNat i = w) (G : Go X R Z a0 EL nw y bs ml rt Q kc ks sf h k n (mkF X.m pc' Ls (.long w :: st))) : Go X R Z a0 EL nw y bs ml rt Q kc ks sf h k n (mkF X.m pc Ls st) := by
  subst hp hw
  exact Go.step (fun T t hT hx hc q => XS.lconst hT hx rfl (hb hc hd) q) G
theorem g_aconst_null  (hd : decode bs pc = .ok (.aconst_null, 1)) (hp : pc + 1 = pc')  (G : Go X R Z a0 EL nw y bs ml rt Q kc ks sf h k n (mkF X.m pc' Ls (.null :: st))) : Go X R Z a0 EL nw y bs ml rt Q kc ks sf h k n (mkF X.m pc Ls (st)) := by
  subst hp
  exact Go.step (fun T t hT hx hc q => XS.aconstNull hT hx rfl (hb hc hd)  q) G
theorem g_iadd {x1 x2 : Int32} (hd : decode bs pc = .ok (.iadd, 1)) (hp : pc + 1 = pc')  (G : Go X R Z a0 EL nw y bs ml rt Q kc ks sf h k n (mkF X.m pc' Ls (.int (x1 + x2) :: st))) : Go X R Z a0 EL nw y bs ml rt Q kc ks sf h k n (mkF X.m pc Ls (.int x2 :: .int x1 :: st)) := by
  subst hp
  exact Go.step (fun T t hT hx hc q => XS.iadd hT hx rfl (hb hc hd) rfl  q) G
theorem g_isub {x1 x2 : Int32} (hd : decode bs pc = .ok (.isub, 1)) (hp : pc + 1 = pc')  (G : Go X R Z a0 EL nw y bs ml rt Q kc ks sf h k n (mkF X.m pc' Ls (.int (x1 - x2) :: st))) : Go X R Z a0 EL nw y bs ml rt Q kc ks sf h k n (mkF X.m pc Ls (.int x2 :: .int x1 :: st)) := by
  subst hp
  exact Go.step (fun T t hT hx hc q => XS.isub hT hx rfl (hb hc hd) rfl  q) G
theorem g_imul {x1 x2 : Int32} (hd : decode bs pc = .ok (.imul, 1)) (hp : pc + 1 = pc')  (G : Go X R Z a0 EL nw y bs ml rt Q kc ks sf h k n (mkF X.m pc' Ls (.int (x1 * x2) :: st))) : Go X R Z a0 EL nw y bs ml rt Q kc ks sf h k n (mkF X.m pc Ls (.int x2 :: .int x1 :: st)) := by
  subst hp
  exact Go.step (fun T t hT hx hc q => XS.imul hT hx rfl (hb hc hd) rfl  q) G
theorem g_iand {x1 x2 : Int32} (hd : decode bs pc = .ok (.iand, 1)) (hp : pc + 1 = pc')  (G : Go X R Z a0 EL nw y bs ml rt Q kc ks sf h k n (mkF X.m pc' Ls (.int (x1 &&& x2) :: st))) : Go X R Z a0 EL nw y bs ml rt Q kc ks sf h k n (mkF X.m pc Ls (.int x2 :: .int x1 :: st)) := by
  subst hp
  exact Go.step (fun T t hT hx hc q => XS.iand hT hx rfl (hb hc hd) rfl  q) G
theorem g_ior {x1 x2 : Int32} (hd : decode bs pc = .ok (.ior, 1)) (hp : pc + 1 = pc')  (G : Go X R Z a0 EL nw y bs ml rt Q kc ks sf h k n (mkF X.m pc' Ls (.int (x1 ||| x2) :: st))) : Go X R Z a0 EL nw y bs ml rt Q kc ks sf h k n (mkF X.m pc Ls (.int x2 :: .int x1 :: st)) := by
  subst hp
  exact Go.step (fun T t hT hx hc q => XS.ior hT hx rfl (hb hc hd) rfl  q) G
theorem g_ixor {x1 x2 : Int32} (hd : decode bs pc = .ok (.ixor, 1)) (hp : pc + 1 = pc')  (G : Go X R Z a0 EL nw y bs ml rt Q kc ks sf h k n (mkF X.m pc' Ls (.int (x1 ^^^ x2) :: st))) : Go X R Z a0 EL nw y bs ml rt Q kc ks sf h k n (mkF X.m pc Ls (.int x2 :: .int x1 :: st)) := by
  subst hp
  exact Go.step (fun T t hT hx hc q => XS.ixor hT hx rfl (hb hc hd) rfl  q) G
theorem g_ishl {x1 x2 : Int32} (hd : decode bs pc = .ok (.ishl, 1)) (hp : pc + 1 = pc')  (G : Go X R Z a0 EL nw y bs ml rt Q kc ks sf h k n (mkF X.m pc' Ls (.int (x1 <<< (x2 &&& 31)) :: st))) : Go X R Z a0 EL nw y bs ml rt Q kc ks sf h k n (mkF X.m pc Ls (.int x2 :: .int x1 :: st)) := by
  subst hp
  exact Go.step (fun T t hT hx hc q => XS.ishl hT hx rfl (hb hc hd) rfl  q) G
theorem g_ishr {x1 x2 : Int32} (hd : decode bs pc = .ok (.ishr, 1)) (hp : pc + 1 = pc')  (G : Go X R Z a0 EL nw y bs ml rt Q kc ks sf h k n (mkF X.m pc' Ls (.int (x1 >>> (x2 &&& 31)) :: st))) : Go X R Z a0 EL nw y bs ml rt Q kc ks sf h k n (mkF X.m pc Ls (.int x2 :: .int x1 :: st)) := by
  subst hp
  exact Go.step (fun T t hT hx hc q => XS.ishr hT hx rfl (hb hc hd) rfl  q) G
theorem g_iushr {x1 x2 : Int32} (hd : decode bs pc = .ok (.iushr, 1)) (hp : pc + 1 = pc')  (G : Go X R Z a0 EL nw y bs ml rt Q kc ks sf h k n (mkF X.m pc' Ls (.int (x1.toUInt32 >>> (x2 &&& 31).toUInt32).toInt32 :: st))) : Go X R Z a0 EL nw y bs ml rt Q kc ks sf h k n (mkF X.m pc Ls (.int x2 :: .int x1 :: st)) := by
  subst hp
  exact Go.step (fun T t hT hx hc q => XS.iushr hT hx rfl (hb hc hd) rfl  q) G
theorem g_idiv {x1 x2 : Int32} (hd : decode bs pc = .ok (.idiv, 1)) (hp : pc + 1 = pc') (hy : x2 ≠ 0) (G : Go X R Z a0 EL nw y bs ml rt Q kc ks sf h k n (mkF X.m pc' Ls (.int (x1 / x2) :: st))) : Go X R Z a0 EL nw y bs ml rt Q kc ks sf h k n (mkF X.m pc Ls (.int x2 :: .int x1 :: st)) := by
  subst hp
  exact Go.step (fun T t hT hx hc q => XS.idiv hT hx rfl (hb hc hd) rfl hy q) G
theorem g_ladd {x1 x2 : Int64} (hd : decode bs pc = .ok (.ladd, 1)) (hp : pc + 1 = pc')  (G : Go X R Z a0 EL nw y bs ml rt Q kc ks sf h k n (mkF X.m pc' Ls (.long (x1 + x2) :: st))) : Go X R Z a0 EL nw y bs ml rt Q kc ks sf h k n (mkF X.m pc Ls (.long x2 :: .long x1 :: st)) := by
  subst hp
  exact Go.step (fun T t hT hx hc q => XS.ladd hT hx rfl (hb hc hd) rfl  q) G
theorem g_lsub {x1 x2 : Int64} (hd : decode bs pc = .ok (.lsub, 1)) (hp : pc + 1 = pc')  (G : Go X R Z a0 EL nw y bs ml rt Q kc ks sf h k n (mkF X.m pc' Ls (.long (x1 - x2) :: st))) : Go X R Z a0 EL nw y bs ml rt Q kc ks sf h k n (mkF X.m pc Ls (.long x2 :: .long x1 :: st)) := by
  subst hp
  exact Go.step (fun T t hT hx hc q => XS.lsub hT hx rfl (hb hc hd) rfl  q) G
theorem g_lmul {x1 x2 : Int64} (hd : decode bs pc = .ok (.lmul, 1)) (hp : pc + 1 = pc')  (G : Go X R Z a0 EL nw y bs ml rt Q kc ks sf h k n (mkF X.m pc' Ls (.long (x1 * x2) :: st))) : Go X R Z a0 EL nw y bs ml rt Q kc ks sf h k n (mkF X.m pc Ls (.long x2 :: .long x1 :: st)) := by
  subst hp
  exact Go.step (fun T t hT hx hc q => XS.lmul hT hx rfl (hb hc hd) rfl  q) G
theorem g_land {x1 x2 : Int64} (hd : decode bs pc = .ok (.land, 1)) (hp : pc + 1 = pc')  (G : Go X R Z a0 EL nw y bs ml rt Q kc ks sf h k n (mkF X.m pc' Ls (.long (x1 &&& x2) :: st))) : Go X R Z a0 EL nw y bs ml rt Q kc ks sf h k n (mkF X.m pc Ls (.long x2 :: .long x1 :: st)) := by
  subst hp
  exact Go.step (fun T t hT hx hc q => XS.land hT hx rfl (hb hc hd) rfl  q) G
theorem g_lor {x1 x2 : Int64} (hd : decode bs pc = .ok (.lor, 1)) (hp : pc + 1 = pc')  (G : Go X R Z a0 EL nw y bs ml rt Q kc ks sf h k n (mkF X.m pc' Ls (.long (x1 ||| x2) :: st))) : Go X R Z a0 EL nw y bs ml rt Q kc ks sf h k n (mkF X.m pc Ls (.long x2 :: .long x1 :: st)) := by
  subst hp
  exact Go.step (fun T t hT hx hc q => XS.lor hT hx rfl (hb hc hd) rfl  q) G
theorem g_ldiv {x1 x2 : Int64} (hd : decode bs pc = .ok (.ldiv, 1)) (hp : pc + 1 = pc') (hy : x2 ≠ 0) (G : Go X R Z a0 EL nw y bs ml rt Q kc ks sf h k n (mkF X.m pc' Ls (.long (x1 / x2) :: st))) : Go X R Z a0 EL nw y bs ml rt Q kc ks sf h k n (mkF X.m pc Ls (.long x2 :: .long x1 :: st)) := by
  subst hp
  exact Go.step (fun T t hT hx hc q => XS.ldiv hT hx rfl (hb hc hd) rfl hy q) G
theorem g_lcmp {x1 x2 : Int64} (hd : decode bs pc = .ok (.lcmp, 1)) (hp : pc + 1 = pc')  (G : Go X R Z a0 EL nw y bs ml rt Q kc ks sf h k n (mkF X.m pc' Ls (.int (lcmpW x1 x2) :: st))) : Go X R Z a0 EL nw y bs ml rt Q kc ks sf h k n (mkF X.m pc Ls (.long x2 :: .long x1 :: st)) := by
  subst hp
  exact Go.step (fun T t hT hx hc q => XS.lcmp hT hx rfl (hb hc hd) rfl  q) G
theorem g_lshl {x1 : Int64} {x2 : Int32} (hd : decode bs pc = .ok (.lshl, 1)) (hp : pc + 1 = pc')  (G : Go X R Z a0 EL nw y bs ml rt Q kc ks sf h k n (mkF X.m pc' Ls (.long (x1 <<< (x2 &&& 63).toInt64) :: st))) : Go X R Z a0 EL nw y bs ml rt Q kc ks sf h k n (mkF X.m pc Ls (.int x2 :: .long x1 :: st)) := by
  subst hp
  exact Go.step (fun T t hT hx hc q => XS.lshl hT hx rfl (hb hc hd) rfl q) G
theorem g_lshr {x1 : Int64} {x2 : Int32} (hd : decode bs pc = .ok (.lshr, 1)) (hp : pc + 1 = pc')  (G : Go X R Z a0 EL nw y bs ml rt Q kc ks sf h k n (mkF X.m pc' Ls (.long (x1 >>> (x2 &&& 63).toInt64) :: st))) : Go X R Z a0 EL nw y bs ml rt Q kc ks sf h k n (mkF X.m pc Ls (.int x2 :: .long x1 :: st)) := by
  subst hp
  exact Go.step (fun T t hT hx hc q => XS.lshr hT hx rfl (hb hc hd) rfl q) G
theorem g_lushr {x1 : Int64} {x2 : Int32} (hd : decode bs pc = .ok (.lushr, 1)) (hp : pc + 1 = pc')  (G : Go X R Z a0 EL nw y bs ml rt Q kc ks sf h k n (mkF X.m pc' Ls (.long ((x1.toUInt64 >>> (x2 &&& 63).toInt64.toUInt64).toInt64) :: st))) : Go X R Z a0 EL nw y bs ml rt Q kc ks sf h k n (mkF X.m pc Ls (.int x2 :: .long x1 :: st)) := by
  subst hp
  exact Go.step (fun T t hT hx hc q => XS.lushr hT hx rfl (hb hc hd) rfl q) G
theorem g_irem {x1 x2 : Int32} (hd : decode bs pc = .ok (.irem, 1)) (hp : pc + 1 = pc') (hy : x2 ≠ 0) (G : Go X R Z a0 EL nw y bs ml rt Q kc ks sf h k n (mkF X.m pc' Ls (.int (x1 % x2) :: st))) : Go X R Z a0 EL nw y bs ml rt Q kc ks sf h k n (mkF X.m pc Ls (.int x2 :: .int x1 :: st)) := by
  subst hp
  exact Go.step (fun T t hT hx hc q => XS.irem hT hx rfl (hb hc hd) rfl hy (by rw [irem_eq_mod]; exact q)) G
theorem g_lrem {x1 x2 : Int64} (hd : decode bs pc = .ok (.lrem, 1)) (hp : pc + 1 = pc') (hy : x2 ≠ 0) (G : Go X R Z a0 EL nw y bs ml rt Q kc ks sf h k n (mkF X.m pc' Ls (.long (x1 - (x1 / x2) * x2) :: st))) : Go X R Z a0 EL nw y bs ml rt Q kc ks sf h k n (mkF X.m pc Ls (.long x2 :: .long x1 :: st)) := by
  subst hp
  exact Go.step (fun T t hT hx hc q => XS.lrem hT hx rfl (hb hc hd) rfl hy q) G
theorem g_ineg {x1 : Int32} (hd : decode bs pc = .ok (.ineg, 1)) (hp : pc + 1 = pc')  (G : Go X R Z a0 EL nw y bs ml rt Q kc ks sf h k n (mkF X.m pc' Ls (.int (-x1) :: st))) : Go X R Z a0 EL nw y bs ml rt Q kc ks sf h k n (mkF X.m pc Ls (.int x1 :: st)) := by
  subst hp
  exact Go.step (fun T t hT hx hc q => XS.ineg hT hx rfl (hb hc hd) rfl q) G
theorem g_lneg {x1 : Int64} (hd : decode bs pc = .ok (.lneg, 1)) (hp : pc + 1 = pc')  (G : Go X R Z a0 EL nw y bs ml rt Q kc ks sf h k n (mkF X.m pc' Ls (.long (-x1) :: st))) : Go X R Z a0 EL nw y bs ml rt Q kc ks sf h k n (mkF X.m pc Ls (.long x1 :: st)) := by
  subst hp
  exact Go.step (fun T t hT hx hc q => XS.lneg hT hx rfl (hb hc hd) rfl q) G
theorem g_i2l {x1 : Int32} (hd : decode bs pc = .ok (.i2l, 1)) (hp : pc + 1 = pc')  (G : Go X R Z a0 EL nw y bs ml rt Q kc ks sf h k n (mkF X.m pc' Ls (.long (x1.toInt64) :: st))) : Go X R Z a0 EL nw y bs ml rt Q kc ks sf h k n (mkF X.m pc Ls (.int x1 :: st)) := by
  subst hp
  exact Go.step (fun T t hT hx hc q => XS.i2l hT hx rfl (hb hc hd) rfl q) G
theorem g_l2i {x1 : Int64} (hd : decode bs pc = .ok (.l2i, 1)) (hp : pc + 1 = pc')  (G : Go X R Z a0 EL nw y bs ml rt Q kc ks sf h k n (mkF X.m pc' Ls (.int (x1.toInt32) :: st))) : Go X R Z a0 EL nw y bs ml rt Q kc ks sf h k n (mkF X.m pc Ls (.long x1 :: st)) := by
  subst hp
  exact Go.step (fun T t hT hx hc q => XS.l2i hT hx rfl (hb hc hd) rfl q) G
theorem g_i2b {x1 : Int32} (hd : decode bs pc = .ok (.i2b, 1)) (hp : pc + 1 = pc')  (G : Go X R Z a0 EL nw y bs ml rt Q kc ks sf h k n (mkF X.m pc' Ls (.int (x1.toInt8.toInt32) :: st))) : Go X R Z a0 EL nw y bs ml rt Q kc ks sf h k n (mkF X.m pc Ls (.int x1 :: st)) := by
  subst hp
  exact Go.step (fun T t hT hx hc q => XS.i2b hT hx rfl (hb hc hd) rfl q) G
theorem g_i2c {x1 : Int32} (hd : decode bs pc = .ok (.i2c, 1)) (hp : pc + 1 = pc')  (G : Go X R Z a0 EL nw y bs ml rt Q kc ks sf h k n (mkF X.m pc' Ls (.int (x1.toUInt32.toUInt16.toUInt32.toInt32) :: st))) : Go X R Z a0 EL nw y bs ml rt Q kc ks sf h k n (mkF X.m pc Ls (.int x1 :: st)) := by
  subst hp
  exact Go.step (fun T t hT hx hc q => XS.i2c hT hx rfl (hb hc hd) rfl q) G
theorem g_i2s {x1 : Int32} (hd : decode bs pc = .ok (.i2s, 1)) (hp : pc + 1 = pc')  (G : Go X R Z a0 EL nw y bs ml rt Q kc ks sf h k n (mkF X.m pc' Ls (.int (x1.toInt16.toInt32) :: st))) : Go X R Z a0 EL nw y bs ml rt Q kc ks sf h k n (mkF X.m pc Ls (.int x1 :: st)) := by
  subst hp
  exact Go.step (fun T t hT hx hc q => XS.i2s hT hx rfl (hb hc hd) rfl q) G
theorem g_dup {x1 : Value} (hd : decode bs pc = .ok (.dup, 1)) (hp : pc + 1 = pc') (hc1 : x1.category = 1) (G : Go X R Z a0 EL nw y bs ml rt Q kc ks sf h k n (mkF X.m pc' Ls (x1 :: x1 :: st))) : Go X R Z a0 EL nw y bs ml rt Q kc ks sf h k n (mkF X.m pc Ls (x1 :: st)) := by
  subst hp
  exact Go.step (fun T t hT hx hc q => XS.dup hT hx rfl (hb hc hd) rfl hc1 q) G
theorem g_pop {x1 : Value} (hd : decode bs pc = .ok (.pop, 1)) (hp : pc + 1 = pc') (hc1 : x1.category = 1) (G : Go X R Z a0 EL nw y bs ml rt Q kc ks sf h k n (mkF X.m pc' Ls (st))) : Go X R Z a0 EL nw y bs ml rt Q kc ks sf h k n (mkF X.m pc Ls (x1 :: st)) := by
  subst hp
  exact Go.step (fun T t hT hx hc q => XS.pop hT hx rfl (hb hc hd) rfl hc1 q) G
theorem g_dup_x1 {x1 x2 : Value} (hd : decode bs pc = .ok (.dup_x1, 1)) (hp : pc + 1 = pc') (hc1 : x1.category = 1) (hc2 : x2.category = 1) (G : Go X R Z a0 EL nw y bs ml rt Q kc ks sf h k n (mkF X.m pc' Ls (x1 :: x2 :: x1 :: st))) : Go X R Z a0 EL nw y bs ml rt Q kc ks sf h k n (mkF X.m pc Ls (x1 :: x2 :: st)) := by
  subst hp
  exact Go.step (fun T t hT hx hc q => XT.dupX1 hT hx rfl (hb hc hd) rfl hc1 hc2 q) G
theorem g_dup2 {x1 x2 : Value} (hd : decode bs pc = .ok (.dup2, 1)) (hp : pc + 1 = pc') (hc1 : x1.category = 1) (hc2 : x2.category = 1) (G : Go X R Z a0 EL nw y bs ml rt Q kc ks sf h k n (mkF X.m pc' Ls (x1 :: x2 :: x1 :: x2 :: st))) : Go X R Z a0 EL nw y bs ml rt Q kc ks sf h k n (mkF X.m pc Ls (x1 :: x2 :: st)) := by
  subst hp
  exact Go.step (fun T t hT hx hc q => XT.dup2 hT hx rfl (hb hc hd) rfl hc1 hc2 q) G
theorem g_istoreN {i : Fin 4} {x1 : Int32} (hd : decode bs pc = .ok (.istore_n i, 1)) (hp : pc + 1 = pc') (hl : storeLocals Ls i.val (.int x1) = some Ls') (G : Go X R Z a0 EL nw y bs ml rt Q kc ks sf h k n (mkF X.m pc' Ls' (st))) : Go X R Z a0 EL nw y bs ml rt Q kc ks sf h k n (mkF X.m pc Ls (.int x1 :: st)) := by
  subst hp
  exact Go.step (fun T t hT hx hc q => XS.istoreN hT hx rfl (hb hc hd) rfl hl q) G
theorem g_istore {i : Nat} {x1 : Int32} (hd : decode bs pc = .ok (.istore i, 2)) (hp : pc + 2 = pc') (hl : storeLocals Ls i (.int x1) = some Ls') (G : Go X R Z a0 EL nw y bs ml rt Q kc ks sf h k n (mkF X.m pc' Ls' (st))) : Go X R Z a0 EL nw y bs ml rt Q kc ks sf h k n (mkF X.m pc Ls (.int x1 :: st)) := by
  subst hp
  exact Go.step (fun T t hT hx hc q => XS.istore hT hx rfl (hb hc hd) rfl hl q) G
theorem g_lstoreN {i : Fin 4} {x1 : Int64} (hd : decode bs pc = .ok (.lstore_n i, 1)) (hp : pc + 1 = pc') (hl : storeLocals Ls i.val (.long x1) = some Ls') (G : Go X R Z a0 EL nw y bs ml rt Q kc ks sf h k n (mkF X.m pc' Ls' (st))) : Go X R Z a0 EL nw y bs ml rt Q kc ks sf h k n (mkF X.m pc Ls (.long x1 :: st)) := by
  subst hp
  exact Go.step (fun T t hT hx hc q => XS.lstoreN hT hx rfl (hb hc hd) rfl hl q) G
theorem g_lstore {i : Nat} {x1 : Int64} (hd : decode bs pc = .ok (.lstore i, 2)) (hp : pc + 2 = pc') (hl : storeLocals Ls i (.long x1) = some Ls') (G : Go X R Z a0 EL nw y bs ml rt Q kc ks sf h k n (mkF X.m pc' Ls' (st))) : Go X R Z a0 EL nw y bs ml rt Q kc ks sf h k n (mkF X.m pc Ls (.long x1 :: st)) := by
  subst hp
  exact Go.step (fun T t hT hx hc q => XS.lstore hT hx rfl (hb hc hd) rfl hl q) G
theorem g_astoreN {i : Fin 4} {x1 : Value} (hd : decode bs pc = .ok (.astore_n i, 1)) (hp : pc + 1 = pc') (hr : x1.isRef = true) (hl : storeLocals Ls i.val x1 = some Ls') (G : Go X R Z a0 EL nw y bs ml rt Q kc ks sf h k n (mkF X.m pc' Ls' (st))) : Go X R Z a0 EL nw y bs ml rt Q kc ks sf h k n (mkF X.m pc Ls (x1 :: st)) := by
  subst hp
  exact Go.step (fun T t hT hx hc q => XS.astoreN hT hx rfl (hb hc hd) rfl hr hl q) G
theorem g_astore {i : Nat} {x1 : Value} (hd : decode bs pc = .ok (.astore i, 2)) (hp : pc + 2 = pc') (hr : x1.isRef = true) (hl : storeLocals Ls i x1 = some Ls') (G : Go X R Z a0 EL nw y bs ml rt Q kc ks sf h k n (mkF X.m pc' Ls' (st))) : Go X R Z a0 EL nw y bs ml rt Q kc ks sf h k n (mkF X.m pc Ls (x1 :: st)) := by
  subst hp
  exact Go.step (fun T t hT hx hc q => XS.astore hT hx rfl (hb hc hd) rfl hr hl q) G
theorem g_iinc {i : Nat} {cst : Int} {x1 : Int32} (hd : decode bs pc = .ok (.iinc i cst, 3)) (hp : pc + 3 = pc') (hv : Ls[i]? = some (.val (.int x1))) (hl : storeLocals Ls i (.int (x1 + Int32.ofInt cst)) = some Ls') (G : Go X R Z a0 EL nw y bs ml rt Q kc ks sf h k n (mkF X.m pc' Ls' st)) : Go X R Z a0 EL nw y bs ml rt Q kc ks sf h k n (mkF X.m pc Ls st) := by
  subst hp
  exact Go.step (fun T t hT hx hc q => XS.iinc hT hx rfl (hb hc hd) hv hl q) G
theorem g_goto {o : Int} (hd : decode bs pc = .ok (.goto o, 3)) (ho : 0 ≤ (pc : Int) + o) (hp : ((pc : Int) + o).toNat = pc') (G : Go X R Z a0 EL nw y bs ml rt Q kc ks sf h k n (mkF X.m pc' Ls st)) : Go X R Z a0 EL nw y bs ml rt Q kc ks sf h k n (mkF X.m pc Ls st) :=
  Go.step (fun T t hT hx hc q => XS.goto hT hx rfl rfl (hb hc hd) ho hp q) G
theorem g_icmpeq {o : Int} {x1 x2 : Int32} (hd : decode bs pc = .ok (.if_icmp .eq o, 3)) (hp : pc + 3 = pc') (ho : 0 ≤ (pc : Int) + o) (hp2 : ((pc : Int) + o).toNat = pc2) (Gn : ¬ x1 = x2 → Go X R Z a0 EL nw y bs ml rt Q kc ks sf h k n (mkF X.m pc' Ls st)) (Gy : x1 = x2 → Go X R Z a0 EL nw y bs ml rt Q kc ks sf h k n (mkF X.m pc2 Ls st)) : Go X R Z a0 EL nw y bs ml rt Q kc ks sf h k n (mkF X.m pc Ls (.int x2 :: .int x1 :: st)) := by
  subst hp
  by_cases q : x1 = x2
  · exact Go.step (fun T t hT hx hc r => XS.icmpYes hT hx rfl rfl (hb hc hd) rfl ((teq q).1) ho hp2 r) (Gy q)
  · have q : ¬ x1 = x2 := q
    exact Go.step (fun T t hT hx hc r => XS.icmpNo hT hx rfl (hb hc hd) rfl ((feq q).1) r) (Gn q)
theorem g_ifeq {o : Int} {x1 : Int32} (hd : decode bs pc = .ok (.ifCond .eq o, 3)) (hp : pc + 3 = pc') (ho : 0 ≤ (pc : Int) + o) (hp2 : ((pc : Int) + o).toNat = pc2) (Gn : ¬ x1 = 0 → Go X R Z a0 EL nw y bs ml rt Q kc ks sf h k n (mkF X.m pc' Ls st)) (Gy : x1 = 0 → Go X R Z a0 EL nw y bs ml rt Q kc ks sf h k n (mkF X.m pc2 Ls st)) : Go X R Z a0 EL nw y bs ml rt Q kc ks sf h k n (mkF X.m pc Ls (.int x1 :: st)) := by
  subst hp
  by_cases q : x1 = 0
  · exact Go.step (fun T t hT hx hc r => XS.ifYes hT hx rfl rfl (hb hc hd) rfl (by rw [if0]; exact (teq q).1) ho hp2 r) (Gy q)
  · have q : ¬ x1 = 0 := q
    exact Go.step (fun T t hT hx hc r => XS.ifNo hT hx rfl (hb hc hd) rfl (by rw [if0]; exact (feq q).1) r) (Gn q)
theorem g_icmpne {o : Int} {x1 x2 : Int32} (hd : decode bs pc = .ok (.if_icmp .ne o, 3)) (hp : pc + 3 = pc') (ho : 0 ≤ (pc : Int) + o) (hp2 : ((pc : Int) + o).toNat = pc2) (Gn : x1 = x2 → Go X R Z a0 EL nw y bs ml rt Q kc ks sf h k n (mkF X.m pc' Ls st)) (Gy : ¬ x1 = x2 → Go X R Z a0 EL nw y bs ml rt Q kc ks sf h k n (mkF X.m pc2 Ls st)) : Go X R Z a0 EL nw y bs ml rt Q kc ks sf h k n (mkF X.m pc Ls (.int x2 :: .int x1 :: st)) := by
  subst hp
  by_cases q : ¬ x1 = x2
  · exact Go.step (fun T t hT hx hc r => XS.icmpYes hT hx rfl rfl (hb hc hd) rfl ((feq q).2) ho hp2 r) (Gy q)
  · have q : x1 = x2 := Decidable.not_not.mp q
    exact Go.step (fun T t hT hx hc r => XS.icmpNo hT hx rfl (hb hc hd) rfl ((teq q).2) r) (Gn q)
theorem g_ifne {o : Int} {x1 : Int32} (hd : decode bs pc = .ok (.ifCond .ne o, 3)) (hp : pc + 3 = pc') (ho : 0 ≤ (pc : Int) + o) (hp2 : ((pc : Int) + o).toNat = pc2) (Gn : x1 = 0 → Go X R Z a0 EL nw y bs ml rt Q kc ks sf h k n (mkF X.m pc' Ls st)) (Gy : ¬ x1 = 0 → Go X R Z a0 EL nw y bs ml rt Q kc ks sf h k n (mkF X.m pc2 Ls st)) : Go X R Z a0 EL nw y bs ml rt Q kc ks sf h k n (mkF X.m pc Ls (.int x1 :: st)) := by
  subst hp
  by_cases q : ¬ x1 = 0
  · exact Go.step (fun T t hT hx hc r => XS.ifYes hT hx rfl rfl (hb hc hd) rfl (by rw [if0]; exact (feq q).2) ho hp2 r) (Gy q)
  · have q : x1 = 0 := Decidable.not_not.mp q
    exact Go.step (fun T t hT hx hc r => XS.ifNo hT hx rfl (hb hc hd) rfl (by rw [if0]; exact (teq q).2) r) (Gn q)
theorem g_icmplt {o : Int} {x1 x2 : Int32} (hd : decode bs pc = .ok (.if_icmp .lt o, 3)) (hp : pc + 3 = pc') (ho : 0 ≤ (pc : Int) + o) (hp2 : ((pc : Int) + o).toNat = pc2) (Gn : ¬ x1 < x2 → Go X R Z a0 EL nw y bs ml rt Q kc ks sf h k n (mkF X.m pc' Ls st)) (Gy : x1 < x2 → Go X R Z a0 EL nw y bs ml rt Q kc ks sf h k n (mkF X.m pc2 Ls st)) : Go X R Z a0 EL nw y bs ml rt Q kc ks sf h k n (mkF X.m pc Ls (.int x2 :: .int x1 :: st)) := by
  subst hp
  by_cases q : x1 < x2
  · exact Go.step (fun T t hT hx hc r => XS.icmpYes hT hx rfl rfl (hb hc hd) rfl ((tlt q).1) ho hp2 r) (Gy q)
  · have q : ¬ x1 < x2 := q
    exact Go.step (fun T t hT hx hc r => XS.icmpNo hT hx rfl (hb hc hd) rfl ((flt q).1) r) (Gn q)
theorem g_iflt {o : Int} {x1 : Int32} (hd : decode bs pc = .ok (.ifCond .lt o, 3)) (hp : pc + 3 = pc') (ho : 0 ≤ (pc : Int) + o) (hp2 : ((pc : Int) + o).toNat = pc2) (Gn : ¬ x1 < 0 → Go X R Z a0 EL nw y bs ml rt Q kc ks sf h k n (mkF X.m pc' Ls st)) (Gy : x1 < 0 → Go X R Z a0 EL nw y bs ml rt Q kc ks sf h k n (mkF X.m pc2 Ls st)) : Go X R Z a0 EL nw y bs ml rt Q kc ks sf h k n (mkF X.m pc Ls (.int x1 :: st)) := by
  subst hp
  by_cases q : x1 < 0
  · exact Go.step (fun T t hT hx hc r => XS.ifYes hT hx rfl rfl (hb hc hd) rfl (by rw [if0]; exact (tlt q).1) ho hp2 r) (Gy q)
  · have q : ¬ x1 < 0 := q
    exact Go.step (fun T t hT hx hc r => XS.ifNo hT hx rfl (hb hc hd) rfl (by rw [if0]; exact (flt q).1) r) (Gn q)
theorem g_icmpge {o : Int} {x1 x2 : Int32} (hd : decode bs pc = .ok (.if_icmp .ge o, 3)) (hp : pc + 3 = pc') (ho : 0 ≤ (pc : Int) + o) (hp2 : ((pc : Int) + o).toNat = pc2) (Gn : x1 < x2 → Go X R Z a0 EL nw y bs ml rt Q kc ks sf h k n (mkF X.m pc' Ls st)) (Gy : ¬ x1 < x2 → Go X R Z a0 EL nw y bs ml rt Q kc ks sf h k n (mkF X.m pc2 Ls st)) : Go X R Z a0 EL nw y bs ml rt Q kc ks sf h k n (mkF X.m pc Ls (.int x2 :: .int x1 :: st)) := by
  subst hp
  by_cases q : ¬ x1 < x2
  · exact Go.step (fun T t hT hx hc r => XS.icmpYes hT hx rfl rfl (hb hc hd) rfl ((flt q).2.1) ho hp2 r) (Gy q)
  · have q : x1 < x2 := Decidable.not_not.mp q
    exact Go.step (fun T t hT hx hc r => XS.icmpNo hT hx rfl (hb hc hd) rfl ((tlt q).2.1) r) (Gn q)
theorem g_ifge {o : Int} {x1 : Int32} (hd : decode bs pc = .ok (.ifCond .ge o, 3)) (hp : pc + 3 = pc') (ho : 0 ≤ (pc : Int) + o) (hp2 : ((pc : Int) + o).toNat = pc2) (Gn : x1 < 0 → Go X R Z a0 EL nw y bs ml rt Q kc ks sf h k n (mkF X.m pc' Ls st)) (Gy : ¬ x1 < 0 → Go X R Z a0 EL nw y bs ml rt Q kc ks sf h k n (mkF X.m pc2 Ls st)) : Go X R Z a0 EL nw y bs ml rt Q kc ks sf h k n (mkF X.m pc Ls (.int x1 :: st)) := by
  subst hp
  by_cases q : ¬ x1 < 0
  · exact Go.step (fun T t hT hx hc r => XS.ifYes hT hx rfl rfl (hb hc hd) rfl (by rw [if0]; exact (flt q).2.1) ho hp2 r) (Gy q)
  · have q : x1 < 0 := Decidable.not_not.mp q
    exact Go.step (fun T t hT hx hc r => XS.ifNo hT hx rfl (hb hc hd) rfl (by rw [if0]; exact (tlt q).2.1) r) (Gn q)
theorem g_icmpgt {o : Int} {x1 x2 : Int32} (hd : decode bs pc = .ok (.if_icmp .gt o, 3)) (hp : pc + 3 = pc') (ho : 0 ≤ (pc : Int) + o) (hp2 : ((pc : Int) + o).toNat = pc2) (Gn : ¬ x2 < x1 → Go X R Z a0 EL nw y bs ml rt Q kc ks sf h k n (mkF X.m pc' Ls st)) (Gy : x2 < x1 → Go X R Z a0 EL nw y bs ml rt Q kc ks sf h k n (mkF X.m pc2 Ls st)) : Go X R Z a0 EL nw y bs ml rt Q kc ks sf h k n (mkF X.m pc Ls (.int x2 :: .int x1 :: st)) := by
  subst hp
  by_cases q : x2 < x1
  · exact Go.step (fun T t hT hx hc r => XS.icmpYes hT hx rfl rfl (hb hc hd) rfl ((tlt q).2.2.1) ho hp2 r) (Gy q)
  · have q : ¬ x2 < x1 := q
    exact Go.step (fun T t hT hx hc r => XS.icmpNo hT hx rfl (hb hc hd) rfl ((flt q).2.2.1) r) (Gn q)
theorem g_ifgt {o : Int} {x1 : Int32} (hd : decode bs pc = .ok (.ifCond .gt o, 3)) (hp : pc + 3 = pc') (ho : 0 ≤ (pc : Int) + o) (hp2 : ((pc : Int) + o).toNat = pc2) (Gn : ¬ 0 < x1 → Go X R Z a0 EL nw y bs ml rt Q kc ks sf h k n (mkF X.m pc' Ls st)) (Gy : 0 < x1 → Go X R Z a0 EL nw y bs ml rt Q kc ks sf h k n (mkF X.m pc2 Ls st)) : Go X R Z a0 EL nw y bs ml rt Q kc ks sf h k n (mkF X.m pc Ls (.int x1 :: st)) := by
  subst hp
  by_cases q : 0 < x1
  · exact Go.step (fun T t hT hx hc r => XS.ifYes hT hx rfl rfl (hb hc hd) rfl (by rw [if0]; exact (tlt q).2.2.1) ho hp2 r) (Gy q)
  · have q : ¬ 0 < x1 := q
    exact Go.step (fun T t hT hx hc r => XS.ifNo hT hx rfl (hb hc hd) rfl (by rw [if0]; exact (flt q).2.2.1) r) (Gn q)
theorem g_icmple {o : Int} {x1 x2 : Int32} (hd : decode bs pc = .ok (.if_icmp .le o, 3)) (hp : pc + 3 = pc') (ho : 0 ≤ (pc : Int) + o) (hp2 : ((pc : Int) + o).toNat = pc2) (Gn : x2 < x1 → Go X R Z a0 EL nw y bs ml rt Q kc ks sf h k n (mkF X.m pc' Ls st)) (Gy : ¬ x2 < x1 → Go X R Z a0 EL nw y bs ml rt Q kc ks sf h k n (mkF X.m pc2 Ls st)) : Go X R Z a0 EL nw y bs ml rt Q kc ks sf h k n (mkF X.m pc Ls (.int x2 :: .int x1 :: st)) := by
  subst hp
  by_cases q : ¬ x2 < x1
  · exact Go.step (fun T t hT hx hc r => XS.icmpYes hT hx rfl rfl (hb hc hd) rfl ((flt q).2.2.2) ho hp2 r) (Gy q)
  · have q : x2 < x1 := Decidable.not_not.mp q
    exact Go.step (fun T t hT hx hc r => XS.icmpNo hT hx rfl (hb hc hd) rfl ((tlt q).2.2.2) r) (Gn q)
theorem g_ifle {o : Int} {x1 : Int32} (hd : decode bs pc = .ok (.ifCond .le o, 3)) (hp : pc + 3 = pc') (ho : 0 ≤ (pc : Int) + o) (hp2 : ((pc : Int) + o).toNat = pc2) (Gn : 0 < x1 → Go X R Z a0 EL nw y bs ml rt Q kc ks sf h k n (mkF X.m pc' Ls st)) (Gy : ¬ 0 < x1 → Go X R Z a0 EL nw y bs ml rt Q kc ks sf h k n (mkF X.m pc2 Ls st)) : Go X R Z a0 EL nw y bs ml rt Q kc ks sf h k n (mkF X.m pc Ls (.int x1 :: st)) := by
  subst hp
  by_cases q : ¬ 0 < x1
  · exact Go.step (fun T t hT hx hc r => XS.ifYes hT hx rfl rfl (hb hc hd) rfl (by rw [if0]; exact (flt q).2.2.2) ho hp2 r) (Gy q)
  · have q : 0 < x1 := Decidable.not_not.mp q
    exact Go.step (fun T t hT hx hc r => XS.ifNo hT hx rfl (hb hc hd) rfl (by rw [if0]; exact (tlt q).2.2.2) r) (Gn q)
theorem g_ifnullY {o : Int} (hd : decode bs pc = .ok (.ifnull o, 3)) (ho : 0 ≤ (pc : Int) + o) (hp2 : ((pc : Int) + o).toNat = pc2) (G : Go X R Z a0 EL nw y bs ml rt Q kc ks sf h k n (mkF X.m pc2 Ls st)) : Go X R Z a0 EL nw y bs ml rt Q kc ks sf h k n (mkF X.m pc Ls (.null :: st)) :=
  Go.step (fun T t hT hx hc r => XS.ifnullYes hT hx rfl rfl (hb hc hd) rfl ho hp2 r) G
theorem g_ifnullN {o : Int} {b : Addr} (hd : decode bs pc = .ok (.ifnull o, 3)) (hp : pc + 3 = pc') (G : Go X R Z a0 EL nw y bs ml rt Q kc ks sf h k n (mkF X.m pc' Ls st)) : Go X R Z a0 EL nw y bs ml rt Q kc ks sf h k n (mkF X.m pc Ls (.ref b :: st)) := by
  subst hp
  exact Go.step (fun T t hT hx hc r => XS.ifnullNo hT hx rfl (hb hc hd) rfl r) G
theorem g_ifnonnullY {o : Int} {b : Addr} (hd : decode bs pc = .ok (.ifnonnull o, 3)) (ho : 0 ≤ (pc : Int) + o) (hp2 : ((pc : Int) + o).toNat = pc2) (G : Go X R Z a0 EL nw y bs ml rt Q kc ks sf h k n (mkF X.m pc2 Ls st)) : Go X R Z a0 EL nw y bs ml rt Q kc ks sf h k n (mkF X.m pc Ls (.ref b :: st)) :=
  Go.step (fun T t hT hx hc r => XS.ifnonnullYes hT hx rfl rfl (hb hc hd) rfl ho hp2 r) G
theorem g_ifnonnullN {o : Int} (hd : decode bs pc = .ok (.ifnonnull o, 3)) (hp : pc + 3 = pc') (G : Go X R Z a0 EL nw y bs ml rt Q kc ks sf h k n (mkF X.m pc' Ls st)) : Go X R Z a0 EL nw y bs ml rt Q kc ks sf h k n (mkF X.m pc Ls (.null :: st)) := by
  subst hp
  exact Go.step (fun T t hT hx hc r => XS.ifnonnullNo hT hx rfl (hb hc hd) rfl r) G
theorem g_acmp {cd : ClassFile.ACond} {o : Int} {x1 x2 : Value} (hd : decode bs pc = .ok (.if_acmp cd o, 3)) (hp : pc + 3 = pc') (ho : 0 ≤ (pc : Int) + o) (hp2 : ((pc : Int) + o).toNat = pc2) (hr1 : x1.isRef = true) (hr2 : x2.isRef = true) (Gn : XT.acmp cd x1 x2 = false → Go X R Z a0 EL nw y bs ml rt Q kc ks sf h k n (mkF X.m pc' Ls st)) (Gy : XT.acmp cd x1 x2 = true → Go X R Z a0 EL nw y bs ml rt Q kc ks sf h k n (mkF X.m pc2 Ls st)) : Go X R Z a0 EL nw y bs ml rt Q kc ks sf h k n (mkF X.m pc Ls (x2 :: x1 :: st)) := by
  subst hp
  cases q : XT.acmp cd x1 x2 with
  | true => exact Go.step (fun T t hT hx hc r => XT.acmpYes hT hx rfl rfl (hb hc hd) rfl hr1 hr2 q ho hp2 r) (Gy q)
  | false => exact Go.step (fun T t hT hx hc r => XT.acmpNo hT hx rfl (hb hc hd) rfl hr1 hr2 q r) (Gn q)
/-! returns -/
theorem Go.out {v : Option Value} (hv : rt = none → v = none) (hk : Nat.ble k kc = true) (hn : Nat.ble n ks = true) (hQ : Q v h)
    (stp : ∀ {s0 : State} {L : List Loc} {T : State} {fs : List Frame}, Stand X.p X.l X.e R s0 X.m X.args X.below X.meth X.c T L k n → X.p.tables.exec = Jvm.exec → X.c.code = bs → X.meth.sig.returnType = rt → (∀ (f : JFrame) (acts : List Action), f.method = X.m → f.locked = none → f.entered = [] → (doReturn X.e (T.setTop f) acts v).1 = T.setFrames fs) → Steps X.p.tables X.e X.below (T.setTop g) (T.setFrames fs)) : Go X R Z a0 EL nw y bs ml rt Q kc ks sf h k n g := fun T S => by
  obtain ⟨⟨hx, hc, hml, hrt, hnm, hlk, hEL⟩, vm0, L, X1, rfl, hS, hZ, hown, hC, hF, hE, hs, hN⟩ := S
  obtain ⟨fs, hr, hrun, hended, hW, hsame⟩ := X1.leave (v := v) (fun q => hv (hrt ▸ q)) hlk
  refine ⟨_, _, stp X1 hx hc hrt hr, hrun, hended, v, L, rfl, ⟨hQ, hF, hE⟩, hC.trans (show CHr Z EL vm0 T.heap T.vm T.heap from CHv.at X1 hZ hEL hC.1), fun q => State.WarmedH.trans (hN q) hW, ⟨v, rfl⟩, State.Warmed39.trans (t := X.s.setVm vm0) hS.1 hW.wide, fun j q hj hp => ?_, (hsame.setVm X.s.vm).mono (ble hk) (ble hn)⟩
  exact hS.2 j q hj (by have := hW.interned_eq; rw [this] at hp; exact hp)
theorem g_ireturn {w : Int32} {t : FieldType} (hd : decode bs pc = .ok (.ireturn, 1)) (hrt : rt = some t) (ht : t = .int ∨ t = .boolean ∨ t = .byte ∨ t = .char ∨ t = .short) (hw : narrow t (.int w) = .int w) (hk : Nat.ble k kc = true) (hn : Nat.ble n ks = true) (hQ : Q (some (.int w)) h) : Go X R Z a0 EL nw y bs ml rt Q kc ks sf h k n (mkF X.m pc Ls (.int w :: st)) :=
  Go.out (fun q => by rw [hrt] at q; cases q) hk hn hQ fun X1 hx hc hr hl => retOut X1 hx (hr.trans hrt) hw (Or.inl ⟨rfl, ht, _, rfl⟩) (hb hc hd) hl
theorem g_lreturn {w : Int64} (hd : decode bs pc = .ok (.lreturn, 1)) (hrt : rt = some .long) (hk : Nat.ble k kc = true) (hn : Nat.ble n ks = true) (hQ : Q (some (.long w)) h) : Go X R Z a0 EL nw y bs ml rt Q kc ks sf h k n (mkF X.m pc Ls (.long w :: st)) :=
  Go.out (fun q => by rw [hrt] at q; cases q) hk hn hQ fun X1 hx hc hr hl => retOut X1 hx (hr.trans hrt) rfl (Or.inr (Or.inl ⟨rfl, rfl, _, rfl⟩)) (hb hc hd) hl
theorem g_areturn {w : Value} {t : FieldType} (hd : decode bs pc = .ok (.areturn, 1)) (hrt : rt = some t) (ht : t.isReference = true) (hw : w.isRef = true) (hnw : narrow t w = w) (hk : Nat.ble k kc = true) (hn : Nat.ble n ks = true) (hQ : Q (some w) h) : Go X R Z a0 EL nw y bs ml rt Q kc ks sf h k n (mkF X.m pc Ls (w :: st)) :=
  Go.out (fun q => by rw [hrt] at q; cases q) hk hn hQ fun X1 hx hc hr hl => retOut X1 hx (hr.trans hrt) hnw (Or.inr (Or.inr (Or.inr (Or.inr ⟨rfl, ht, hw⟩)))) (hb hc hd) hl
theorem g_return (hd : decode bs pc = .ok (.return_, 1)) (hrt : rt = none) (hk : Nat.ble k kc = true) (hn : Nat.ble n ks = true) (hQ : Q none h) : Go X R Z a0 EL nw y bs ml rt Q kc ks sf h k n (mkF X.m pc Ls []) :=
  Go.out (fun _ => rfl) hk hn hQ fun X1 hx hc hr hl => X1.returnOut hx (hr.trans hrt) (hb hc hd) hl
/-! steps that move the heap, the tables not interned anew -/
theorem Spot.next {vm0 : Vm} {L' : List Loc} (F : Fix X Z a0 EL y bs ml rt) (X1 : Stand X.p X.l X.e R (X.s.setVm vm0) X.m X.args X.below X.meth X.c T' L' k' n') (e : T'.heap = h') (hS : X.s.Since vm0 h.size) (hZ : Z.Warmed39 vm0) (hown : vm0.findClass y.cls = some X.m.cls) (hC : CHr Z EL X.s.vm X.s.heap vm0 h) (hC' : CHr Z EL vm0 h vm0 h') (hF : Fr Z.heap.size L') (hE : Ext Z.heap h') (hs : ∀ x ∈ sf, x < h.size ∧ Safe Z EL vm0 h x) (hN : nw = true → X.s.WarmedH vm0) : Spot X R Z a0 EL nw y bs ml rt sf T' h' k' n' :=
  ⟨F, vm0, L', X1, e, ⟨hS.1, hS.2.mono hC'.2.1⟩, hZ, hown, hC.trans hC', hF, hE, fun x hx => ⟨Nat.lt_of_lt_of_le (hs x hx).1 hC'.2.1, hC'.safe (hs x hx).1 (hs x hx).2⟩, hN⟩
theorem ext_trans {h1 h2 h3 : Heap} (E : Ext h1 h2) (E' : Ext h2 h3) : Ext h1 h3 := ⟨Nat.le_trans E.1 E'.1, fun a c q => E'.2 a c (E.2 a c q)⟩
theorem ext_refl (h1 : Heap) : Ext h1 h1 := ⟨Nat.le_refl _, fun _ _ q => q⟩
/-- what is written lies behind the first heap's end: the first heap stands -/
theorem ext_keep {h1 h2 h3 : Heap} {ws : List Addr} (E : Ext h1 h2) (K : Keep h2 h3 ws) (q : ∀ x ∈ ws, h1.size ≤ x) : Ext h1 h3 := ⟨Nat.le_trans E.1 K.1, fun a c r => K.2.1 a c (E.2 a c r) fun z => absurd (Array.getElem?_eq_some_iff.mp r).1 (Nat.not_lt.mpr (q a z))⟩
theorem keep_ext {h1 h2 : Heap} (E : Ext h1 h2) : Keep h1 h2 [] := (Keep.refl _ _).ext E
theorem g_new {C : String} {ix sz : Nat} (hd : decode bs pc = .ok (.new ix, 3)) (hp : pc + 3 = pc') (w : (Jvm.Cond.classLink y.cls ix C).before a0 Z = true) (wi : (Jvm.Cond.instantiable C sz).before a0 Z = true) (wz : (Jvm.Cond.initialized C).before a0 Z = true) (hk : Nat.ble (k + 1) R.cells = true) (hn : Nat.ble (n + sz) R.slots = true)
    (G : ∀ h' a, a = h.size → Ext h h' → Exa Z h' a C → (∀ {O nm d : String} {ty : FieldType}, Laid Z a0 C O nm d → parseFieldDescriptor d = some ty → Fld Z h' a O nm d (defaultValue ty)) → Go X R Z a0 EL nw y bs ml rt Q kc ks (a :: sf) h' (k + 1) (n + sz) (mkF X.m pc' Ls (.ref a :: st))) : Go X R Z a0 EL nw y bs ml rt Q kc ks sf h k n (mkF X.m pc Ls st) := fun T S => by
  subst hp
  obtain ⟨F, vm0, L, X1, eT, hS, hZ, hown, hC, hF, hE, hs, hN⟩ := S
  obtain ⟨T', h', X2, e2, E2, A2, D2, -, stp⟩ := newO X1 F.1 (Z := Z) hZ hown w wi wz eT (g := mkF X.m pc Ls st) rfl (hb F.2.1 hd) (ble hk) (ble hn)
  refine (G h' _ rfl E2 A2 D2 T' ?_).back stp
  exact ⟨F, vm0, _, X2, e2, ⟨hS.1, hS.2.mono E2.1⟩, hZ, hown, hC.trans (CHr.ext E2 hC.1), hF, ext_trans hE E2, fun x hx => by
    rcases List.mem_cons.mp hx with rfl | hx
    · exact ⟨A2.lt, Safe.ext E2 hC.1 (Safe.new (Nat.le_refl _))⟩
    · exact ⟨Nat.lt_of_lt_of_le (hs x hx).1 E2.1, Safe.ext E2 hC.1 (hs x hx).2⟩, hN⟩
theorem g_newarray {aty : ArrayType} {z : Int32} {cap : Nat} (hd : decode bs pc = .ok (.newarray aty, 2)) (hp : pc + 2 = pc') (w : (Jvm.Cond.arrayClass (newarray.typeOf aty)).before a0 Z = true) (hz : ¬ z < 0) (hcap : z.toNatClampNeg = cap) (h8 : Nat.ble (cap * 8) 536870912 = true) (hk : Nat.ble (k + 1) R.cells = true) (hn : Nat.ble (n + cap) R.slots = true)
    (G : ∀ h' a kA, a = h.size → Ext h h' → Arv Z h' a kA (newarray.typeOf aty) z (List.replicate cap (defaultValue (newarray.typeOf aty))) (defaultValue (newarray.typeOf aty)) → Go X R Z a0 EL nw y bs ml rt Q kc ks (a :: sf) h' (k + 1) (n + cap) (mkF X.m pc' Ls (.ref a :: st))) : Go X R Z a0 EL nw y bs ml rt Q kc ks sf h k n (mkF X.m pc Ls (.int z :: st)) := fun T S => by
  subst hp
  obtain ⟨F, vm0, L, X1, eT, hS, hZ, hown, hC, hF, hE, hs, hN⟩ := S
  obtain ⟨T', h', cA, X2, e2, E2, A2, stp⟩ := newP X1 F.1 (Z := Z) hZ w eT (g := mkF X.m pc Ls (.int z :: st)) rfl (hb F.2.1 hd) rfl hz (cap := cap) (Nat.le_of_eq hcap) (ble h8) (ble hk) (ble hn)
  have A3 := (Arv.new A2 hz).pad (vs' := List.replicate cap (defaultValue (newarray.typeOf aty))) (fun i => by have := pad_rep [] (defaultValue (newarray.typeOf aty)) cap i; simpa using this)
  refine (G h' _ cA rfl E2 A3 T' ?_).back stp
  exact ⟨F, vm0, _, X2, e2, ⟨hS.1, hS.2.mono E2.1⟩, hZ, hown, hC.trans (CHr.ext E2 hC.1), hF, ext_trans hE E2, fun x hx => by
    rcases List.mem_cons.mp hx with rfl | hx
    · exact ⟨A3.lt, Safe.ext E2 hC.1 (Safe.new (Nat.le_refl _))⟩
    · exact ⟨Nat.lt_of_lt_of_le (hs x hx).1 E2.1, Safe.ext E2 hC.1 (hs x hx).2⟩, hN⟩
/-- newarray again, with the array's class told by its name -/
theorem g_newarrayX {aty : ArrayType} {z : Int32} {cap : Nat} (hd : decode bs pc = .ok (.newarray aty, 2)) (hp : pc + 2 = pc') (w : (Jvm.Cond.arrayClass (newarray.typeOf aty)).before a0 Z = true) (hz : ¬ z < 0) (hcap : z.toNatClampNeg = cap) (h8 : Nat.ble (cap * 8) 536870912 = true) (hk : Nat.ble (k + 1) R.cells = true) (hn : Nat.ble (n + cap) R.slots = true)
    (G : ∀ h' a kA, a = h.size → Ext h h' → Z.vm.findClass ("[" ++ (newarray.typeOf aty).toString) = some kA → Arv Z h' a kA (newarray.typeOf aty) z (List.replicate cap (defaultValue (newarray.typeOf aty))) (defaultValue (newarray.typeOf aty)) → Go X R Z a0 EL nw y bs ml rt Q kc ks (a :: sf) h' (k + 1) (n + cap) (mkF X.m pc' Ls (.ref a :: st))) : Go X R Z a0 EL nw y bs ml rt Q kc ks sf h k n (mkF X.m pc Ls (.int z :: st)) := fun T S => by
  subst hp
  obtain ⟨F, vm0, L, X1, rfl, hS, hZ, hown, hC, hF, hE, hs, hN⟩ := S
  have hcb : componentBytes (newarray.typeOf aty) ≤ 8 := by cases aty <;> decide
  obtain ⟨cA, kA, comp, h1, h2, h3, X2, stp⟩ := X1.newarrayPrim F.1 (mvA hZ w) (g := mkF X.m pc Ls (.int z :: st)) rfl (hb F.2.1 hd) rfl hz (Nat.le_trans (Nat.mul_le_mul (Nat.le_of_eq hcap) hcb) (ble h8)) (ble hk) (by have := ble hn; omega)
  have h1 : vm0.findClass _ = some cA := h1
  rw [hZ.alike.findClass] at h1
  obtain ⟨kZ, z1, -⟩ := Vm.findClass_spec h1
  obtain ⟨k', z2, z3⟩ := hZ.alike.2.2 _ _ z1
  cases h2.symm.trans z2
  have E2 : Ext T.heap (T.heap.push (newA cA (newarray.typeOf aty) z)) := ⟨by simp, fun a c q => by rw [Array.getElem?_push_lt (Array.getElem?_eq_some_iff.mp q).1]; exact (Array.getElem?_eq_getElem _).symm.trans q⟩
  have A2 : Arr Z (T.heap.push (newA cA (newarray.typeOf aty) z)) T.heap.size (newA cA (newarray.typeOf aty) z) (newarray.typeOf aty) := ⟨by simp, ⟨by simp [newA], kZ, z1, comp, by rw [← h3, z3]⟩, by simp [newA]⟩
  have A3 := (Arv.new A2 hz).pad (vs' := List.replicate cap (defaultValue (newarray.typeOf aty))) (fun i => by have := pad_rep [] (defaultValue (newarray.typeOf aty)) cap i; simpa using this)
  refine (G _ _ cA rfl E2 h1 A3 _ ?_).back stp
  exact ⟨F, vm0, _, X2.more (Nat.le_refl _) (by omega), rfl, ⟨hS.1, hS.2.mono E2.1⟩, hZ, hown, hC.trans (CHr.ext E2 hC.1), hF, ext_trans hE E2, fun x hx => by
    rcases List.mem_cons.mp hx with rfl | hx
    · exact ⟨A3.lt, Safe.ext E2 hC.1 (Safe.new (Nat.le_refl _))⟩
    · exact ⟨Nat.lt_of_lt_of_le (hs x hx).1 E2.1, Safe.ext E2 hC.1 (hs x hx).2⟩, hN⟩
theorem Arv.exa {Z : State} {h : Heap} {a : Addr} {kA : ClassId} {ty : FieldType} {z : Int32} {vs : List Value} {d : Value} {C : String} (A : Arv Z h a kA ty z vs d) (q : Z.vm.findClass C = some kA) : Exa Z h a C := by
  obtain ⟨c, ⟨q1, ⟨q2, kz, q3, co, q4⟩, q5⟩, rfl, -⟩ := A
  exact ⟨c, kz, q1, q, q3, by cases hv : c.vm <;> first | rfl | exact absurd hv (q2 _), fun e => by rw [q4] at e; cases e⟩
theorem g_anewarray {C : String} {ix : Nat} {z : Int32} {cap : Nat} (hd : decode bs pc = .ok (.anewarray ix, 3)) (hp : pc + 3 = pc') (w : (Jvm.Cond.classLink y.cls ix C).before a0 Z = true) (w2 : (Jvm.Cond.arrayOver (.object C)).before a0 Z = true) (hz : ¬ z < 0) (hcap : z.toNatClampNeg = cap) (h8 : Nat.ble (cap * 8) 536870912 = true) (hk : Nat.ble (k + 1) R.cells = true) (hn : Nat.ble (n + cap) R.slots = true)
    (G : ∀ h' a kA, a = h.size → Ext h h' → Ovr Z kA C → Arv Z h' a kA (.object C) z (List.replicate cap .null) .null → Go X R Z a0 EL nw y bs ml rt Q kc ks (a :: sf) h' (k + 1) (n + cap) (mkF X.m pc' Ls (.ref a :: st))) : Go X R Z a0 EL nw y bs ml rt Q kc ks sf h k n (mkF X.m pc Ls (.int z :: st)) := fun T S => by
  subst hp
  obtain ⟨F, vm0, L, X1, eT, hS, hZ, hown, hC, hF, hE, hs, hN⟩ := S
  obtain ⟨T', h', cA, X2, e2, E2, A2, O2, stp⟩ := newR X1 F.1 (Z := Z) hZ hown w w2 eT (g := mkF X.m pc Ls (.int z :: st)) rfl (hb F.2.1 hd) rfl hz (cap := cap) (Nat.le_of_eq hcap) (ble h8) (ble hk) (ble hn)
  have A3 := (Arv.new A2 hz).pad (vs' := List.replicate cap (defaultValue (.object C))) (fun i => by have := pad_rep [] (defaultValue (.object C)) cap i; simpa using this)
  refine (G h' _ cA rfl E2 O2 A3 T' ?_).back stp
  exact ⟨F, vm0, _, X2, e2, ⟨hS.1, hS.2.mono E2.1⟩, hZ, hown, hC.trans (CHr.ext E2 hC.1), hF, ext_trans hE E2, fun x hx => by
    rcases List.mem_cons.mp hx with rfl | hx
    · exact ⟨A3.lt, Safe.ext E2 hC.1 (Safe.new (Nat.le_refl _))⟩
    · exact ⟨Nat.lt_of_lt_of_le (hs x hx).1 E2.1, Safe.ext E2 hC.1 (hs x hx).2⟩, hN⟩
/-- a step over one Stand that moves nothing but the tables (narrowly) -/
theorem Go.same (stp : ∀ {vm0 : Vm} {L : List Loc} {T : State}, Fix X Z a0 EL y bs ml rt → Stand X.p X.l X.e R (X.s.setVm vm0) X.m X.args X.below X.meth X.c T L k n → T.heap = h → Z.Warmed39 vm0 → vm0.findClass y.cls = some X.m.cls →
      ∃ T', Stand X.p X.l X.e R (X.s.setVm vm0) X.m X.args X.below X.meth X.c T' L k n ∧ T'.heap = h ∧ ∀ t, Steps X.p.tables X.e X.below (T'.setTop g') t → Steps X.p.tables X.e X.below (T.setTop g) t)
    (G : Go X R Z a0 EL nw y bs ml rt Q kc ks sf h k n g') : Go X R Z a0 EL nw y bs ml rt Q kc ks sf h k n g := fun T S => by
  obtain ⟨F, vm0, L, X1, eT, hS, hZ, hown, r⟩ := S
  obtain ⟨T', X2, e2, q⟩ := stp F X1 eT hZ hown
  exact (G T' ⟨F, vm0, L, X2, e2, hS, hZ, hown, r⟩).back q
theorem g_ldcI {ix : Nat} {v : Int32} (hd : decode bs pc = .ok (.ldc ix, 2)) (hp : pc + 2 = pc') (w : (Jvm.Cond.constant y.cls ix v).before a0 Z = true) (G : Go X R Z a0 EL nw y bs ml rt Q kc ks sf h k n (mkF X.m pc' Ls (.int v :: st))) : Go X R Z a0 EL nw y bs ml rt Q kc ks sf h k n (mkF X.m pc Ls st) := by
  subst hp
  exact Go.same (fun F X1 eT hZ hown => ⟨_, X1, eT, fun t q => X1.ldcI F.1 hown (mvT hZ w) rfl (hb F.2.1 hd) q⟩) G
theorem g_ldc2J {ix : Nat} {v : Int64} (hd : decode bs pc = .ok (.ldc2_w ix, 3)) (hp : pc + 3 = pc') (w : (Jvm.Cond.constantLong y.cls ix v).before a0 Z = true) (G : Go X R Z a0 EL nw y bs ml rt Q kc ks sf h k n (mkF X.m pc' Ls (.long v :: st))) : Go X R Z a0 EL nw y bs ml rt Q kc ks sf h k n (mkF X.m pc Ls st) := by
  subst hp
  exact Go.same (fun F X1 eT hZ hown => ⟨_, X1, eT, fun t q => X1.ldc2J F.1 hown (mvT hZ w) rfl (hb F.2.1 hd) q⟩) G
/-! arrays read -/
section Arrays
variable {a : Addr} {kA : ClassId} {z j : Int32} {vs : List Value} {d v : Value}
theorem g_arraylength {ty : FieldType} (hd : decode bs pc = .ok (.arraylength, 1)) (hp : pc + 1 = pc') (A : Arv Z h a kA ty z vs d) (G : Go X R Z a0 EL nw y bs ml rt Q kc ks sf h k n (mkF X.m pc' Ls (.int z :: st))) : Go X R Z a0 EL nw y bs ml rt Q kc ks sf h k n (mkF X.m pc Ls (.ref a :: st)) := by
  subst hp
  refine Go.same (fun F X1 eT hZ hown => ⟨_, X1, eT, fun t q => ?_⟩) G
  obtain ⟨c, Ar, -, s1, n1, -⟩ := A
  refine X1.arraylength F.1 (by rw [eT]; exact Ar.1) (State.isArrayOf_alike hZ.alike Ar.2.1) (g := mkF X.m pc Ls (.ref a :: st)) rfl rfl (hb F.2.1 hd) _ ?_
  rw [len_of s1 n1]
  exact q
theorem g_caload {w : Int32} (hd : decode bs pc = .ok (.caload, 1)) (hp : pc + 1 = pc') (A : Arv Z h a kA .char z vs d) (hj : ¬ j < 0 ∧ j < z) (hv : vs.getD j.toNatClampNeg d = .int w) (G : Go X R Z a0 EL nw y bs ml rt Q kc ks sf h k n (mkF X.m pc' Ls (.int w :: st))) : Go X R Z a0 EL nw y bs ml rt Q kc ks sf h k n (mkF X.m pc Ls (.int j :: .ref a :: st)) := by
  subst hp
  refine Go.same (fun F X1 eT hZ hown => ⟨_, X1, eT, fun t q => ?_⟩) G
  obtain ⟨c, Ar, -, s1, n1, H, -⟩ := A
  exact X1.caload F.1 (by rw [eT]; exact Ar.1) (State.isArrayOf_alike hZ.alike Ar.2.1) Ar.2.2 (inb_of s1 hj) (H.at (inb_of s1 hj) hv) (g := mkF X.m pc Ls (.int j :: .ref a :: st)) rfl rfl (hb F.2.1 hd) _ q
theorem g_iaload {w : Int32} (hd : decode bs pc = .ok (.iaload, 1)) (hp : pc + 1 = pc') (A : Arv Z h a kA .int z vs d) (hj : ¬ j < 0 ∧ j < z) (hv : vs.getD j.toNatClampNeg d = .int w) (G : Go X R Z a0 EL nw y bs ml rt Q kc ks sf h k n (mkF X.m pc' Ls (.int w :: st))) : Go X R Z a0 EL nw y bs ml rt Q kc ks sf h k n (mkF X.m pc Ls (.int j :: .ref a :: st)) := by
  subst hp
  refine Go.same (fun F X1 eT hZ hown => ⟨_, X1, eT, fun t q => ?_⟩) G
  obtain ⟨c, Ar, -, s1, n1, H, -⟩ := A
  exact X1.iaload F.1 (by rw [eT]; exact Ar.1) (State.isArrayOf_alike hZ.alike Ar.2.1) Ar.2.2 (inb_of s1 hj) (H.at (inb_of s1 hj) hv) (g := mkF X.m pc Ls (.int j :: .ref a :: st)) rfl rfl (hb F.2.1 hd) _ q
theorem g_baload {w : Int32} (hd : decode bs pc = .ok (.baload, 1)) (hp : pc + 1 = pc') (A : Arv Z h a kA .byte z vs d) (hj : ¬ j < 0 ∧ j < z) (hv : vs.getD j.toNatClampNeg d = .int w) (G : Go X R Z a0 EL nw y bs ml rt Q kc ks sf h k n (mkF X.m pc' Ls (.int w :: st))) : Go X R Z a0 EL nw y bs ml rt Q kc ks sf h k n (mkF X.m pc Ls (.int j :: .ref a :: st)) := by
  subst hp
  refine Go.same (fun F X1 eT hZ hown => ⟨_, X1, eT, fun t q => ?_⟩) G
  obtain ⟨c, Ar, -, s1, n1, H, -⟩ := A
  exact X1.baloadBytes F.1 (by rw [eT]; exact Ar.1) (State.isArrayOf_alike hZ.alike Ar.2.1) Ar.2.2 (inb_of s1 hj) (H.at (inb_of s1 hj) hv) (g := mkF X.m pc Ls (.int j :: .ref a :: st)) rfl rfl (hb F.2.1 hd) _ q
theorem g_aaload {ty : FieldType} (hd : decode bs pc = .ok (.aaload, 1)) (hp : pc + 1 = pc') (A : Arv Z h a kA ty z vs d) (ht : ty.isReference = true) (hj : ¬ j < 0 ∧ j < z) (hv : vs.getD j.toNatClampNeg d = v) (G : Go X R Z a0 EL nw y bs ml rt Q kc ks sf h k n (mkF X.m pc' Ls (v :: st))) : Go X R Z a0 EL nw y bs ml rt Q kc ks sf h k n (mkF X.m pc Ls (.int j :: .ref a :: st)) := by
  subst hp
  refine Go.same (fun F X1 eT hZ hown => ⟨_, X1, eT, fun t q => ?_⟩) G
  obtain ⟨c, Ar, -, s1, n1, H, -⟩ := A
  exact X1.aaload F.1 (by rw [eT]; exact Ar.1) (State.isArrayOf_alike hZ.alike Ar.2.1) ht Ar.2.2 (inb_of s1 hj) (H.at (inb_of s1 hj) hv) (g := mkF X.m pc Ls (.int j :: .ref a :: st)) rfl rfl (hb F.2.1 hd) _ q
/-! writes: one place of one cell, made since the start, that is no literal's -/
theorem Go.write {sl : Nat} {v : Value} (ha : Z.heap.size ≤ a) (hsafe : ∀ vm, Z.Warmed39 vm → CHv Z EL vm h → (∀ x ∈ sf, x < h.size ∧ Safe Z EL vm h x) → Safe Z EL vm h a)
    (stp : ∀ {vm0 : Vm} {L : List Loc} {T : State}, Fix X Z a0 EL y bs ml rt → Stand X.p X.l X.e R (X.s.setVm vm0) X.m X.args X.below X.meth X.c T L k n → T.heap = h → Z.Warmed39 vm0 → vm0.findClass y.cls = some X.m.cls →
      ∃ T' h', Stand X.p X.l X.e R (X.s.setVm vm0) X.m X.args X.below X.meth X.c T' (L ++ [⟨a, sl⟩]) k n ∧ T'.heap = h' ∧ Wr h h' a sl v ∧ ∀ t, Steps X.p.tables X.e X.below (T'.setTop g') t → Steps X.p.tables X.e X.below (T.setTop g) t)
    (G : ∀ h', Wr h h' a sl v → Go X R Z a0 EL nw y bs ml rt Q kc ks sf h' k n g') : Go X R Z a0 EL nw y bs ml rt Q kc ks sf h k n g := fun T S => by
  obtain ⟨F, vm0, L, X1, eT, hS, hZ, hown, hC, hF, hE, hs, hN⟩ := S
  obtain ⟨T', h', X2, e2, W, q⟩ := stp F X1 eT hZ hown
  exact (G h' W T' (Spot.next F X2 e2 hS hZ hown hC (CHr.wr W (hsafe vm0 hZ hC.1 hs) hC.1) (Fr.snoc X2 hF ha) (ext_keep hE (Keep.of_wr W) (allS ha all0)) hs hN)).back q
theorem sfIn (hm : a ∈ sf) : ∀ vm, Z.Warmed39 vm → CHv Z EL vm h → (∀ x ∈ sf, x < h.size ∧ Safe Z EL vm h x) → Safe Z EL vm h a := fun _ _ _ q => (q a hm).2
theorem sfArv {ty : FieldType} (A : Arv Z h a kA ty z vs d) (ht : ty ≠ .byte) : ∀ vm, Z.Warmed39 vm → CHv Z EL vm h → (∀ x ∈ sf, x < h.size ∧ Safe Z EL vm h x) → Safe Z EL vm h a := fun _ hZ _ _ => Safe.arv hZ.alike A ht
theorem sfExa {C : String} (E : Exa Z h a C) (h1 : C ≠ "java/lang/String") (h2 : C ≠ "[B") : ∀ vm, Z.Warmed39 vm → CHv Z EL vm h → (∀ x ∈ sf, x < h.size ∧ Safe Z EL vm h x) → Safe Z EL vm h a := fun _ hZ _ _ => Safe.exa hZ.alike E h1 h2
theorem g_castore {x1 : Int32} {i : Nat} (hd : decode bs pc = .ok (.castore, 1)) (hp : pc + 1 = pc') (A : Arv Z h a kA .char z vs d) (ha : Z.heap.size ≤ a) (hj : ¬ j < 0 ∧ j < z) (hi : j.toNatClampNeg = i) (hl : i < vs.length)
    (G : ∀ h', Keep h h' [a] → Arv Z h' a kA .char z (vs.set i (.int (nar .char x1))) d → Go X R Z a0 EL nw y bs ml rt Q kc ks sf h' k n (mkF X.m pc' Ls st)) : Go X R Z a0 EL nw y bs ml rt Q kc ks sf h k n (mkF X.m pc Ls (.int x1 :: .int j :: .ref a :: st)) := by
  subst hp
  have A' := A
  obtain ⟨c, Ar, k1, s1, n1, H, G1⟩ := A'
  refine Go.write (v := .int (nar .char x1)) ha (sfArv A (by decide)) (fun F X1 eT hZ hown => stC X1 F.1 (Z := Z) hZ eT Ar (x := x1) (inb_of s1 hj) (g := mkF X.m pc Ls (.int x1 :: .int j :: .ref a :: st)) rfl rfl (hb F.2.1 hd)) (fun h' W => G h' (Keep.of_wr W) (Arv.set Ar k1 s1 n1 H G1 (fits_nar_char x1) W i hi hl))
theorem g_castoreX {x1 : Int32} {i : Nat} (hd : decode bs pc = .ok (.castore, 1)) (hp : pc + 1 = pc') (hx1 : nar .char x1 = x1) (A : Arv Z h a kA .char z vs d) (ha : Z.heap.size ≤ a) (hj : ¬ j < 0 ∧ j < z) (hi : j.toNatClampNeg = i) (hl : i < vs.length)
    (G : ∀ h', Keep h h' [a] → Arv Z h' a kA .char z (vs.set i (.int x1)) d → Go X R Z a0 EL nw y bs ml rt Q kc ks sf h' k n (mkF X.m pc' Ls st)) : Go X R Z a0 EL nw y bs ml rt Q kc ks sf h k n (mkF X.m pc Ls (.int x1 :: .int j :: .ref a :: st)) :=
  g_castore hd hp A ha hj hi hl fun h' K A' => G h' K (by rw [hx1] at A'; exact A')
theorem g_bastore {x1 : Int32} {i : Nat} (hd : decode bs pc = .ok (.bastore, 1)) (hp : pc + 1 = pc') (A : Arv Z h a kA .byte z vs d) (ha : Z.heap.size ≤ a) (hm : a ∈ sf) (hj : ¬ j < 0 ∧ j < z) (hi : j.toNatClampNeg = i) (hl : i < vs.length)
    (G : ∀ h', Keep h h' [a] → Arv Z h' a kA .byte z (vs.set i (.int (nar .byte x1))) d → Go X R Z a0 EL nw y bs ml rt Q kc ks sf h' k n (mkF X.m pc' Ls st)) : Go X R Z a0 EL nw y bs ml rt Q kc ks sf h k n (mkF X.m pc Ls (.int x1 :: .int j :: .ref a :: st)) := by
  subst hp
  obtain ⟨c, Ar, k1, s1, n1, H, G1⟩ := A
  refine Go.write (v := .int (nar .byte x1)) ha (sfIn hm) (fun F X1 eT hZ hown => stB X1 F.1 (Z := Z) hZ eT Ar (x := x1) (inb_of s1 hj) (g := mkF X.m pc Ls (.int x1 :: .int j :: .ref a :: st)) rfl rfl (hb F.2.1 hd)) (fun h' W => G h' (Keep.of_wr W) (Arv.set Ar k1 s1 n1 H G1 (fits_nar_byte x1) W i hi hl))
theorem g_iastore {x1 : Int32} {i : Nat} (hd : decode bs pc = .ok (.iastore, 1)) (hp : pc + 1 = pc') (A : Arv Z h a kA .int z vs d) (ha : Z.heap.size ≤ a) (hj : ¬ j < 0 ∧ j < z) (hi : j.toNatClampNeg = i) (hl : i < vs.length)
    (G : ∀ h', Keep h h' [a] → Arv Z h' a kA .int z (vs.set i (.int x1)) d → Go X R Z a0 EL nw y bs ml rt Q kc ks sf h' k n (mkF X.m pc' Ls st)) : Go X R Z a0 EL nw y bs ml rt Q kc ks sf h k n (mkF X.m pc Ls (.int x1 :: .int j :: .ref a :: st)) := by
  subst hp
  have A' := A
  obtain ⟨c, Ar, k1, s1, n1, H, G1⟩ := A'
  refine Go.write (v := .int x1) ha (sfArv A (by decide)) (fun F X1 eT hZ hown => stI X1 F.1 (Z := Z) hZ eT Ar (x := x1) (inb_of s1 hj) (g := mkF X.m pc Ls (.int x1 :: .int j :: .ref a :: st)) rfl rfl (hb F.2.1 hd)) (fun h' W => G h' (Keep.of_wr W) (Arv.set Ar k1 s1 n1 H G1 rfl W i hi hl))
theorem g_aastore {C : String} {w : Addr} {i : Nat} (hd : decode bs pc = .ok (.aastore, 1)) (hp : pc + 1 = pc') (A : Arv Z h a kA (.object C) z vs d) (O : Ovr Z kA C) (I : Ins Z h w C true) (ha : Z.heap.size ≤ a) (hj : ¬ j < 0 ∧ j < z) (hi : j.toNatClampNeg = i) (hl : i < vs.length)
    (G : ∀ h', Keep h h' [a] → Arv Z h' a kA (.object C) z (vs.set i (.ref w)) d → Go X R Z a0 EL nw y bs ml rt Q kc ks sf h' k n (mkF X.m pc' Ls st)) : Go X R Z a0 EL nw y bs ml rt Q kc ks sf h k n (mkF X.m pc Ls (.ref w :: .int j :: .ref a :: st)) := by
  subst hp
  have A' := A
  obtain ⟨c, Ar, k1, s1, n1, H, G1⟩ := A'
  refine Go.write (v := .ref w) ha (sfArv A (by intro q; cases q)) (fun F X1 eT hZ hown => stR X1 F.1 (Z := Z) hZ eT Ar (inb_of s1 hj) rfl (Sto.ofV Ar k1 O I) (g := mkF X.m pc Ls (.ref w :: .int j :: .ref a :: st)) rfl rfl (hb F.2.1 hd)) (fun h' W => G h' (Keep.of_wr W) (Arv.set Ar k1 s1 n1 H G1 rfl W i hi hl))
end Arrays
/-! fields -/
theorem g_getfield {O nm d : String} {ix : Nat} {a : Addr} {v : Value} (hd : decode bs pc = .ok (.getfield ix, 3)) (hp : pc + 3 = pc') (w : (Jvm.Cond.fieldLink y.cls ix O nm d).before a0 Z = true) (Fl : Fld Z h a O nm d v) (G : Go X R Z a0 EL nw y bs ml rt Q kc ks sf h k n (mkF X.m pc' Ls (v :: st))) : Go X R Z a0 EL nw y bs ml rt Q kc ks sf h k n (mkF X.m pc Ls (.ref a :: st)) := by
  subst hp
  exact Go.same (fun F X1 eT hZ hown => getF X1 F.1 (Z := Z) hZ hown (host := "") (Or.inl w) Via.refl eT Fl (g := mkF X.m pc Ls (.ref a :: st)) rfl rfl (hb F.2.1 hd)) G
theorem g_getstatic {O nm d : String} {ix : Nat} {v : Value} (hd : decode bs pc = .ok (.getstatic ix, 3)) (hp : pc + 3 = pc') (w : (Jvm.Cond.fieldLink y.cls ix O nm d).before a0 Z = true) (Fl : Sta Z Z.heap O nm d v) (G : Go X R Z a0 EL nw y bs ml rt Q kc ks sf h k n (mkF X.m pc' Ls (v :: st))) : Go X R Z a0 EL nw y bs ml rt Q kc ks sf h k n (mkF X.m pc Ls st) := by
  subst hp
  exact Go.old fun E => Go.same (fun F X1 eT hZ hown => getS X1 F.1 (Z := Z) hZ (host := "") hown w Via.refl eT (Fl.ext E) (g := mkF X.m pc Ls st) rfl (hb F.2.1 hd)) G
theorem g_putfield {O nm d C : String} {ix kk : Nat} {ty : FieldType} {a : Addr} {v old : Value} (hd : decode bs pc = .ok (.putfield ix, 3)) (hp : pc + 3 = pc') (w : (Jvm.Cond.fieldLink y.cls ix O nm d).before a0 Z = true) (Fl : Fld Z h a O nm d old) (E : Exa Z h a C)
    (L : (Jvm.Cond.lays C O nm d).before a0 Z = true ∨ ((Jvm.Cond.laysFinal C O nm d).before a0 Z = true ∧ y.cls = O ∧ y.name = "<init>")) (wi : (Jvm.Cond.instantiable C kk).before a0 Z = true) (hty : parseFieldDescriptor d = some ty) (hn : narrow ty v = v) (hf : fits ty v = true) (ha : Z.heap.size ≤ a) (hm : a ∈ sf)
    (G : ∀ h', Wr h h' a (RoadKit.slotOf Z O nm d) v → Go X R Z a0 EL nw y bs ml rt Q kc ks sf h' k n (mkF X.m pc' Ls st)) : Go X R Z a0 EL nw y bs ml rt Q kc ks sf h k n (mkF X.m pc Ls (v :: .ref a :: st)) := by
  subst hp
  exact Go.write (v := v) ha (sfIn hm) (fun F X1 eT hZ hown => putF X1 F.1 (Z := Z) hZ hown (host := "") (Or.inl w) Via.refl eT Fl E (L.imp id fun q => ⟨q.1, q.2.1, F.2.2.2.2.1.trans q.2.2⟩) wi hty hn hf (g := mkF X.m pc Ls (v :: .ref a :: st)) rfl rfl (hb F.2.1 hd)) G
theorem g_checkcast {K : String} {ix : Nat} {a : Addr} (hd : decode bs pc = .ok (.checkcast ix, 3)) (hp : pc + 3 = pc') (w : (Jvm.Cond.classLink y.cls ix K).before a0 Z = true) (I : Ins Z h a K true) (G : Go X R Z a0 EL nw y bs ml rt Q kc ks sf h k n (mkF X.m pc' Ls (.ref a :: st))) : Go X R Z a0 EL nw y bs ml rt Q kc ks sf h k n (mkF X.m pc Ls (.ref a :: st)) := by
  subst hp
  exact Go.same (fun F X1 eT hZ hown => castY X1 F.1 (Z := Z) hZ hown w eT I (g := mkF X.m pc Ls (.ref a :: st)) rfl rfl (hb F.2.1 hd)) G
theorem g_instanceofY {K : String} {ix : Nat} {a : Addr} (hd : decode bs pc = .ok (.instanceof ix, 3)) (hp : pc + 3 = pc') (w : (Jvm.Cond.classLink y.cls ix K).before a0 Z = true) (I : Ins Z h a K true) (G : Go X R Z a0 EL nw y bs ml rt Q kc ks sf h k n (mkF X.m pc' Ls (.int 1 :: st))) : Go X R Z a0 EL nw y bs ml rt Q kc ks sf h k n (mkF X.m pc Ls (.ref a :: st)) := by
  subst hp
  exact Go.same (fun F X1 eT hZ hown => instY X1 F.1 (Z := Z) hZ hown w eT I (g := mkF X.m pc Ls (.ref a :: st)) rfl rfl (hb F.2.1 hd)) G
/-- Object's constructor -/
theorem g_objinit {ix : Nat} {a : Addr} (hd : decode bs pc = .ok (.invokespecial ix, 3)) (hp : pc + 3 = pc') (w1 : (Jvm.Cond.methodLink y.cls ix Lib.objectInit).before a0 Z = true) (w2 : (Jvm.Cond.instanceMethod Lib.objectInit).before a0 Z = true) (w3 : (Jvm.Cond.code Lib.objectInit ⟨#[0xb1]⟩ 1 none).before a0 Z = true)
    (hz : Ls.size = ml) (hf : Nat.ble 1 R.frames = true) (hl : Nat.ble ((st.map fun v => v.category).sum + 12) R.locals = true) (G : Go X R Z a0 EL nw y bs ml rt Q kc ks sf h k n (mkF X.m pc' Ls st)) : Go X R Z a0 EL nw y bs ml rt Q kc ks sf h k n (mkF X.m pc Ls (.ref a :: st)) := by
  subst hp
  exact Go.same (fun F X1 eT hZ hown => initO X1 F.1 (Z := Z) hZ hown w1 w2 w3 eT (g := mkF X.m pc Ls (.ref a :: st)) rfl (by rw [F.2.2.1]; exact hz) rfl (hb F.2.1 hd) (ble hf) (W := (st.map fun v => v.category).sum) (by show 2 * 0 + _ ≤ _; omega) (ble hl)) G
/-- an array's clone() -/
theorem g_clone {ix cap : Nat} {ad : String} {a : Addr} {kA : ClassId} {ty : FieldType} {z : Int32} {vs : List Value} {d : Value} (hd : decode bs pc = .ok (.invokevirtual ix, 3)) (hp : pc + 3 = pc')
    (w1 : (Jvm.Cond.methodLink y.cls ix ⟨ad, "clone", "()Ljava/lang/Object;"⟩).before a0 Z = true) (w2 : (Jvm.Cond.sameMethod ad "java/lang/Object" "clone" "()Ljava/lang/Object;").before a0 Z = true) (w3 : (Jvm.Cond.native ⟨"java/lang/Object", "clone", "()Ljava/lang/Object;"⟩).before a0 Z = true)
    (w4 : (Jvm.Cond.instanceMethod ⟨"java/lang/Object", "clone", "()Ljava/lang/Object;"⟩).before a0 Z = true) (w5 : (Jvm.Cond.selects ad ⟨ad, "clone", "()Ljava/lang/Object;"⟩ ⟨"java/lang/Object", "clone", "()Ljava/lang/Object;"⟩).before a0 Z = true) (w6 : (Jvm.Cond.castable ad "java/lang/Cloneable").before a0 Z = true)
    (A : Arv Z h a kA ty z vs d) (E : Exa Z h a ad) (hz : Ls.size = ml) (hf : Nat.ble 1 R.frames = true) (hl : Nat.ble ((st.map fun v => v.category).sum + 14) R.locals = true) (hcap : z.toNatClampNeg ≤ cap) (hk : Nat.ble (k + 1) R.cells = true) (hn : Nat.ble (n + cap) R.slots = true)
    (G : ∀ h' b, b = h.size → Ext h h' → Arv Z h' b kA ty z vs d → Exa Z h' b ad → Go X R Z a0 EL nw y bs ml rt Q kc ks (b :: sf) h' (k + 1) (n + cap) (mkF X.m pc' Ls (.ref b :: st))) : Go X R Z a0 EL nw y bs ml rt Q kc ks sf h k n (mkF X.m pc Ls (.ref a :: st)) := fun T S => by
  subst hp
  obtain ⟨F, vm0, L, X1, eT, hS, hZ, hown, hC, hF, hE, hs, hN⟩ := S
  obtain ⟨c, Ar, k1, s1, n1, H, G1⟩ := A
  have hfit : FitC Z c := fitC_of Ar fun i hi v hv => by
    have q := H i hi
    rw [hv] at q
    cases q
    exact G1 i hi
  obtain ⟨T', h', X2, e2, E2, A2, B2, stp⟩ := cloneA X1 F.1 (Z := Z) hZ hown w1 w2 w3 w4 w5 w6 eT Ar E hfit (g := mkF X.m pc Ls (.ref a :: st)) rfl (by rw [F.2.2.1]; exact hz) rfl (hb F.2.1 hd) (ble hf) (W := (st.map fun v => v.category).sum) (cap := cap) (by show 2 * 0 + _ ≤ _; omega) (ble hl) (by rw [s1]; exact hcap) (ble hk) (ble hn)
  have A3 : Arv Z h' h.size kA ty z vs d := ⟨cloneOf c, A2, k1, s1, n1, H, G1⟩
  refine (G h' _ rfl E2 A3 B2 T' ?_).back stp
  exact ⟨F, vm0, _, X2, e2, ⟨hS.1, hS.2.mono E2.1⟩, hZ, hown, hC.trans (CHr.ext E2 hC.1), hF, ext_trans hE E2, fun x hx => by
    rcases List.mem_cons.mp hx with rfl | hx
    · exact ⟨A3.lt, Safe.ext E2 hC.1 (Safe.new (Nat.le_refl _))⟩
    · exact ⟨Nat.lt_of_lt_of_le (hs x hx).1 E2.1, Safe.ext E2 hC.1 (hs x hx).2⟩, hN⟩
/-! a String constant -/
theorem g_ldcS (hnw : nw = false) {text : String} {ix nn : Nat} {vs : List Value} {z : Int32} (hd : decode bs pc = .ok (.ldc ix, 2)) (hp : pc + 2 = pc') (w : (Jvm.Cond.stringLink y.cls ix text).before a0 Z = true) (wS : ∀ a ∈ Bundle.stringAtoms, a.before a0 Z = true) (hm : (y.cls, ix) ∈ EL)
    (ht : (∀ c ∈ text.toList, c.toNat < 256) ∧ text.toList.map (fun c => Value.int (Jvm.Lit.byteI c.toNat.toUInt16)) = vs) (hz : ¬ z < 0) (hl : z.toNatClampNeg = vs.length) (h4 : Nat.ble (4 * text.toList.length) nn = true) (hbig : Nat.ble nn 536870912 = true) (hk : Nat.ble (k + 2) R.cells = true) (hn : Nat.ble (n + (nn + 4)) R.slots = true)
    (G : ∀ h' a b kb, Ext h h' → Exa Z h' a "java/lang/String" → Fld Z h' a "java/lang/String" "coder" "B" (.int 0) → Fld Z h' a "java/lang/String" "value" "[B" (.ref b) → Arv Z h' b kb .byte z vs (.int 0) → (∀ x ∈ sf, x ≠ a ∧ x ≠ b) → Go X R Z a0 EL nw y bs ml rt Q kc ks sf h' (k + 2) (n + (nn + 4)) (mkF X.m pc' Ls (.ref a :: st))) : Go X R Z a0 EL nw y bs ml rt Q kc ks sf h k n (mkF X.m pc Ls st) := fun T S => by
  subst hp
  obtain ⟨F, vm0, L, X1, eT, hS, hZ, hown, hC, hF, hE, hs, hN⟩ := S
  obtain ⟨a, T', h', k1, b, kb, X2, e2, E2, hS2, hk2, hZ2, hown2, A1, A2, A3, A4, l1, l2, hC2, -, hne, q⟩ := ldcCH X1 F.1 (Z := Z) hZ hown w wS eT hS (Nat.le_refl _) F.2.2.2.2.2.2 hm hC.1 ht hz hl (g := mkF X.m pc Ls st) rfl (hb F.2.1 hd) (ble h4) (ble hbig) (ble hk) (ble hn)
  have hs' : ∀ x ∈ sf, x < h'.size ∧ Safe Z EL T'.vm h' x := fun x hx => ⟨Nat.lt_of_lt_of_le (hs x hx).1 E2.1, hC2.safe (hs x hx).1 (hs x hx).2⟩
  exact (G h' a b kb E2 A1 A2 A3 A4 (fun x hx => hne x (hs' x hx).2) T' ⟨F, T'.vm, L, X2, e2, ⟨hS2.1, hS2.2.mono hk2⟩, hZ2, hown2, hC.trans hC2, hF, ext_trans hE E2, hs', fun q => by rw [hnw] at q; cases q⟩).back q
/-! calls -/
/-- whoever pays the call of y on the arguments as', from the heap h: at most kc cells and ks slots made; Q of what comes back -/
def Pay (l : Launch) (R : Room) (y : MethodName) (W : Nat) (as' : Array Value) (Z : State) (a0 : Array Value) (EL : List (String × Nat)) (nw : Bool) (sf : List Addr) (h : Heap) (kc ks : Nat) (Q : Option Value → Heap → Prop) : Prop :=
  ∀ (p : Program) (e : Env) (below : List Frame) (s : State) (args : Array Value) (len : Nat) (vm0 : Vm), Z.Warmed39 vm0 → CHv Z EL vm0 h → Ext Z.heap h → (∀ x ∈ sf, x < h.size ∧ Safe Z EL vm0 h x) → EW Z a0 EL →
    BackS l R p e below (s.setVm vm0) args y len W (fun A a => a = as' ∧ A.U.heap = h ∧ A.cells + kc ≤ R.cells ∧ A.slots + ks ≤ R.slots)
      (fun A _ v B => ∃ L, (Q v B.U.heap ∧ Fr Z.heap.size L ∧ Ext Z.heap B.U.heap) ∧ B.locs = A.locs ++ L ∧ B.cells = A.cells + kc ∧ B.slots = A.slots + ks ∧ CHr Z EL vm0 h B.U.vm B.U.heap ∧ (nw = true → (s.setVm vm0).WarmedH B.U.vm))
/-- the contract of a method: walked from its entry -/
def MetW (ws : List Jvm.Cond) (l : Launch) (y : MethodName) (bs : ByteArray) (ml : Nat) (rt : Option FieldType) (rm : Room) (as' : Array Value) (Z : State) (a0 : Array Value) (EL : List (String × Nat)) (nw : Bool) (sf : List Addr) (h : Heap) (Q : Option Value → Heap → Prop) : Prop :=
  MetFree l y (head1 (Jvm.Cond.code y bs ml rt :: ws) rm) (fun a U => a = as' ∧ Z.Warmed39 U.vm ∧ U.heap = h ∧ CHv Z EL U.vm h ∧ Ext Z.heap h ∧ EW Z a0 EL ∧ ∀ x ∈ sf, x < h.size ∧ Safe Z EL U.vm h x) (fun _ _ _ _ _ => True)
    (fun _ U o U' => ∃ v L, o = .returned v ∧ (Q v U'.heap ∧ Fr Z.heap.size L ∧ Ext Z.heap U'.heap) ∧ CHr Z EL U.vm U.heap U'.vm U'.heap ∧ (nw = true → U.WarmedH U'.vm) ∧ ReturnedEndW U o U' L rm.cells rm.slots)
theorem MetW.of {ws : List Jvm.Cond} {l : Launch} {rm : Room} {as' : Array Value} (hpl : plainFor y = true)
    (H : ∀ X : Cx, X.l = l → Go X rm Z a0 EL nw y bs ml rt Q rm.cells rm.slots sf h 0 0 (entryFrame X.m as' ml)) : MetW ws l y bs ml rt rm as' Z a0 EL nw sf h Q := by
  refine MetFree.of_bodySF hpl hisR ?_
  intro p e s m args below meth c s₁ Bd hml0 hP hK
  obtain ⟨rfl, hZ, rfl, hC, hE, hEL, hs⟩ := hP
  have e0 : s₁.heap = s.heap := by rw [Bd.state]; rfl
  exact H (p, l, e, s, m, args, below, meth, c) rfl s₁ ⟨⟨Bd.exec, Bd.bytes, hml0, Bd.returns, (name_of_methodNamed Bd.named Bd.method).1, Bd.notSynchronized, hEL⟩, s.vm, [], Stand.of_body Bd, e0, (State.WarmedH.refl s).since _, hZ, findClass_of_methodNamed Bd.named, CHr.refl hC, Fr.nil _, hE, hs, fun _ => State.WarmedH.refl s⟩
theorem Pay.of_met {l : Launch} {rm : Room} {as' : Array Value} {W : Nat} (hM : MetW [] l y bs ml rt rm as' Z a0 EL nw sf h Q) (wc : (Jvm.Cond.code y bs ml rt).before a0 Z = true) (wz : (Jvm.Cond.initialized y.cls).before a0 Z = true) (hf : Nat.ble (rm.frames + 1) R.frames = true) (hl : Nat.ble (W + (ml + 11) + rm.locals) R.locals = true) :
    Pay l R y W as' Z a0 EL nw sf h rm.cells rm.slots Q := fun p e below s args len vm0 hZ H hE hs hEL =>
  BackS.of_freeW (bytes := bs) (maxL := ml) (ret := rt) (E := fun _ first o t L k n => k = rm.cells ∧ n = rm.slots ∧ (∃ v, o = .returned v ∧ Q v t.heap ∧ Fr Z.heap.size L ∧ Ext Z.heap t.heap) ∧ CHr Z EL first.vm first.heap t.vm t.heap ∧ (nw = true → first.WarmedH t.vm)) hM (ble hf) (ble hl)
    (fun m meth c A a Y hp => have hU : Z.Warmed39 A.U.vm := wtrans (s := s.setVm vm0) hZ Y.warmed
      ⟨by show (Jvm.Cond.and _ .tt).before a A.U = true; rw [Cond.before_and, mv hU wc]; rfl, mv hU wc, mv hU wz, hp.2.2.1, hp.2.2.2⟩)
    (fun m meth c A a g mk Y hp => ⟨hp.1, wtrans (s := s.setVm vm0) hZ Y.warmed, hp.2.1, (CHv.at Y hZ hEL H).1, hE, hEL, fun x hx => ⟨(hs x hx).1, (CHv.at Y hZ hEL H).safe (hs x hx).1 (hs x hx).2⟩⟩) (fun _ _ _ _ _ _ _ _ _ => trivial)
    (fun _ _ _ _ ⟨v, L, h1, h2, h3, h5, h4⟩ => ⟨L, _, _, h4, rfl, rfl, ⟨v, h1, h2⟩, h3, h5⟩)
    (fun m meth c A a g mk v t L k n Y hp _ _ ⟨e1, e2, ⟨v', e3, e4⟩, e5, e6⟩ => by
      cases e3; subst e1 e2
      refine ⟨L, e4, rfl, rfl, rfl, (CHv.at Y hZ hEL H).trans ?_, fun q => State.WarmedH.trans Y.warmed (e6 q)⟩
      rw [← hp.2.1]; exact e5)
/-- a law of the other texts, that interns nothing: what it writes are cells made since the start, no literal's -/
theorem Pay.of_back {l : Launch} {as' : Array Value} {W : Nat} {Q0 : Option Value → Heap → List Loc → Prop} (wsl : List Addr)
    (hB : ∀ (p : Program) (e : Env) (below : List Frame) (s : State) (args : Array Value) (len : Nat), Z.Warmed39 s.vm → Back l R p e below s args y len W (fun A a => a = as' ∧ A.U.heap = h ∧ A.cells + kc ≤ R.cells ∧ A.slots + ks ≤ R.slots) (fun A _ v B => ∃ L, Q0 v B.U.heap L ∧ B.locs = A.locs ++ L ∧ B.cells = A.cells + kc ∧ B.slots = A.slots + ks))
    (hw : ∀ x ∈ wsl, x ∈ sf ∧ Z.heap.size ≤ x) (hQ : ∀ v h' L, Q0 v h' L → Q v h' ∧ Keep h h' wsl ∧ Fr Z.heap.size L) : Pay l R y W as' Z a0 EL nw sf h kc ks Q := fun p e below s args len vm0 hZ H hE hs hEL m meth c A g ig mk a X1 hg hsize hdg hW hn hp => by
  obtain ⟨v, B, X2, ⟨L, hq, e1, e2, e3⟩, stp⟩ := hB p e below (s.setVm vm0) args len hZ m meth c A g ig mk a X1 hg hsize hdg hW hn hp
  obtain ⟨q1, q2, q3⟩ := hQ _ _ _ hq
  have hC2 : CHr Z EL vm0 h vm0 B.U.heap := CHr.keep q2 (fun x hx => (hs x (hw x hx).1).2) H
  have hsz : A.U.heap.size ≤ B.U.heap.size := by rw [hp.2.1]; exact q2.1
  exact ⟨v, B, X2.retabled X2.warmed.wide, X2.warmed.since _, hsz, ⟨L, ⟨q1, q3, ext_keep hE q2 fun x hx => (hw x hx).2⟩, e1, e2, e3, hC2.trans (CHv.at X2 hZ hEL hC2.1), fun _ => X2.warmed⟩, stp⟩
theorem Pay.pure {l : Launch} {as' : Array Value} {W : Nat} {P : Option Value → Prop}
    (hB : ∀ (p : Program) (e : Env) (below : List Frame) (s : State) (args : Array Value) (len : Nat), Z.Warmed39 s.vm → Back l R p e below s args y len W (fun A a => a = as' ∧ A.U.heap = h ∧ A.cells + 0 ≤ R.cells ∧ A.slots + 0 ≤ R.slots) (fun A _ v B => ∃ L, (P v ∧ L = [] ∧ B.U.heap = h) ∧ B.locs = A.locs ++ L ∧ B.cells = A.cells + 0 ∧ B.slots = A.slots + 0)) : Pay l R y W as' Z a0 EL nw sf h 0 0 (fun v h' => P v ∧ h' = h) :=
  Pay.of_back (Q0 := fun v h' L => P v ∧ L = [] ∧ h' = h) [] hB (fun _ q => nomatch q) fun v h' L q => by
    obtain ⟨q1, rfl, rfl⟩ := q
    exact ⟨⟨q1, rfl⟩, Keep.refl _ _, Fr.nil _⟩
theorem Pay.weak {l : Launch} {as' : Array Value} {W : Nat} {Q' : Option Value → Heap → Prop} (P : Pay l R y W as' Z a0 EL nw sf h kc ks Q) (hQ : ∀ v h', Q v h' → Q' v h') : Pay l R y W as' Z a0 EL nw sf h kc ks Q' := fun p e below s args len vm0 hZ H hE hs hEL m meth c A g ig mk a X1 hg hsize hdg hW hn hp => by
  obtain ⟨v, B, X2, h1, h2, ⟨L, ⟨q1, q2⟩, r⟩, stp⟩ := P p e below s args len vm0 hZ H hE hs hEL m meth c A g ig mk a X1 hg hsize hdg hW hn hp
  exact ⟨v, B, X2, h1, h2, ⟨L, ⟨hQ _ _ q1, q2⟩, r⟩, stp⟩
/-- more room than it needs -/
theorem Pay.up {l : Launch} {as' : Array Value} {W kc' ks' : Nat} (P : Pay l R y W as' Z a0 EL nw sf h kc ks Q) (hk : kc ≤ kc') (hs' : ks ≤ ks') : Pay l R y W as' Z a0 EL nw sf h kc' ks' Q := fun p e below s args len vm0 hZ H hE hs hEL m meth c A g ig mk a X1 hg hsize hdg hW hn hp => by
  obtain ⟨v, B, X2, h1, h2, ⟨L, q, e1, e2, e3, r⟩, stp⟩ := P p e below s args len vm0 hZ H hE hs hEL m meth c A g ig mk a X1 hg hsize hdg hW hn ⟨hp.1, hp.2.1, by have := hp.2.2.1; omega, by have := hp.2.2.2; omega⟩
  exact ⟨v, ⟨B.U, B.locs, A.cells + kc', A.slots + ks'⟩, X2.mono (by rw [e2]; show _ ≤ A.cells + kc'; omega) (by rw [e3]; show _ ≤ A.slots + ks'; omega), h1, h2, ⟨L, q, e1, rfl, rfl, r⟩, stp⟩
/-- behind any call -/
theorem Go.back {vm0 : Vm} {L : List Loc} {kc' ks' : Nat} {Q' : Option Value → Heap → Prop} {v : Option Value} {B : Pt} (F : Fix X Z a0 EL y bs ml rt) (eT : T.heap = h) (hS : X.s.Since vm0 h.size) (hZ : Z.Warmed39 vm0) (hown : vm0.findClass y.cls = some X.m.cls) (hC : CHr Z EL X.s.vm X.s.heap vm0 h) (hF : Fr Z.heap.size L) (hs : ∀ x ∈ sf, x < h.size ∧ Safe Z EL vm0 h x)
    (X2 : Stand X.p X.l X.e R ((X.s.setVm vm0).setVm B.U.vm) X.m X.args X.below X.meth X.c B.U B.locs B.cells B.slots) (hS2 : (X.s.setVm vm0).Since B.U.vm B.U.heap.size) (hle : T.heap.size ≤ B.U.heap.size)
    (hq : ∃ L', (Q' v B.U.heap ∧ Fr Z.heap.size L' ∧ Ext Z.heap B.U.heap) ∧ B.locs = L ++ L' ∧ B.cells = k + kc' ∧ B.slots = n + ks' ∧ CHr Z EL vm0 h B.U.vm B.U.heap ∧ (nw = true → (X.s.setVm vm0).WarmedH B.U.vm)) (hN : nw = true → X.s.WarmedH vm0)
    (G : ∀ v h', Q' v h' → h.size ≤ h'.size → Go X R Z a0 EL nw y bs ml rt Q kc ks sf h' (k + kc') (n + ks') (mkF X.m pc' Ls (v.toList ++ st))) : Done X Z EL nw Q kc ks B.U (mkF X.m pc' Ls (v.toList ++ st)) := by
  subst eT
  obtain ⟨L', ⟨q1, q2, q3⟩, e1, e2, e3, hC2, hN2⟩ := hq
  rw [e1, e2, e3] at X2
  exact G v B.U.heap q1 hle B.U ⟨F, B.U.vm, _, X2, rfl, hS.trans hS2 hle, State.Warmed39.trans (t := X.s.setVm vm0) hZ hS2.1, (hS2.1.alike.findClass _ _).trans hown, hC.trans hC2, hF.app q2, q3, fun x hx => ⟨Nat.lt_of_lt_of_le (hs x hx).1 hle, hC2.safe (hs x hx).1 (hs x hx).2⟩, fun q => State.WarmedH.trans (hN q) (hN2 q)⟩
/-- behind a call that interned nothing: what it made is no literal's -/
theorem Go.backB {vm0 : Vm} {L : List Loc} {kc' ks' : Nat} {Q' : Option Value → Heap → Prop} {v : Option Value} {B : Pt} (wsl : List Addr) (F : Fix X Z a0 EL y bs ml rt) (eT : T.heap = h) (hS : X.s.Since vm0 h.size) (hZ : Z.Warmed39 vm0) (hown : vm0.findClass y.cls = some X.m.cls) (hC : CHr Z EL X.s.vm X.s.heap vm0 h) (hF : Fr Z.heap.size L) (hs : ∀ x ∈ sf, x < h.size ∧ Safe Z EL vm0 h x)
    (X2 : Stand X.p X.l X.e R ((X.s.setVm vm0).setVm B.U.vm) X.m X.args X.below X.meth X.c B.U B.locs B.cells B.slots) (hS2 : (X.s.setVm vm0).Since B.U.vm B.U.heap.size) (hle : T.heap.size ≤ B.U.heap.size)
    (hq : ∃ L', (Q' v B.U.heap ∧ Fr Z.heap.size L' ∧ Ext Z.heap B.U.heap) ∧ B.locs = L ++ L' ∧ B.cells = k + kc' ∧ B.slots = n + ks' ∧ CHr Z EL vm0 h B.U.vm B.U.heap ∧ (true = true → (X.s.setVm vm0).WarmedH B.U.vm)) (hN : nw = true → X.s.WarmedH vm0)
    (hKp : ∀ v h', Q' v h' → Keep h h' wsl) (hws : ∀ x ∈ wsl, x ∈ sf)
    (G : ∀ v h', Q' v h' → h.size ≤ h'.size → ∃ nb : List Addr, (∀ x ∈ nb, h.size ≤ x ∧ x < h'.size) ∧ Go X R Z a0 EL nw y bs ml rt Q kc ks (nb ++ sf) h' (k + kc') (n + ks') (mkF X.m pc' Ls (v.toList ++ st))) : Done X Z EL nw Q kc ks B.U (mkF X.m pc' Ls (v.toList ++ st)) := by
  subst eT
  obtain ⟨L', ⟨q1, q2, q3⟩, e1, e2, e3, hC2, hN2⟩ := hq
  have hW : (X.s.setVm vm0).WarmedH B.U.vm := hN2 rfl
  have hlat := CHv.later (vm := vm0) (vm1 := B.U.vm) (h := T.heap) (h' := T.heap) hZ (show (Wst Z vm0 T.heap).Warmed39 B.U.vm from hW.wide) F.2.2.2.2.2.2 (ext_refl _) (Or.inl hW.interned_eq) hC.1
  have hsl : ∀ x ∈ wsl, Safe Z EL B.U.vm T.heap x := fun x hx bk => by
    have hx' := hs x (hws x hx)
    rcases hlat.2 x bk with q | q
    · exact hx'.2 q
    · exact absurd hx'.1 (Nat.not_lt.mpr q)
  obtain ⟨nb, hnb, G'⟩ := G v B.U.heap q1 hle
  rw [e1, e2, e3] at X2
  refine G' B.U ⟨F, B.U.vm, _, X2, rfl, hS.trans hS2 hle, State.Warmed39.trans (t := X.s.setVm vm0) hZ hS2.1, (hS2.1.alike.findClass _ _).trans hown, hC.trans hC2, hF.app q2, q3, fun x hx => ?_, fun q => State.WarmedH.trans (hN q) hW⟩
  rcases List.mem_append.mp hx with hx | hx
  · exact ⟨(hnb x hx).2, Safe.keep (hKp _ _ q1) hsl hlat.1 (Safe.new (hnb x hx).1)⟩
  · exact ⟨Nat.lt_of_lt_of_le (hs x hx).1 hle, hC2.safe (hs x hx).1 (hs x hx).2⟩
theorem g_invokestatic {ix : Nat} {y' : MethodName} {bs' : ByteArray} {ml' : Nat} {rt' : Option FieldType} {as' : Array Value} {kc' ks' : Nat} {Q' : Option Value → Heap → Prop} (sfc : List Addr) (argsL : List Value) {ps : List FieldType} {r : Option FieldType} (hd : decode bs pc = .ok (.invokestatic ix, 3)) (hp : pc + 3 = pc')
    (w1 : (Jvm.Cond.methodLink y.cls ix y').before a0 Z = true) (w2 : (Jvm.Cond.static y').before a0 Z = true) (w3 : (Jvm.Cond.initialized y'.cls).before a0 Z = true) (w4 : (Jvm.Cond.code y' bs' ml' rt').before a0 Z = true) (hy : y'.cls ≠ "java/lang/invoke/MethodHandle" ∧ y'.cls ≠ "java/lang/invoke/VarHandle")
    (P : Pay X.l R y' (st.map fun v => v.category).sum as' Z a0 EL nw sfc h kc' ks' Q') (hpd : parseMethodDescriptor y'.desc = some ⟨ps, r⟩) (hlen : argsL.length = ps.length) (hargs : argsL.toArray = as') (hz : Ls.size = ml) (hk : Nat.ble (k + kc') R.cells = true) (hn : Nat.ble (n + ks') R.slots = true) (hsf : ∀ x ∈ sfc, x ∈ sf)
    (G : ∀ v h', Q' v h' → h.size ≤ h'.size → Go X R Z a0 EL nw y bs ml rt Q kc ks sf h' (k + kc') (n + ks') (mkF X.m pc' Ls (v.toList ++ st))) : Go X R Z a0 EL nw y bs ml rt Q kc ks sf h k n (mkF X.m pc Ls (argsL.reverse ++ st)) := fun T S => by
  subst hp
  obtain ⟨F, vm0, L, X1, eT, hS, hZ, hown, hC, hF, hE, hs, hN⟩ := S
  obtain ⟨v, vm1, B, -, X2, hS2, hle, hq, stp⟩ := callSS X1 F.1 (y := y') hown (mvT (s := X.s.setVm vm0) hZ w1) (mvT (s := X.s.setVm vm0) hZ w2) (mvT (s := X.s.setVm vm0) hZ w3) (mvT (s := X.s.setVm vm0) hZ w4) hy (P _ _ _ _ _ _ vm0 hZ hC.1 hE (fun x hx => hs x (hsf x hx)) F.2.2.2.2.2.2) (g := mkF X.m pc Ls (argsL.reverse ++ st)) rfl (by rw [F.2.2.1]; exact hz) (argsL := argsL) (rest := st) (lenOf hpd hlen) rfl (by show 2 * 0 + _ ≤ _; omega) (hb F.2.1 hd) (fun _ _ => ⟨hargs, eT, ble hk, ble hn⟩)
  exact (Go.back F eT hS hZ hown hC hF hs X2 hS2 hle hq hN G).back fun t q => stp.trans q
theorem g_invokestaticB (nb : Option Value → List Addr) {ix : Nat} {y' : MethodName} {bs' : ByteArray} {ml' : Nat} {rt' : Option FieldType} {as' : Array Value} {kc' ks' : Nat} {Q' : Option Value → Heap → Prop} (sfc : List Addr) (argsL : List Value) {ps : List FieldType} {r : Option FieldType} (hd : decode bs pc = .ok (.invokestatic ix, 3)) (hp : pc + 3 = pc')
    (w1 : (Jvm.Cond.methodLink y.cls ix y').before a0 Z = true) (w2 : (Jvm.Cond.static y').before a0 Z = true) (w3 : (Jvm.Cond.initialized y'.cls).before a0 Z = true) (w4 : (Jvm.Cond.code y' bs' ml' rt').before a0 Z = true) (hy : y'.cls ≠ "java/lang/invoke/MethodHandle" ∧ y'.cls ≠ "java/lang/invoke/VarHandle")
    (P : Pay X.l R y' (st.map fun v => v.category).sum as' Z a0 EL true sfc h kc' ks' Q') (hE' : ∀ v h', Q' v h' → Ext h h') (hnb : ∀ v h', Q' v h' → ∀ x ∈ nb v, h.size ≤ x ∧ x < h'.size) (hpd : parseMethodDescriptor y'.desc = some ⟨ps, r⟩) (hlen : argsL.length = ps.length) (hargs : argsL.toArray = as') (hz : Ls.size = ml) (hk : Nat.ble (k + kc') R.cells = true) (hn : Nat.ble (n + ks') R.slots = true) (hsf : ∀ x ∈ sfc, x ∈ sf)
    (G : ∀ v h', Q' v h' → h.size ≤ h'.size → Go X R Z a0 EL nw y bs ml rt Q kc ks (nb v ++ sf) h' (k + kc') (n + ks') (mkF X.m pc' Ls (v.toList ++ st))) : Go X R Z a0 EL nw y bs ml rt Q kc ks sf h k n (mkF X.m pc Ls (argsL.reverse ++ st)) := fun T S => by
  subst hp
  obtain ⟨F, vm0, L, X1, eT, hS, hZ, hown, hC, hF, hE, hs, hN⟩ := S
  obtain ⟨v, vm1, B, -, X2, hS2, hle, hq, stp⟩ := callSS X1 F.1 (y := y') hown (mvT (s := X.s.setVm vm0) hZ w1) (mvT (s := X.s.setVm vm0) hZ w2) (mvT (s := X.s.setVm vm0) hZ w3) (mvT (s := X.s.setVm vm0) hZ w4) hy (P _ _ _ _ _ _ vm0 hZ hC.1 hE (fun x hx => hs x (hsf x hx)) F.2.2.2.2.2.2) (g := mkF X.m pc Ls (argsL.reverse ++ st)) rfl (by rw [F.2.2.1]; exact hz) (argsL := argsL) (rest := st) (lenOf hpd hlen) rfl (by show 2 * 0 + _ ≤ _; omega) (hb F.2.1 hd) (fun _ _ => ⟨hargs, eT, ble hk, ble hn⟩)
  refine Done.back (T' := B.U) (g' := mkF X.m (pc + 3) Ls (v.toList ++ st)) (fun t q => stp.trans q) ?_
  subst eT
  obtain ⟨L', ⟨q1, q2, q3⟩, e1, e2, e3, hC2, hN2⟩ := hq
  have hW : (X.s.setVm vm0).WarmedH B.U.vm := hN2 rfl
  have hlat := CHv.later (vm := vm0) (vm1 := B.U.vm) (h := T.heap) (h' := T.heap) hZ (show (Wst Z vm0 T.heap).Warmed39 B.U.vm from hW.wide) F.2.2.2.2.2.2 (ext_refl _) (Or.inl hW.interned_eq) hC.1
  rw [e1, e2, e3] at X2
  refine G v B.U.heap q1 hle B.U ⟨F, B.U.vm, _, X2, rfl, hS.trans hS2 hle, State.Warmed39.trans (t := X.s.setVm vm0) hZ hS2.1, (hS2.1.alike.findClass _ _).trans hown, hC.trans hC2, hF.app q2, q3, fun x hx => ?_, fun q => State.WarmedH.trans (hN q) hW⟩
  rcases List.mem_append.mp hx with hx | hx
  · exact ⟨(hnb _ _ q1 x hx).2, Safe.ext (hE' _ _ q1) hlat.1 (Safe.new (hnb _ _ q1 x hx).1)⟩
  · exact ⟨Nat.lt_of_lt_of_le (hs x hx).1 hle, hC2.safe (hs x hx).1 (hs x hx).2⟩
theorem g_invokespecial {ix : Nat} {y' : MethodName} {bs' : ByteArray} {ml' : Nat} {as' : Array Value} {kc' ks' : Nat} {Q' : Option Value → Heap → Prop} (sfc : List Addr) {a : Addr} (argsL : List Value) {ps : List FieldType} {r : Option FieldType} (hd : decode bs pc = .ok (.invokespecial ix, 3)) (hp : pc + 3 = pc') (hi : y'.name = "<init>")
    (w1 : (Jvm.Cond.methodLink y.cls ix y').before a0 Z = true) (w2 : (Jvm.Cond.instanceMethod y').before a0 Z = true) (w4 : (Jvm.Cond.code y' bs' ml' none).before a0 Z = true) (hy : y'.cls ≠ "java/lang/invoke/MethodHandle" ∧ y'.cls ≠ "java/lang/invoke/VarHandle")
    (P : Pay X.l R y' (st.map fun v => v.category).sum as' Z a0 EL nw sfc h kc' ks' Q') (hpd : parseMethodDescriptor y'.desc = some ⟨ps, r⟩) (hlen : argsL.length = ps.length) (hargs : (Value.ref a :: argsL).toArray = as') (hz : Ls.size = ml) (hk : Nat.ble (k + kc') R.cells = true) (hn : Nat.ble (n + ks') R.slots = true) (hsf : ∀ x ∈ sfc, x ∈ sf)
    (G : ∀ v h', Q' v h' → h.size ≤ h'.size → Go X R Z a0 EL nw y bs ml rt Q kc ks sf h' (k + kc') (n + ks') (mkF X.m pc' Ls (v.toList ++ st))) : Go X R Z a0 EL nw y bs ml rt Q kc ks sf h k n (mkF X.m pc Ls (argsL.reverse ++ .ref a :: st)) := fun T S => by
  subst hp
  obtain ⟨F, vm0, L, X1, eT, hS, hZ, hown, hC, hF, hE, hs, hN⟩ := S
  obtain ⟨v, vm1, B, -, X2, hS2, hle, hq, stp⟩ := X1.specialBackS F.1 (y := y') hi hown (mvT (s := X.s.setVm vm0) hZ w1) (mvT (s := X.s.setVm vm0) hZ w2) (mvT (s := X.s.setVm vm0) hZ w4) hy (P _ _ _ _ _ _ vm0 hZ hC.1 hE (fun x hx => hs x (hsf x hx)) F.2.2.2.2.2.2) (g := mkF X.m pc Ls (argsL.reverse ++ .ref a :: st)) rfl (by rw [F.2.2.1]; exact hz) (Steps.refl _) (a := a) (argsL := argsL) (rest := st) (lenOf hpd hlen) rfl (by show 2 * 0 + _ ≤ _; omega) (hb F.2.1 hd) (fun _ _ => ⟨hargs, eT, ble hk, ble hn⟩)
  exact (Go.back F eT hS hZ hown hC hF hs X2 hS2 hle hq hN G).back fun t q => stp.trans q
def NF (Z : State) (y : MethodName) : Prop := ∀ s : State, Z.Warmed39 s.vm → NotFace s y
theorem g_invokevirtualN {ix : Nat} {C : String} {y' z' : MethodName} {as' : Array Value} {kc' ks' : Nat} {Q' : Option Value → Heap → Prop} (sfc : List Addr) {a : Addr} (argsL : List Value) {ps : List FieldType} {r : Option FieldType} (hd : decode bs pc = .ok (.invokevirtual ix, 3)) (hp : pc + 3 = pc')
    (w1 : (Jvm.Cond.methodLink y.cls ix y').before a0 Z = true) (w2 : (Jvm.Cond.declares y').before a0 Z = true) (w3 : (Jvm.Cond.selects C y' z').before a0 Z = true) (w4 : (Jvm.Cond.instanceMethod z').before a0 Z = true) (hy : y'.cls ≠ "java/lang/invoke/MethodHandle" ∧ y'.cls ≠ "java/lang/invoke/VarHandle")
    (hnf : NF Z y') (E : Exa Z h a C) (P : Pay X.l R z' (st.map fun v => v.category).sum as' Z a0 EL nw sfc h kc' ks' Q') (hpd : parseMethodDescriptor y'.desc = some ⟨ps, r⟩) (hlen : argsL.length = ps.length) (hargs : (Value.ref a :: argsL).toArray = as') (hz : Ls.size = ml) (hk : Nat.ble (k + kc') R.cells = true) (hn : Nat.ble (n + ks') R.slots = true) (hsf : ∀ x ∈ sfc, x ∈ sf)
    (G : ∀ v h', Q' v h' → h.size ≤ h'.size → Go X R Z a0 EL nw y bs ml rt Q kc ks sf h' (k + kc') (n + ks') (mkF X.m pc' Ls (v.toList ++ st))) : Go X R Z a0 EL nw y bs ml rt Q kc ks sf h k n (mkF X.m pc Ls (argsL.reverse ++ .ref a :: st)) := fun T S => by
  subst hp
  obtain ⟨F, vm0, L, X1, eT, hS, hZ, hown, hC, hF, hE, hs, hN⟩ := S
  obtain ⟨cq, kq, qa, qb, qc⟩ := isOf (s := X.s.setVm vm0) hZ eT E
  obtain ⟨v, vm1, B, -, X2, hS2, hle, hq, stp⟩ := X1.virtualBackS F.1 (y := y') (z := z') hown (mvT (s := X.s.setVm vm0) hZ w1) (mvT (s := X.s.setVm vm0) hZ w2) (hnf (X.s.setVm vm0) hZ) (mvT (s := X.s.setVm vm0) hZ w3) (mvT (s := X.s.setVm vm0) hZ w4) hy (P _ _ _ _ _ _ vm0 hZ hC.1 hE (fun x hx => hs x (hsf x hx)) F.2.2.2.2.2.2) qa qc (g := mkF X.m pc Ls (argsL.reverse ++ .ref a :: st)) rfl (by rw [F.2.2.1]; exact hz) (Steps.refl _) (argsL := argsL) (rest := st) (lenOf hpd hlen) rfl (by show 2 * 0 + _ ≤ _; omega) (hb F.2.1 hd) (fun _ _ => ⟨hargs, eT, ble hk, ble hn⟩)
  exact (Go.back F eT hS hZ hown hC hF hs X2 hS2 hle hq hN G).back fun t q => stp.trans q
theorem g_invokeinterface {ix cnt : Nat} {C : String} {y' z' : MethodName} {as' : Array Value} {kc' ks' : Nat} {Q' : Option Value → Heap → Prop} (sfc : List Addr) {a : Addr} (argsL : List Value) {ps : List FieldType} {r : Option FieldType} (hd : decode bs pc = .ok (.invokeinterface ix cnt, 5)) (hp : pc + 5 = pc')
    (w1 : (Jvm.Cond.methodLink y.cls ix y').before a0 Z = true) (w2 : (Jvm.Cond.declares y').before a0 Z = true) (w3 : (Jvm.Cond.selects C y' z').before a0 Z = true) (w4 : (Jvm.Cond.instanceMethod z').before a0 Z = true) (w5 : (Jvm.Cond.interfaceMethod y'.cls y'.cls y'.name y'.desc).before a0 Z = true) (d5 : ((Jvm.Cond.interfaceMethod y'.cls y'.cls y'.name y'.desc).onTables && (Jvm.Cond.interfaceMethod y'.cls y'.cls y'.name y'.desc).keepsFace) = true) (w6 : (Jvm.Cond.publicMethod z').before a0 Z = true) (w7 : (Jvm.Cond.unhidden C y'.name y'.desc).before a0 Z = true) (w8 : (Jvm.Cond.castable C y'.cls).before a0 Z = true) (hy : y'.cls ≠ "java/lang/invoke/MethodHandle" ∧ y'.cls ≠ "java/lang/invoke/VarHandle")
    (E : Exa Z h a C) (P : Pay X.l R z' (st.map fun v => v.category).sum as' Z a0 EL nw sfc h kc' ks' Q') (hpd : parseMethodDescriptor y'.desc = some ⟨ps, r⟩) (hlen : argsL.length = ps.length) (hargs : (Value.ref a :: argsL).toArray = as') (hz : Ls.size = ml) (hk : Nat.ble (k + kc') R.cells = true) (hn : Nat.ble (n + ks') R.slots = true) (hsf : ∀ x ∈ sfc, x ∈ sf)
    (G : ∀ v h', Q' v h' → h.size ≤ h'.size → Go X R Z a0 EL nw y bs ml rt Q kc ks sf h' (k + kc') (n + ks') (mkF X.m pc' Ls (v.toList ++ st))) : Go X R Z a0 EL nw y bs ml rt Q kc ks sf h k n (mkF X.m pc Ls (argsL.reverse ++ .ref a :: st)) := fun T S => by
  subst hp
  obtain ⟨F, vm0, L, X1, eT, hS, hZ, hown, hC, hF, hE, hs, hN⟩ := S
  obtain ⟨cq, kq, qa, qb, qc⟩ := isOf (s := X.s.setVm vm0) hZ eT E
  obtain ⟨v, vm1, B, -, X2, hS2, hle, hq, stp⟩ := X1.interfaceBackS F.1 (xi := y') (y := z') hown (mvT (s := X.s.setVm vm0) hZ w1) (mvT (s := X.s.setVm vm0) hZ w2) (mvT (s := X.s.setVm vm0) hZ w5 d5) (mvT (s := X.s.setVm vm0) hZ w3) (mvT (s := X.s.setVm vm0) hZ w4) (mvT (s := X.s.setVm vm0) hZ w6) (mvT (s := X.s.setVm vm0) hZ w7) (mvT (s := X.s.setVm vm0) hZ w8) hy (P _ _ _ _ _ _ vm0 hZ hC.1 hE (fun x hx => hs x (hsf x hx)) F.2.2.2.2.2.2) qa qb qc (g := mkF X.m pc Ls (argsL.reverse ++ .ref a :: st)) rfl (by rw [F.2.2.1]; exact hz) (Steps.refl _) (argsL := argsL) (rest := st) (lenOf hpd hlen) rfl (by show 2 * 0 + _ ≤ _; omega) (hb F.2.1 hd) (fun _ _ => ⟨hargs, eT, ble hk, ble hn⟩)
  exact (Go.back F eT hS hZ hown hC hF hs X2 hS2 hle hq hN G).back fun t q => stp.trans q
theorem NF.sel {C : String} {y' : MethodName} (w3 : (Jvm.Cond.selects C y' y').before a0 Z = true) : NF Z y' := fun s hZ => notFace_of_selects (args := #[]) (mvT (s := s) hZ w3)
theorem g_invokevirtual {ix : Nat} {C : String} {y' : MethodName} {as' : Array Value} {kc' ks' : Nat} {Q' : Option Value → Heap → Prop} (sfc : List Addr) {a : Addr} (argsL : List Value) {ps : List FieldType} {r : Option FieldType} (hd : decode bs pc = .ok (.invokevirtual ix, 3)) (hp : pc + 3 = pc')
    (w1 : (Jvm.Cond.methodLink y.cls ix y').before a0 Z = true) (w2 : (Jvm.Cond.declares y').before a0 Z = true) (w3 : (Jvm.Cond.selects C y' y').before a0 Z = true) (w4 : (Jvm.Cond.instanceMethod y').before a0 Z = true) (hy : y'.cls ≠ "java/lang/invoke/MethodHandle" ∧ y'.cls ≠ "java/lang/invoke/VarHandle")
    (E : Exa Z h a C) (P : Pay X.l R y' (st.map fun v => v.category).sum as' Z a0 EL nw sfc h kc' ks' Q') (hpd : parseMethodDescriptor y'.desc = some ⟨ps, r⟩) (hlen : argsL.length = ps.length) (hargs : (Value.ref a :: argsL).toArray = as') (hz : Ls.size = ml) (hk : Nat.ble (k + kc') R.cells = true) (hn : Nat.ble (n + ks') R.slots = true) (hsf : ∀ x ∈ sfc, x ∈ sf)
    (G : ∀ v h', Q' v h' → h.size ≤ h'.size → Go X R Z a0 EL nw y bs ml rt Q kc ks sf h' (k + kc') (n + ks') (mkF X.m pc' Ls (v.toList ++ st))) : Go X R Z a0 EL nw y bs ml rt Q kc ks sf h k n (mkF X.m pc Ls (argsL.reverse ++ .ref a :: st)) :=
  g_invokevirtualN sfc argsL hd hp w1 w2 w3 w4 hy (NF.sel w3) E P hpd hlen hargs hz hk hn hsf G
theorem g_staticB (wsl : List Addr) {ix : Nat} {y' : MethodName} {bs' : ByteArray} {ml' : Nat} {rt' : Option FieldType} {as' : Array Value} {kc' ks' : Nat} {Q' : Option Value → Heap → Prop} (sfc : List Addr) (argsL : List Value) {ps : List FieldType} {r : Option FieldType} (hd : decode bs pc = .ok (.invokestatic ix, 3)) (hp : pc + 3 = pc')
    (w1 : (Jvm.Cond.methodLink y.cls ix y').before a0 Z = true) (w2 : (Jvm.Cond.static y').before a0 Z = true) (w3 : (Jvm.Cond.initialized y'.cls).before a0 Z = true) (w4 : (Jvm.Cond.code y' bs' ml' rt').before a0 Z = true) (hy : y'.cls ≠ "java/lang/invoke/MethodHandle" ∧ y'.cls ≠ "java/lang/invoke/VarHandle")
    (P : Pay X.l R y' (st.map fun v => v.category).sum as' Z a0 EL true sfc h kc' ks' Q') (hKp : ∀ v h', Q' v h' → Keep h h' wsl) (hws : ∀ x ∈ wsl, x ∈ sf) (hpd : parseMethodDescriptor y'.desc = some ⟨ps, r⟩) (hlen : argsL.length = ps.length) (hargs : argsL.toArray = as') (hz : Ls.size = ml) (hk : Nat.ble (k + kc') R.cells = true) (hn : Nat.ble (n + ks') R.slots = true) (hsf : ∀ x ∈ sfc, x ∈ sf)
    (G : ∀ v h', Q' v h' → h.size ≤ h'.size → ∃ nb : List Addr, (∀ x ∈ nb, h.size ≤ x ∧ x < h'.size) ∧ Go X R Z a0 EL nw y bs ml rt Q kc ks (nb ++ sf) h' (k + kc') (n + ks') (mkF X.m pc' Ls (v.toList ++ st))) : Go X R Z a0 EL nw y bs ml rt Q kc ks sf h k n (mkF X.m pc Ls (argsL.reverse ++ st)) := fun T S => by
  subst hp
  obtain ⟨F, vm0, L, X1, eT, hS, hZ, hown, hC, hF, hE, hs, hN⟩ := S
  obtain ⟨v, vm1, B, -, X2, hS2, hle, hq, stp⟩ := callSS X1 F.1 (y := y') hown (mvT (s := X.s.setVm vm0) hZ w1) (mvT (s := X.s.setVm vm0) hZ w2) (mvT (s := X.s.setVm vm0) hZ w3) (mvT (s := X.s.setVm vm0) hZ w4) hy (P _ _ _ _ _ _ vm0 hZ hC.1 hE (fun x hx => hs x (hsf x hx)) F.2.2.2.2.2.2) (g := mkF X.m pc Ls (argsL.reverse ++ st)) rfl (by rw [F.2.2.1]; exact hz) (argsL := argsL) (rest := st) (lenOf hpd hlen) rfl (by show 2 * 0 + _ ≤ _; omega) (hb F.2.1 hd) (fun _ _ => ⟨hargs, eT, ble hk, ble hn⟩)
  exact (Go.backB wsl F eT hS hZ hown hC hF hs X2 hS2 hle hq hN hKp hws G).back fun t q => stp.trans q
theorem g_specialB (wsl : List Addr) {ix : Nat} {y' : MethodName} {bs' : ByteArray} {ml' : Nat} {as' : Array Value} {kc' ks' : Nat} {Q' : Option Value → Heap → Prop} (sfc : List Addr) {a : Addr} (argsL : List Value) {ps : List FieldType} {r : Option FieldType} (hd : decode bs pc = .ok (.invokespecial ix, 3)) (hp : pc + 3 = pc') (hi : y'.name = "<init>")
    (w1 : (Jvm.Cond.methodLink y.cls ix y').before a0 Z = true) (w2 : (Jvm.Cond.instanceMethod y').before a0 Z = true) (w4 : (Jvm.Cond.code y' bs' ml' none).before a0 Z = true) (hy : y'.cls ≠ "java/lang/invoke/MethodHandle" ∧ y'.cls ≠ "java/lang/invoke/VarHandle")
    (P : Pay X.l R y' (st.map fun v => v.category).sum as' Z a0 EL true sfc h kc' ks' Q') (hKp : ∀ v h', Q' v h' → Keep h h' wsl) (hws : ∀ x ∈ wsl, x ∈ sf) (hpd : parseMethodDescriptor y'.desc = some ⟨ps, r⟩) (hlen : argsL.length = ps.length) (hargs : (Value.ref a :: argsL).toArray = as') (hz : Ls.size = ml) (hk : Nat.ble (k + kc') R.cells = true) (hn : Nat.ble (n + ks') R.slots = true) (hsf : ∀ x ∈ sfc, x ∈ sf)
    (G : ∀ v h', Q' v h' → h.size ≤ h'.size → ∃ nb : List Addr, (∀ x ∈ nb, h.size ≤ x ∧ x < h'.size) ∧ Go X R Z a0 EL nw y bs ml rt Q kc ks (nb ++ sf) h' (k + kc') (n + ks') (mkF X.m pc' Ls (v.toList ++ st))) : Go X R Z a0 EL nw y bs ml rt Q kc ks sf h k n (mkF X.m pc Ls (argsL.reverse ++ .ref a :: st)) := fun T S => by
  subst hp
  obtain ⟨F, vm0, L, X1, eT, hS, hZ, hown, hC, hF, hE, hs, hN⟩ := S
  obtain ⟨v, vm1, B, -, X2, hS2, hle, hq, stp⟩ := X1.specialBackS F.1 (y := y') hi hown (mvT (s := X.s.setVm vm0) hZ w1) (mvT (s := X.s.setVm vm0) hZ w2) (mvT (s := X.s.setVm vm0) hZ w4) hy (P _ _ _ _ _ _ vm0 hZ hC.1 hE (fun x hx => hs x (hsf x hx)) F.2.2.2.2.2.2) (g := mkF X.m pc Ls (argsL.reverse ++ .ref a :: st)) rfl (by rw [F.2.2.1]; exact hz) (Steps.refl _) (a := a) (argsL := argsL) (rest := st) (lenOf hpd hlen) rfl (by show 2 * 0 + _ ≤ _; omega) (hb F.2.1 hd) (fun _ _ => ⟨hargs, eT, ble hk, ble hn⟩)
  exact (Go.backB wsl F eT hS hZ hown hC hF hs X2 hS2 hle hq hN hKp hws G).back fun t q => stp.trans q
theorem g_virtualB (wsl : List Addr) {ix : Nat} {C : String} {y' z' : MethodName} {as' : Array Value} {kc' ks' : Nat} {Q' : Option Value → Heap → Prop} (sfc : List Addr) {a : Addr} (argsL : List Value) {ps : List FieldType} {r : Option FieldType} (hd : decode bs pc = .ok (.invokevirtual ix, 3)) (hp : pc + 3 = pc')
    (w1 : (Jvm.Cond.methodLink y.cls ix y').before a0 Z = true) (w2 : (Jvm.Cond.declares y').before a0 Z = true) (w3 : (Jvm.Cond.selects C y' z').before a0 Z = true) (w4 : (Jvm.Cond.instanceMethod z').before a0 Z = true) (hy : y'.cls ≠ "java/lang/invoke/MethodHandle" ∧ y'.cls ≠ "java/lang/invoke/VarHandle")
    (hnf : NF Z y') (E : Exa Z h a C) (P : Pay X.l R z' (st.map fun v => v.category).sum as' Z a0 EL true sfc h kc' ks' Q') (hKp : ∀ v h', Q' v h' → Keep h h' wsl) (hws : ∀ x ∈ wsl, x ∈ sf) (hpd : parseMethodDescriptor y'.desc = some ⟨ps, r⟩) (hlen : argsL.length = ps.length) (hargs : (Value.ref a :: argsL).toArray = as') (hz : Ls.size = ml) (hk : Nat.ble (k + kc') R.cells = true) (hn : Nat.ble (n + ks') R.slots = true) (hsf : ∀ x ∈ sfc, x ∈ sf)
    (G : ∀ v h', Q' v h' → h.size ≤ h'.size → ∃ nb : List Addr, (∀ x ∈ nb, h.size ≤ x ∧ x < h'.size) ∧ Go X R Z a0 EL nw y bs ml rt Q kc ks (nb ++ sf) h' (k + kc') (n + ks') (mkF X.m pc' Ls (v.toList ++ st))) : Go X R Z a0 EL nw y bs ml rt Q kc ks sf h k n (mkF X.m pc Ls (argsL.reverse ++ .ref a :: st)) := fun T S => by
  subst hp
  obtain ⟨F, vm0, L, X1, eT, hS, hZ, hown, hC, hF, hE, hs, hN⟩ := S
  obtain ⟨cq, kq, qa, qb, qc⟩ := isOf (s := X.s.setVm vm0) hZ eT E
  obtain ⟨v, vm1, B, -, X2, hS2, hle, hq, stp⟩ := X1.virtualBackS F.1 (y := y') (z := z') hown (mvT (s := X.s.setVm vm0) hZ w1) (mvT (s := X.s.setVm vm0) hZ w2) (hnf (X.s.setVm vm0) hZ) (mvT (s := X.s.setVm vm0) hZ w3) (mvT (s := X.s.setVm vm0) hZ w4) hy (P _ _ _ _ _ _ vm0 hZ hC.1 hE (fun x hx => hs x (hsf x hx)) F.2.2.2.2.2.2) qa qc (g := mkF X.m pc Ls (argsL.reverse ++ .ref a :: st)) rfl (by rw [F.2.2.1]; exact hz) (Steps.refl _) (argsL := argsL) (rest := st) (lenOf hpd hlen) rfl (by show 2 * 0 + _ ≤ _; omega) (hb F.2.1 hd) (fun _ _ => ⟨hargs, eT, ble hk, ble hn⟩)
  exact (Go.backB wsl F eT hS hZ hown hC hF hs X2 hS2 hle hq hN hKp hws G).back fun t q => stp.trans q
theorem g_private {ix : Nat} {C : String} {y' : MethodName} {bs' : ByteArray} {ml' : Nat} {rt' : Option FieldType} {as' : Array Value} {kc' ks' : Nat} {Q' : Option Value → Heap → Prop} (sfc : List Addr) {a : Addr} (argsL : List Value) {ps : List FieldType} {r : Option FieldType} (hd : decode bs pc = .ok (.invokevirtual ix, 3)) (hp : pc + 3 = pc')
    (w1 : (Jvm.Cond.methodLink y.cls ix y').before a0 Z = true) (w2 : (Jvm.Cond.privateMethod y').before a0 Z = true) (w3 : (Jvm.Cond.selects C y' y').before a0 Z = true) (w4 : (Jvm.Cond.instanceMethod y').before a0 Z = true) (hy : y'.cls ≠ "java/lang/invoke/MethodHandle" ∧ y'.cls ≠ "java/lang/invoke/VarHandle")
    (w5 : (Jvm.Cond.code y' bs' ml' rt').before a0 Z = true) (E : Exa Z h a C) (P : Pay X.l R y' (st.map fun v => v.category).sum as' Z a0 EL nw sfc h kc' ks' Q') (hpd : parseMethodDescriptor y'.desc = some ⟨ps, r⟩) (hlen : argsL.length = ps.length) (hargs : (Value.ref a :: argsL).toArray = as') (hz : Ls.size = ml) (hk : Nat.ble (k + kc') R.cells = true) (hn : Nat.ble (n + ks') R.slots = true) (hsf : ∀ x ∈ sfc, x ∈ sf)
    (G : ∀ v h', Q' v h' → h.size ≤ h'.size → Go X R Z a0 EL nw y bs ml rt Q kc ks sf h' (k + kc') (n + ks') (mkF X.m pc' Ls (v.toList ++ st))) : Go X R Z a0 EL nw y bs ml rt Q kc ks sf h k n (mkF X.m pc Ls (argsL.reverse ++ .ref a :: st)) := fun T S => by
  subst hp
  obtain ⟨F, vm0, L, X1, eT, hS, hZ, hown, hC, hF, hE, hs, hN⟩ := S
  have hsel3 := mvT (s := X.s.setVm vm0) (args := X.args) hZ w3
  have hpr : (X.s.setVm vm0).PrivateAt y' := Cond.privateMethod_at (args := X.args) (mvP (s := X.s.setVm vm0) hZ w2)
  obtain ⟨c2, r2, m2, -, -, q3, -, kP, hkP, hkPi⟩ := Cond.selects_spec hsel3
  have hself := selects_self_of_private (s := X.s.setVm vm0) (args := X.args) (findClass_of_methodNamed q3) hkP hkPi hpr (mvT (s := X.s.setVm vm0) hZ w4) hy
  obtain ⟨cell, hcell, hobj⟩ := E.cell
  obtain ⟨v, vm1, B, -, X2, hS2, hle, hq, stp⟩ := X1.privateBackS F.1 (y := y') hown (mvT (s := X.s.setVm vm0) hZ w1) (mvT (s := X.s.setVm vm0) hZ w4) hself hpr (mvT (s := X.s.setVm vm0) hZ w5) hy (P _ _ _ _ _ _ vm0 hZ hC.1 hE (fun x hx => hs x (hsf x hx)) F.2.2.2.2.2.2) (g := mkF X.m pc Ls (argsL.reverse ++ .ref a :: st)) rfl (by rw [F.2.2.1]; exact hz) (Steps.refl _) (a := a) (cell := cell) (by rw [eT]; exact hcell) hobj (argsL := argsL) (rest := st) (lenOf hpd hlen) rfl (by show 2 * 0 + _ ≤ _; omega) (hb F.2.1 hd) (fun _ _ => ⟨hargs, eT, ble hk, ble hn⟩)
  exact (Go.back F eT hS hZ hown hC hF hs X2 hS2 hle hq hN G).back fun t q => stp.trans q
theorem g_privateB (wsl : List Addr) {ix : Nat} {C : String} {y' : MethodName} {bs' : ByteArray} {ml' : Nat} {rt' : Option FieldType} {as' : Array Value} {kc' ks' : Nat} {Q' : Option Value → Heap → Prop} (sfc : List Addr) {a : Addr} (argsL : List Value) {ps : List FieldType} {r : Option FieldType} (hd : decode bs pc = .ok (.invokevirtual ix, 3)) (hp : pc + 3 = pc')
    (w1 : (Jvm.Cond.methodLink y.cls ix y').before a0 Z = true) (w2 : (Jvm.Cond.privateMethod y').before a0 Z = true) (w3 : (Jvm.Cond.selects C y' y').before a0 Z = true) (w4 : (Jvm.Cond.instanceMethod y').before a0 Z = true) (hy : y'.cls ≠ "java/lang/invoke/MethodHandle" ∧ y'.cls ≠ "java/lang/invoke/VarHandle")
    (w5 : (Jvm.Cond.code y' bs' ml' rt').before a0 Z = true) (E : Exa Z h a C) (P : Pay X.l R y' (st.map fun v => v.category).sum as' Z a0 EL true sfc h kc' ks' Q') (hKp : ∀ v h', Q' v h' → Keep h h' wsl) (hws : ∀ x ∈ wsl, x ∈ sf) (hpd : parseMethodDescriptor y'.desc = some ⟨ps, r⟩) (hlen : argsL.length = ps.length) (hargs : (Value.ref a :: argsL).toArray = as') (hz : Ls.size = ml) (hk : Nat.ble (k + kc') R.cells = true) (hn : Nat.ble (n + ks') R.slots = true) (hsf : ∀ x ∈ sfc, x ∈ sf)
    (G : ∀ v h', Q' v h' → h.size ≤ h'.size → ∃ nb : List Addr, (∀ x ∈ nb, h.size ≤ x ∧ x < h'.size) ∧ Go X R Z a0 EL nw y bs ml rt Q kc ks (nb ++ sf) h' (k + kc') (n + ks') (mkF X.m pc' Ls (v.toList ++ st))) : Go X R Z a0 EL nw y bs ml rt Q kc ks sf h k n (mkF X.m pc Ls (argsL.reverse ++ .ref a :: st)) := fun T S => by
  subst hp
  obtain ⟨F, vm0, L, X1, eT, hS, hZ, hown, hC, hF, hE, hs, hN⟩ := S
  have hsel3 := mvT (s := X.s.setVm vm0) (args := X.args) hZ w3
  have hpr : (X.s.setVm vm0).PrivateAt y' := Cond.privateMethod_at (args := X.args) (mvP (s := X.s.setVm vm0) hZ w2)
  obtain ⟨c2, r2, m2, -, -, q3, -, kP, hkP, hkPi⟩ := Cond.selects_spec hsel3
  have hself := selects_self_of_private (s := X.s.setVm vm0) (args := X.args) (findClass_of_methodNamed q3) hkP hkPi hpr (mvT (s := X.s.setVm vm0) hZ w4) hy
  obtain ⟨cell, hcell, hobj⟩ := E.cell
  obtain ⟨v, vm1, B, -, X2, hS2, hle, hq, stp⟩ := X1.privateBackS F.1 (y := y') hown (mvT (s := X.s.setVm vm0) hZ w1) (mvT (s := X.s.setVm vm0) hZ w4) hself hpr (mvT (s := X.s.setVm vm0) hZ w5) hy (P _ _ _ _ _ _ vm0 hZ hC.1 hE (fun x hx => hs x (hsf x hx)) F.2.2.2.2.2.2) (g := mkF X.m pc Ls (argsL.reverse ++ .ref a :: st)) rfl (by rw [F.2.2.1]; exact hz) (Steps.refl _) (a := a) (cell := cell) (by rw [eT]; exact hcell) hobj (argsL := argsL) (rest := st) (lenOf hpd hlen) rfl (by show 2 * 0 + _ ≤ _; omega) (hb F.2.1 hd) (fun _ _ => ⟨hargs, eT, ble hk, ble hn⟩)
  exact (Go.backB wsl F eT hS hZ hown hC hF hs X2 hS2 hle hq hN hKp hws G).back fun t q => stp.trans q
/-- the class is there and no interface -/
def NI (Z : State) (C : String) : Prop := ∃ (c : ClassId) (k : Class), Z.vm.findClass C = some c ∧ Z.vm.classes[c]? = some k ∧ k.isInterface = false
theorem NI.sel {C : String} {y1 y2 : MethodName} (w : (Jvm.Cond.selects C y1 y2).before a0 Z = true) : NI Z y2.cls := by
  obtain ⟨c2, r2, m2, -, -, q3, -, kP, hkP, hkPi⟩ := Cond.selects_spec w
  exact ⟨m2.cls, kP, findClass_of_methodNamed q3, hkP, hkPi⟩
theorem sameM_self {y' : MethodName} (w : (Jvm.Cond.instanceMethod y').before a0 Z = true) (hy : y'.cls ≠ "java/lang/invoke/MethodHandle" ∧ y'.cls ≠ "java/lang/invoke/VarHandle") (hni : NI Z y'.cls) : (Jvm.Cond.sameMethod y'.cls y'.cls y'.name y'.desc).before a0 Z = true := by
  obtain ⟨mk, methM, hnamed, -, -, -⟩ := Cond.instanceMethod_spec w
  have hf := State.methodFound?_of_named hnamed hy
  obtain ⟨c, k, q1, q2, q3⟩ := hni
  have hnamed' : Z.methodNamed? { cls := y'.cls, name := y'.name, desc := y'.desc } = some mk := hnamed
  simp [Cond.before, Cond.holds, Cond.value, hf, hnamed', q1, q2, q3]
theorem g_super {ix : Nat} {K : String} {rt' : Option FieldType} {y' : MethodName} {bs' : ByteArray} {ml' : Nat} {as' : Array Value} {kc' ks' : Nat} {Q' : Option Value → Heap → Prop} (sfc : List Addr) {a : Addr} (argsL : List Value) {ps : List FieldType} {r : Option FieldType} (hd : decode bs pc = .ok (.invokespecial ix, 3)) (hp : pc + 3 = pc') (hi : y'.name ≠ "<init>")
    (w1 : (Jvm.Cond.methodLink y.cls ix y').before a0 Z = true) (w2 : (Jvm.Cond.instanceMethod y').before a0 Z = true) (w3 : (Jvm.Cond.superclass y.cls y'.cls).before a0 Z = true) (hni : NI Z y'.cls) (I : Ins Z h a K true) (w4 : (Jvm.Cond.code y' bs' ml' rt').before a0 Z = true) (hy : y'.cls ≠ "java/lang/invoke/MethodHandle" ∧ y'.cls ≠ "java/lang/invoke/VarHandle")
    (P : Pay X.l R y' (st.map fun v => v.category).sum as' Z a0 EL nw sfc h kc' ks' Q') (hpd : parseMethodDescriptor y'.desc = some ⟨ps, r⟩) (hlen : argsL.length = ps.length) (hargs : (Value.ref a :: argsL).toArray = as') (hz : Ls.size = ml) (hk : Nat.ble (k + kc') R.cells = true) (hn : Nat.ble (n + ks') R.slots = true) (hsf : ∀ x ∈ sfc, x ∈ sf)
    (G : ∀ v h', Q' v h' → h.size ≤ h'.size → Go X R Z a0 EL nw y bs ml rt Q kc ks sf h' (k + kc') (n + ks') (mkF X.m pc' Ls (v.toList ++ st))) : Go X R Z a0 EL nw y bs ml rt Q kc ks sf h k n (mkF X.m pc Ls (argsL.reverse ++ .ref a :: st)) := fun T S => by
  subst hp
  obtain ⟨F, vm0, L, X1, eT, hS, hZ, hown, hC, hF, hE, hs, hN⟩ := S
  have hsame : (Jvm.Cond.sameMethod y'.cls y'.cls y'.name y'.desc).before a0 Z = true := sameM_self w2 hy hni
  obtain ⟨v, vm1, B, -, X2, hS2, hle, hq, stp⟩ := superBackS X1 F.1 (Z := Z) hZ (y := y') hown w1 hsame w2 w3 hi (P _ _ _ _ _ _ vm0 hZ hC.1 hE (fun x hx => hs x (hsf x hx)) F.2.2.2.2.2.2) eT I (g := mkF X.m pc Ls (argsL.reverse ++ .ref a :: st)) rfl (by rw [F.2.2.1]; exact hz) w4 (argsL := argsL) (rest := st) (lenOf hpd hlen) rfl (by show 2 * 0 + _ ≤ _; omega) (hb F.2.1 hd) (fun _ _ => ⟨hargs, eT, ble hk, ble hn⟩)
  exact (Go.back F eT hS hZ hown hC hF hs X2 hS2 hle hq hN G).back fun t q => stp.trans q
theorem g_superB (wsl : List Addr) {ix : Nat} {K : String} {rt' : Option FieldType} {y' : MethodName} {bs' : ByteArray} {ml' : Nat} {as' : Array Value} {kc' ks' : Nat} {Q' : Option Value → Heap → Prop} (sfc : List Addr) {a : Addr} (argsL : List Value) {ps : List FieldType} {r : Option FieldType} (hd : decode bs pc = .ok (.invokespecial ix, 3)) (hp : pc + 3 = pc') (hi : y'.name ≠ "<init>")
    (w1 : (Jvm.Cond.methodLink y.cls ix y').before a0 Z = true) (w2 : (Jvm.Cond.instanceMethod y').before a0 Z = true) (w3 : (Jvm.Cond.superclass y.cls y'.cls).before a0 Z = true) (hni : NI Z y'.cls) (I : Ins Z h a K true) (w4 : (Jvm.Cond.code y' bs' ml' rt').before a0 Z = true) (hy : y'.cls ≠ "java/lang/invoke/MethodHandle" ∧ y'.cls ≠ "java/lang/invoke/VarHandle")
    (P : Pay X.l R y' (st.map fun v => v.category).sum as' Z a0 EL true sfc h kc' ks' Q') (hKp : ∀ v h', Q' v h' → Keep h h' wsl) (hws : ∀ x ∈ wsl, x ∈ sf) (hpd : parseMethodDescriptor y'.desc = some ⟨ps, r⟩) (hlen : argsL.length = ps.length) (hargs : (Value.ref a :: argsL).toArray = as') (hz : Ls.size = ml) (hk : Nat.ble (k + kc') R.cells = true) (hn : Nat.ble (n + ks') R.slots = true) (hsf : ∀ x ∈ sfc, x ∈ sf)
    (G : ∀ v h', Q' v h' → h.size ≤ h'.size → ∃ nb : List Addr, (∀ x ∈ nb, h.size ≤ x ∧ x < h'.size) ∧ Go X R Z a0 EL nw y bs ml rt Q kc ks (nb ++ sf) h' (k + kc') (n + ks') (mkF X.m pc' Ls (v.toList ++ st))) : Go X R Z a0 EL nw y bs ml rt Q kc ks sf h k n (mkF X.m pc Ls (argsL.reverse ++ .ref a :: st)) := fun T S => by
  subst hp
  obtain ⟨F, vm0, L, X1, eT, hS, hZ, hown, hC, hF, hE, hs, hN⟩ := S
  have hsame : (Jvm.Cond.sameMethod y'.cls y'.cls y'.name y'.desc).before a0 Z = true := sameM_self w2 hy hni
  obtain ⟨v, vm1, B, -, X2, hS2, hle, hq, stp⟩ := superBackS X1 F.1 (Z := Z) hZ (y := y') hown w1 hsame w2 w3 hi (P _ _ _ _ _ _ vm0 hZ hC.1 hE (fun x hx => hs x (hsf x hx)) F.2.2.2.2.2.2) eT I (g := mkF X.m pc Ls (argsL.reverse ++ .ref a :: st)) rfl (by rw [F.2.2.1]; exact hz) w4 (argsL := argsL) (rest := st) (lenOf hpd hlen) rfl (by show 2 * 0 + _ ≤ _; omega) (hb F.2.1 hd) (fun _ _ => ⟨hargs, eT, ble hk, ble hn⟩)
  exact (Go.backB wsl F eT hS hZ hown hC hF hs X2 hS2 hle hq hN hKp hws G).back fun t q => stp.trans q
/-- System.arraycopy of bytes -/
theorem g_arraycopy {ix : Nat} {src dst : Addr} {k1 k2 : ClassId} {z1 z2 sp dp nn : Int32} {vs vd us : List Value} {dv dd : Value} (hd : decode bs pc = .ok (.invokestatic ix, 3)) (hp : pc + 3 = pc')
    (w1 : (Jvm.Cond.methodLink y.cls ix Jvm.Stand.acN).before a0 Z = true) (w2 : (Jvm.Cond.native Jvm.Stand.acN).before a0 Z = true) (w3 : (Jvm.Cond.static Jvm.Stand.acN).before a0 Z = true) (w4 : (Jvm.Cond.initialized "java/lang/System").before a0 Z = true)
    (A : Arv Z h src k1 .byte z1 vs dv) (B : Arv Z h dst k2 .byte z2 vd dd) (h1 : ¬ sp < 0) (h2 : ¬ dp < 0) (h3 : ¬ nn < 0) (h4 : sp.toNatClampNeg + nn.toNatClampNeg ≤ z1.toNatClampNeg) (h5 : dp.toNatClampNeg + nn.toNatClampNeg ≤ z2.toNatClampNeg)
    (hus : us = (List.range nn.toNatClampNeg).map fun i => vs.getD (sp.toNatClampNeg + i) dv) (hl : dp.toNatClampNeg + nn.toNatClampNeg ≤ vd.length) (ha : Z.heap.size ≤ dst) (hm : dst ∈ sf) (hz : Ls.size = ml) (hf : Nat.ble 1 R.frames = true) (hlo : Nat.ble ((st.map fun v => v.category).sum + (nativeFrameWords "java/lang/System" "arraycopy" 5 + 11)) R.locals = true)
    (G : ∀ h', Keep h h' [dst] → Arv Z h' dst k2 .byte z2 (vd.take dp.toNatClampNeg ++ us ++ vd.drop (dp.toNatClampNeg + nn.toNatClampNeg)) dd → Go X R Z a0 EL nw y bs ml rt Q kc ks sf h' k n (mkF X.m pc' Ls st)) : Go X R Z a0 EL nw y bs ml rt Q kc ks sf h k n (mkF X.m pc Ls (.int nn :: .int dp :: .ref dst :: .int sp :: .ref src :: st)) := fun T S => by
  subst hp
  obtain ⟨F, vm0, L, X1, eT, hS, hZ, hown, hC, hF, hE, hs, hN⟩ := S
  obtain ⟨T', h', L', X2, e2, hF2, K2, A2, stp⟩ := cpA X1 F.1 (Z := Z) hZ hown w1 w2 w3 w4 eT A B (Or.inl ⟨rfl, rfl⟩) h1 h2 h3 h4 h5 hus hl hF ha (g := mkF X.m pc Ls (.int nn :: .int dp :: .ref dst :: .int sp :: .ref src :: st)) rfl (by rw [F.2.2.1]; exact hz) rfl (hb F.2.1 hd) (ble hf) (W := (st.map fun v => v.category).sum) (by show 2 * 0 + _ ≤ _; omega) (ble hlo)
  exact (G h' K2 A2 T' (Spot.next F X2 e2 hS hZ hown hC (CHr.keep K2 (fun x hx => by cases List.mem_singleton.mp hx; exact (hs _ hm).2) hC.1) hF2 (ext_keep hE K2 (allS ha all0)) hs hN)).back stp
end Kit
end Own
open Own
namespace Own
open Jvm Jvm.ClassFile Sem Op Lib Jvm.Free Jvm.Stand Jvm.LawKit Jvm.RoadKit Bundle
/-- a boolean as an int -/
def b01 (b : Bool) : Int32 := if b then 1 else 0
theorem in0 {P : Int32 → Prop} : ∀ c ∈ ([] : List Int32), P c := fun _ q => nomatch q
theorem inS {P : Int32 → Prop} {c : Int32} {cs : List Int32} (q : P c) (r : ∀ x ∈ cs, P x) : ∀ x ∈ c :: cs, P x := fun x z => (List.mem_cons.mp z).elim (fun u => u ▸ q) (r x)
theorem i32_nat {c : Int32} (h0 : ¬ c < 0) : (c.toBitVec.toNat : Int) = c.toInt ∧ c.toBitVec.toNat < 2147483648 := by
  have h := c.toBitVec.isLt
  have e : c.toInt = c.toBitVec.toInt := rfl
  rw [Int32.lt_iff_toInt_lt] at h0
  have z : (0 : Int32).toInt = 0 := rfl
  rw [BitVec.toInt_eq_toNat_cond] at e
  split at e <;> omega
theorem c16_of {c : Int32} (h0 : ¬ c < 0) (h1 : ¬ (65535 : Int32) < c) : c.toUInt32.toUInt16.toUInt32.toInt32 = c := by
  obtain ⟨e, -⟩ := i32_nat h0
  have u : c.toInt ≤ 65535 := by
    rw [Int32.lt_iff_toInt_lt] at h1
    have z : (65535 : Int32).toInt = 65535 := rfl
    omega
  apply Int32.toBitVec_inj.mp
  apply BitVec.eq_of_toNat_eq
  show ((c.toBitVec.setWidth 16).setWidth 32).toNat = c.toBitVec.toNat
  rw [BitVec.toNat_setWidth, BitVec.toNat_setWidth]
  omega
theorem and_lt {x : Int32} (k : Nat) (hk : k < 2147483648) : ¬ (x &&& Int32.ofNat k) < 0 ∧ (x &&& Int32.ofNat k).toInt ≤ k := by
  have h : (x &&& Int32.ofNat k).toBitVec.toNat ≤ k := by
    rw [Int32.toBitVec_and, BitVec.toNat_and]
    refine Nat.le_trans Nat.and_le_right ?_
    show (BitVec.ofNat 32 k).toNat ≤ k
    rw [BitVec.toNat_ofNat]
    exact Nat.mod_le _ _
  have e : (x &&& Int32.ofNat k).toInt = (x &&& Int32.ofNat k).toBitVec.toInt := rfl
  rw [BitVec.toInt_eq_toNat_cond] at e
  have z : (0 : Int32).toInt = 0 := rfl
  rw [Int32.lt_iff_toInt_lt, z]
  split at e <;> omega
theorem and255 (x : Int32) : ¬ (x &&& 255) < 0 ∧ ¬ (255 : Int32) < (x &&& 255) := by
  obtain ⟨h1, h2⟩ := and_lt (x := x) 255 (by decide)
  refine ⟨h1, ?_⟩
  rw [Int32.lt_iff_toInt_lt]
  have z : (255 : Int32).toInt = 255 := rfl
  rw [z]
  have h2 : (x &&& 255).toInt ≤ 255 := h2
  omega
theorem to65 {c : Int32} (h : ¬ (255 : Int32) < c) : ¬ (65535 : Int32) < c := by
  rw [Int32.lt_iff_toInt_lt] at h ⊢
  have z : (255 : Int32).toInt = 255 := rfl
  have z' : (65535 : Int32).toInt = 65535 := rfl
  omega
/-- (char) (x & 255) -/
theorem c255 (x : Int32) : (x &&& 255).toUInt32.toUInt16.toUInt32.toInt32 = (x &&& 255) := c16_of (and255 x).1 (to65 (and255 x).2)
theorem nar_c (x : Int32) : nar .char x = x.toUInt32.toUInt16.toUInt32.toInt32 := rfl
theorem nar8 {c : Int32} (h : ¬ c < 0 ∧ ¬ (255 : Int32) < c) : nar .char c = c := c16_of h.1 (to65 h.2)
theorem nar16 {c : Int32} (h : ¬ c < 0 ∧ ¬ (65535 : Int32) < c) : nar .char c = c := c16_of h.1 h.2
theorem c16_range (x : Int32) : ¬ x.toUInt32.toUInt16.toUInt32.toInt32 < 0 ∧ ¬ (65535 : Int32) < x.toUInt32.toUInt16.toUInt32.toInt32 := by
  have e : (x.toUInt32.toUInt16.toUInt32.toInt32).toInt = ((x.toBitVec.setWidth 16).setWidth 32).toInt := rfl
  rw [BitVec.toInt_eq_toNat_cond, BitVec.toNat_setWidth, BitVec.toNat_setWidth] at e
  have z : (0 : Int32).toInt = 0 := rfl
  have z' : (65535 : Int32).toInt = 65535 := rfl
  rw [Int32.lt_iff_toInt_lt, Int32.lt_iff_toInt_lt, z, z']
  split at e <;> omega
theorem nar_idem (x : Int32) : nar .char (x.toUInt32.toUInt16.toUInt32.toInt32) = x.toUInt32.toUInt16.toUInt32.toInt32 := nar16 (c16_range x)
theorem ok8 (x : Int32) : ¬ (x &&& 255).toUInt32.toUInt16.toUInt32.toInt32 < 0 ∧ ¬ (255 : Int32) < (x &&& 255).toUInt32.toUInt16.toUInt32.toInt32 := by rw [c255]; exact and255 x
theorem and_small {x : Int32} {P : Int32 → Prop} (k : Nat) (hk : k < 2147483648) (h : ∀ i : Nat, i ≤ k → P (Int32.ofNat i)) : P (x &&& Int32.ofNat k) := by
  obtain ⟨h1, h2⟩ := and_lt (x := x) k hk
  obtain ⟨e, -⟩ := i32_nat h1
  have := h (x &&& Int32.ofNat k).toBitVec.toNat (by omega)
  have e2 : Int32.ofNat (x &&& Int32.ofNat k).toBitVec.toNat = (x &&& Int32.ofNat k) := by
    apply Int32.toBitVec_inj.mp
    show BitVec.ofNat 32 _ = _
    rw [BitVec.ofNat_toNat]; simp
  rw [e2] at this
  exact this
theorem toInt_ofNat {a : Nat} (ha : a < 2147483648) : (Int32.ofNat a).toInt = a := Int32.toInt_ofNat_small (by omega)
theorem ofNat_lt {a b : Nat} (ha : a < 2147483648) (hb : b < 2147483648) : Int32.ofNat a < Int32.ofNat b ↔ a < b := by
  rw [Int32.lt_iff_toInt_lt, toInt_ofNat ha, toInt_ofNat hb]; omega
theorem ofNat_nn {a : Nat} (ha : a < 2147483648) : ¬ Int32.ofNat a < 0 := by
  rw [Int32.lt_iff_toInt_lt, toInt_ofNat ha]
  have z : (0 : Int32).toInt = 0 := rfl
  omega
theorem ofNat_clamp {a : Nat} (ha : a < 2147483648) : (Int32.ofNat a).toNatClampNeg = a := by
  show (Int32.ofNat a).toInt.toNat = a
  rw [toInt_ofNat ha]; rfl
theorem nn_ofNat {c : Int32} (h : ¬ c < 0) : ∃ m : Nat, m < 2147483648 ∧ c = Int32.ofNat m := by
  have hh : ¬ c < 0 := h
  have b := c.toBitVec.isLt
  have e : c.toInt = c.toBitVec.toInt := rfl
  rw [Int32.lt_iff_toInt_lt] at hh
  have z : (0 : Int32).toInt = 0 := rfl
  rw [BitVec.toInt_eq_toNat_cond] at e
  refine ⟨c.toBitVec.toNat, by split at e <;> omega, ?_⟩
  apply Int32.toBitVec_inj.mp
  show _ = BitVec.ofNat 32 _
  rw [BitVec.ofNat_toNat]; simp
theorem ofNat_succ (a : Nat) : Int32.ofNat a + Int32.ofInt 1 = Int32.ofNat (a + 1) := by
  apply Int32.toBitVec_inj.mp
  show BitVec.ofNat 32 a + BitVec.ofInt 32 1 = BitVec.ofNat 32 (a + 1)
  apply BitVec.eq_of_toNat_eq
  simp [BitVec.toNat_add, BitVec.toNat_ofNat]
theorem mod_ofNat {m d : Nat} (hm : m < 2147483648) (hd : d < 2147483648) (h0 : 0 < d) : Int32.ofNat m % Int32.ofNat d = Int32.ofNat (m % d) := by
  have hlt := Nat.mod_lt m h0
  apply Int32.toInt_inj.mp
  rw [Int32.toInt_mod, toInt_ofNat hm, toInt_ofNat hd, toInt_ofNat (by omega)]
  exact (Int.ofNat_tmod m d).symm
theorem ofNat_inj {a b : Nat} (ha : a < 2147483648) (hb : b < 2147483648) : Int32.ofNat a = Int32.ofNat b ↔ a = b := by
  rw [← Int32.toInt_inj, toInt_ofNat ha, toInt_ofNat hb]; omega
theorem ok8L (y : Int64) : ¬ (y &&& 255).toInt32.toUInt32.toUInt16.toUInt32.toInt32 < 0 ∧ ¬ (255 : Int32) < (y &&& 255).toInt32.toUInt32.toUInt16.toUInt32.toInt32 := by
  have b : (y.toBitVec &&& (255 : BitVec 64)).toNat ≤ 255 := by
    rw [BitVec.toNat_and]
    exact Nat.and_le_right
  have e : (y &&& 255).toInt32.toInt = ((y.toBitVec &&& (255 : BitVec 64)).signExtend 32).toInt := rfl
  rw [BitVec.signExtend_eq_setWidth_of_le _ (by decide)] at e
  rw [BitVec.toInt_eq_toNat_cond, BitVec.toNat_setWidth] at e
  have z : (0 : Int32).toInt = 0 := rfl
  have z' : (255 : Int32).toInt = 255 := rfl
  have h : ¬ (y &&& 255).toInt32 < 0 ∧ ¬ (255 : Int32) < (y &&& 255).toInt32 := by
    rw [Int32.lt_iff_toInt_lt, Int32.lt_iff_toInt_lt, z, z']
    split at e <;> omega
  rw [c16_of h.1 (to65 h.2)]
  exact h
theorem shl1 (i : Nat) : Int32.ofNat i <<< ((1 : Int32) &&& 31) = Int32.ofNat (2 * i) := by
  apply Int32.toBitVec_inj.mp
  rw [Int32.toBitVec_shiftLeft]
  have : (((1 : Int32) &&& 31).toBitVec.smod 32) = 1#32 := by decide
  rw [this]
  apply BitVec.eq_of_toNat_eq
  rw [BitVec.shiftLeft_eq', BitVec.toNat_shiftLeft]
  show ((BitVec.ofNat 32 i).toNat <<< (1#32).toNat) % 2 ^ 32 = (BitVec.ofNat 32 (2 * i)).toNat
  rw [BitVec.toNat_ofNat, BitVec.toNat_ofNat, Nat.shiftLeft_eq]
  simp
  omega
theorem cod1 {n : Nat} (h0 : 0 < n) (h1 : n ≤ 4000) : ((Int32.ofNat n - Int32.ofNat (2 * n)).toUInt32 >>> ((31 : Int32) &&& 31).toUInt32).toInt32.toInt8.toInt32 = 1 := by
  have e : (Int32.ofNat n - Int32.ofNat (2 * n)).toBitVec.toNat = 4294967296 - n := by
    rw [Int32.toBitVec_sub]
    show (BitVec.ofNat 32 n - BitVec.ofNat 32 (2 * n)).toNat = _
    rw [BitVec.toNat_sub, BitVec.toNat_ofNat, BitVec.toNat_ofNat]
    omega
  have e2 : ((Int32.ofNat n - Int32.ofNat (2 * n)).toUInt32 >>> ((31 : Int32) &&& 31).toUInt32).toInt32 = 1 := by
    apply Int32.toBitVec_inj.mp
    apply BitVec.eq_of_toNat_eq
    show ((Int32.ofNat n - Int32.ofNat (2 * n)).toUInt32 >>> ((31 : Int32) &&& 31).toUInt32).toNat = 1
    rw [UInt32.toNat_shiftRight]
    have : (((31 : Int32) &&& 31).toUInt32).toNat % 32 = 31 := by decide
    rw [this]
    show (Int32.ofNat n - Int32.ofNat (2 * n)).toBitVec.toNat >>> 31 = 1
    rw [e, Nat.shiftRight_eq_div_pow]
    omega
  rw [e2]
  decide
theorem bl {a b : Nat} (h : a ≤ b) : Nat.ble a b = true := Nat.ble_eq_true_of_le h
end Own
namespace Own
open Jvm Jvm.ClassFile Sem Op Lib Jvm.Free Jvm.Stand Jvm.LawKit Jvm.RoadKit Bundle
section Strs
variable {X : Cx} {l : Launch} {R : Room} {Z : State} {a0 : Array Value} {EL : List (String × Nat)} {nw : Bool} {sf : List Addr} {h h' : Heap} {W : Nat} {x x' b : Addr} {cs ds : List Int32}
/-- at x stands a String that spells cs -/
def Str (Z : State) (h : Heap) (x : Addr) (cs : List Int32) : Prop :=
  Exa Z h x "java/lang/String" ∧ ∃ (t : Addr) (kb : ClassId) (cd N2 : Int32) (vs : List Value), Fld Z h x "java/lang/String" "value" "[B" (.ref t) ∧ Fld Z h x "java/lang/String" "coder" "B" (.int cd) ∧ Arv Z h t kb .byte N2 vs (.int 0) ∧ StrChars.Road.CodA cs cd N2 vs ∧ (∀ c ∈ cs, ¬ c < 0 ∧ ¬ (65535 : Int32) < c) ∧ cs.length ≤ 4000
theorem Str.ext (S : Str Z h x cs) (E : Ext h h') : Str Z h' x cs := by
  obtain ⟨E1, t, kb, cd, N2, vs, h1, h2, h3, r⟩ := S
  exact ⟨E1.ext E, t, kb, cd, N2, vs, h1.ext E, h2.ext E, h3.ext E, r⟩
theorem Str.exa (S : Str Z h x cs) : Exa Z h x "java/lang/String" := S.1
theorem Str.lt (S : Str Z h x cs) : x < h.size := S.1.lt
theorem up255 (q : ∀ c ∈ cs, ¬ c < 0 ∧ ¬ (255 : Int32) < c) : ∀ c ∈ cs, ¬ c < 0 ∧ ¬ (65535 : Int32) < c := fun c hc => ⟨(q c hc).1, fun u => (q c hc).2 (by rw [Int32.lt_iff_toInt_lt] at u ⊢; have e1 : (65535 : Int32).toInt = 65535 := rfl; have e2 : (255 : Int32).toInt = 255 := rfl; omega)⟩
theorem Str.of_lit {kb : ClassId} {z : Int32} {vs : List Value} {t : Addr} (E : Exa Z h x "java/lang/String") (C : Fld Z h x "java/lang/String" "coder" "B" (.int 0)) (V : Fld Z h x "java/lang/String" "value" "[B" (.ref t)) (A : Arv Z h t kb .byte z vs (.int 0)) (hz : z = Int32.ofNat cs.length) (hv : vs = cs.map fun c => Value.int (StrChars.lo8 c)) (hc : ∀ c ∈ cs, ¬ c < 0 ∧ ¬ (255 : Int32) < c) (hl : cs.length ≤ 4000) : Str Z h x cs :=
  ⟨E, t, kb, 0, z, vs, V, C, A, Or.inl ⟨rfl, hz, hv, fun c q => (hc c q).2⟩, up255 hc, hl⟩
/-- a String constant, read -/
theorem g_lit {y : MethodName} {bs : ByteArray} {ml : Nat} {rt : Option FieldType} {Q : Option Value → Heap → Prop} {kc ks k n pc pc' : Nat} {Ls : Array Slot} {st : List Value} (hnw : nw = false) {text : String} {ix : Nat} (cs : List Int32) (nn : Nat) (hd : decode bs pc = .ok (.ldc ix, 2)) (hp : pc + 2 = pc') (w : (Jvm.Cond.stringLink y.cls ix text).before a0 Z = true) (wS : ∀ a ∈ Bundle.stringAtoms, a.before a0 Z = true) (hm : (y.cls, ix) ∈ EL)
    (ht : (∀ c ∈ text.toList, c.toNat < 256) ∧ text.toList.map (fun c => Value.int (Jvm.Lit.byteI c.toNat.toUInt16)) = cs.map fun c => Value.int (StrChars.lo8 c)) (hc : ∀ c ∈ cs, ¬ c < 0 ∧ ¬ (255 : Int32) < c) (hz : ¬ Int32.ofNat cs.length < 0) (hl : (Int32.ofNat cs.length).toNatClampNeg = cs.length) (hcl : Nat.ble cs.length 4000 = true) (h4 : Nat.ble (4 * text.toList.length) nn = true) (hbig : Nat.ble nn 536870912 = true) (hk : Nat.ble (k + 2) R.cells = true) (hn : Nat.ble (n + (nn + 4)) R.slots = true)
    (G : ∀ h' a, Ext h h' → Str Z h' a cs → (∀ x ∈ sf, x ≠ a) → Go X R Z a0 EL nw y bs ml rt Q kc ks sf h' (k + 2) (n + (nn + 4)) (mkF X.m pc' Ls (.ref a :: st))) : Go X R Z a0 EL nw y bs ml rt Q kc ks sf h k n (mkF X.m pc Ls st) :=
  g_ldcS hnw (z := Int32.ofNat cs.length) hd hp w wS hm ht hz (by rw [hl, List.length_map]) h4 hbig hk hn fun h' a b kb E A1 A2 A3 A4 hne => G h' a E (Str.of_lit A1 A2 A3 A4 rfl rfl hc (ble hcl)) fun x hx => (hne x hx).1
theorem pay_new {kC : ClassId} {N z : Int32} {d v0 c0 : Value} {n : Nat} (hws : ∀ d ∈ StrChars.Road.words, d.before a0 Z = true) (wi : (Jvm.Cond.instantiable "java/lang/String" 4).before a0 Z = true) (S : Sta Z Z.heap "java/lang/String" "COMPACT_STRINGS" "Z" (.int z)) (hz : ¬ z = 0) (EZ : Ext Z.heap h) (hx0 : Z.heap.size ≤ x)
    (E : Exa Z h x "java/lang/String") (V : Fld Z h x "java/lang/String" "value" "[B" v0) (C : Fld Z h x "java/lang/String" "coder" "B" c0) (K : Arv Z h b kC .char N (cs.map Value.int) d) (hn : cs.length = n) (hN : N = Int32.ofNat n) (l0 : Nat.ble 1 n = true) (l2 : Nat.ble n 4000 = true) (hp : ∀ c ∈ cs, ¬ c < 0 ∧ ¬ (255 : Int32) < c) (hfr : Nat.ble 4 R.frames = true) (hlo : Nat.ble (W + 65) R.locals = true) :
    Pay l R ⟨"java/lang/String", "<init>", "([C)V"⟩ W #[.ref x, .ref b] Z a0 EL nw [x] h 1 n (fun v h' => v = none ∧ Keep h h' [x] ∧ Str Z h' x cs) :=
  Pay.of_back [x] (fun p e below s args len hZ => StrChars.Road.backV (n0 := Z.heap.size) hZ hws (kI := 4) wi hx0 EZ.1 E V C K (S.ext EZ) hz hn hN (ble l0) (ble l2) hp rfl (ble hfr) (ble hlo)) (fun y hy => ⟨hy, by cases List.mem_singleton.mp hy; exact hx0⟩)
    (fun v h' L q => by
      obtain ⟨e1, N1, K1, E1, C1, t, kb, -, -, -, V1, A1⟩ := q
      exact ⟨⟨e1, K1, E1, t, kb, 0, N, _, V1, C1, A1, by rw [hN]; exact StrChars.Road.codOf hn (fun c hc => (hp c hc).2), up255 hp, by rw [hn]; exact ble l2⟩, K1, N1⟩)
theorem Str.lat (T : Str Z h x cs) (hp : ∀ c ∈ cs, ¬ (255 : Int32) < c) : ∃ (t : Addr) (kb : ClassId) (N2 : Int32) (vs : List Value), Fld Z h x "java/lang/String" "value" "[B" (.ref t) ∧ Fld Z h x "java/lang/String" "coder" "B" (.int 0) ∧ Arv Z h t kb .byte N2 vs (.int 0) ∧ StrChars.Road.CodA cs 0 N2 vs ∧ (∀ c ∈ cs, ¬ c < 0 ∧ ¬ (65535 : Int32) < c) ∧ cs.length ≤ 4000 := by
  obtain ⟨E1, t, kb, cd, N2, vs, V, C, A, hc, hb, hl⟩ := T
  have e : cd = 0 := by
    rcases hc with q | ⟨-, -, -, c, q1, q2⟩
    · exact q.1
    · exact absurd q2 (hp c q1)
  subst e
  exact ⟨t, kb, N2, vs, V, C, A, hc, hb, hl⟩
end Strs
end Own
namespace Own
open Jvm Jvm.ClassFile Sem Op Lib Jvm.Free Jvm.Stand Jvm.LawKit Jvm.RoadKit Bundle
section Strs
variable {X : Cx} {l : Launch} {R : Room} {Z : State} {a0 : Array Value} {EL : List (String × Nat)} {nw : Bool} {sf : List Addr} {h h' : Heap} {W : Nat} {x x' b : Addr} {cs ds : List Int32}
theorem pay_len {z : Int32} (hln : ∀ d ∈ StrChars.Road.wordsLen, d.before a0 Z = true) (wi : (Jvm.Cond.instantiable "java/lang/String" 4).before a0 Z = true) (S : Sta Z Z.heap "java/lang/String" "COMPACT_STRINGS" "Z" (.int z)) (hz : ¬ z = 0) (EZ : Ext Z.heap h) (T : Str Z h x cs) (hfr : Nat.ble 2 R.frames = true) (hlo : Nat.ble (W + 25) R.locals = true) :
    Pay l R ⟨"java/lang/String", "length", "()I"⟩ W #[.ref x] Z a0 EL nw sf h 0 0 (fun v h' => v = some (.int (Int32.ofNat cs.length)) ∧ h' = h) := by
  obtain ⟨E1, t, kb, cd, N2, vs, V, C, A, hc, hb, hl⟩ := T
  exact Pay.pure (P := fun v => v = some (.int (Int32.ofNat cs.length))) fun p e below s args len hZ => StrChars.Road.lenW hZ hln (kI := 4) wi E1 V C A hc hb (S.ext EZ) hz hl (ble hfr) (ble hlo)
end Strs
end Own
namespace Own
open Jvm Jvm.ClassFile Sem Op Lib Jvm.Free Jvm.Stand Jvm.LawKit Jvm.RoadKit Bundle
section Strs
variable {X : Cx} {l : Launch} {R : Room} {Z : State} {a0 : Array Value} {EL : List (String × Nat)} {nw : Bool} {sf : List Addr} {h h' : Heap} {W : Nat} {x x' b : Addr} {cs ds : List Int32}
theorem pay_ch {z j : Int32} {fm : Value} {i : Nat} (hch : ∀ d ∈ StrChars.Road.wordsChN, d.before a0 Z = true) (wi : (Jvm.Cond.instantiable "java/lang/String" 4).before a0 Z = true) (S : Sta Z Z.heap "java/lang/String" "COMPACT_STRINGS" "Z" (.int z)) (hz : ¬ z = 0) (F : Sta Z Z.heap "jdk/internal/util/Preconditions" "SIOOBE_FORMATTER" "Ljava/util/function/BiFunction;" fm) (rf : fm.isRef = true) (EZ : Ext Z.heap h) (T : Str Z h x cs) (hp : ∀ c ∈ cs, ¬ (255 : Int32) < c) (hi : i < cs.length) (hj : j = Int32.ofNat i) (hfr : Nat.ble 4 R.frames = true) (hlo : Nat.ble (W + 53) R.locals = true) :
    Pay l R ⟨"java/lang/String", "charAt", "(I)C"⟩ W #[.ref x, .int j] Z a0 EL nw sf h 0 0 (fun v h' => v = some (.int (cs.getD i 0)) ∧ h' = h) := by
  obtain ⟨t, kb, N2, vs, V, C, A, hc, hb, hl⟩ := T.lat hp
  exact Pay.pure (P := fun v => v = some (.int (cs.getD i 0))) fun p e below s args len hZ => StrChars.Road.chN hZ hch (kI := 4) wi T.1 V C A hc hb (S.ext EZ) hz (F.ext EZ) rf hl hi hj (ble hfr) (ble hlo)
end Strs
end Own
theorem wl_CollectionDocumentTextToStringPinLaw_24 {a0 : Array Value} {Z : State} (hw : ∀ d ∈ tables_1, d.before a0 Z = true) : (Jvm.Cond.methodLink "com/example/simple_rocchio/simplerocchio/CollectionDocumentTextToStringPinLaw" (24 : Nat) ({ cls := "com/example/simple_rocchio/simplerocchio/CollectionDocumentTextToStringPinLaw", name := "ch", desc := "(JI)C" } : Jvm.MethodName)).before a0 Z = true := hw _ (List.mem_of_getElem? (i := 0) rfl)
theorem ws_CollectionDocumentTextToStringPinLaw_ch_lJIrC {a0 : Array Value} {Z : State} (hw : ∀ d ∈ tables_1, d.before a0 Z = true) : (Jvm.Cond.static ({ cls := "com/example/simple_rocchio/simplerocchio/CollectionDocumentTextToStringPinLaw", name := "ch", desc := "(JI)C" } : Jvm.MethodName)).before a0 Z = true := hw _ (List.mem_of_getElem? (i := 1) rfl)
theorem wi_CollectionDocumentTextToStringPinLaw {a0 : Array Value} {Z : State} (hw : ∀ d ∈ tables_1, d.before a0 Z = true) : (Jvm.Cond.initialized "com/example/simple_rocchio/simplerocchio/CollectionDocumentTextToStringPinLaw").before a0 Z = true := hw _ (List.mem_of_getElem? (i := 2) rfl)
theorem wb_CollectionDocumentTextToStringPinLaw_ch_lJIrC {a0 : Array Value} {Z : State} (hw : ∀ d ∈ tables_1, d.before a0 Z = true) : (Jvm.Cond.code ({ cls := "com/example/simple_rocchio/simplerocchio/CollectionDocumentTextToStringPinLaw", name := "ch", desc := "(JI)C" } : Jvm.MethodName) method_2_code (3 : Nat) (Option.some Jvm.ClassFile.FieldType.char)).before a0 Z = true := hw _ (List.mem_of_getElem? (i := 3) rfl)
theorem wk_CollectionDocumentTextToStringPinLaw_7 {a0 : Array Value} {Z : State} (hw : ∀ d ∈ tables_1, d.before a0 Z = true) : (Jvm.Cond.constantLong "com/example/simple_rocchio/simplerocchio/CollectionDocumentTextToStringPinLaw" (7 : Nat) (255 : Int64)).before a0 Z = true := hw _ (List.mem_of_getElem? (i := 4) rfl)
theorem wl_CollectionDocumentTextToStringPinLaw_28 {a0 : Array Value} {Z : State} (hw : ∀ d ∈ tables_1, d.before a0 Z = true) : (Jvm.Cond.methodLink "com/example/simple_rocchio/simplerocchio/CollectionDocumentTextToStringPinLaw" (28 : Nat) ({ cls := "com/example/simple_rocchio/simplerocchio/CollectionDocumentTextToStringPinLaw", name := "str", desc := "(ICCC)Ljava/lang/String;" } : Jvm.MethodName)).before a0 Z = true := hw _ (List.mem_of_getElem? (i := 5) rfl)
theorem ws_CollectionDocumentTextToStringPinLaw_str_lICCCrLjavalangString {a0 : Array Value} {Z : State} (hw : ∀ d ∈ tables_1, d.before a0 Z = true) : (Jvm.Cond.static ({ cls := "com/example/simple_rocchio/simplerocchio/CollectionDocumentTextToStringPinLaw", name := "str", desc := "(ICCC)Ljava/lang/String;" } : Jvm.MethodName)).before a0 Z = true := hw _ (List.mem_of_getElem? (i := 6) rfl)
theorem wb_CollectionDocumentTextToStringPinLaw_str_lICCCrLjavalangString {a0 : Array Value} {Z : State} (hw : ∀ d ∈ tables_1, d.before a0 Z = true) : (Jvm.Cond.code ({ cls := "com/example/simple_rocchio/simplerocchio/CollectionDocumentTextToStringPinLaw", name := "str", desc := "(ICCC)Ljava/lang/String;" } : Jvm.MethodName) method_3_code (4 : Nat) (Option.some (Jvm.ClassFile.FieldType.object "java/lang/String"))).before a0 Z = true := hw _ (List.mem_of_getElem? (i := 7) rfl)
theorem wc_CollectionDocumentTextToStringPinLaw_9 {a0 : Array Value} {Z : State} (hw : ∀ d ∈ tables_1, d.before a0 Z = true) : (Jvm.Cond.classLink "com/example/simple_rocchio/simplerocchio/CollectionDocumentTextToStringPinLaw" (9 : Nat) "java/lang/String").before a0 Z = true := hw _ (List.mem_of_getElem? (i := 8) rfl)
theorem wn_String {a0 : Array Value} {Z : State} (hw : ∀ d ∈ tables_1, d.before a0 Z = true) : (Jvm.Cond.instantiable "java/lang/String" (4 : Nat)).before a0 Z = true := hw _ (List.mem_of_getElem? (i := 9) rfl)
theorem wi_String {a0 : Array Value} {Z : State} (hw : ∀ d ∈ tables_1, d.before a0 Z = true) : (Jvm.Cond.initialized "java/lang/String").before a0 Z = true := hw _ (List.mem_of_getElem? (i := 10) rfl)
theorem wa_char {a0 : Array Value} {Z : State} (hw : ∀ d ∈ tables_1, d.before a0 Z = true) : (Jvm.Cond.arrayClass Jvm.ClassFile.FieldType.char).before a0 Z = true := hw _ (List.mem_of_getElem? (i := 11) rfl)
theorem wl_CollectionDocumentTextToStringPinLaw_11 {a0 : Array Value} {Z : State} (hw : ∀ d ∈ tables_1, d.before a0 Z = true) : (Jvm.Cond.methodLink "com/example/simple_rocchio/simplerocchio/CollectionDocumentTextToStringPinLaw" (11 : Nat) ({ cls := "java/lang/String", name := "<init>", desc := "([C)V" } : Jvm.MethodName)).before a0 Z = true := hw _ (List.mem_of_getElem? (i := 12) rfl)
theorem wm_String_init_lACrV {a0 : Array Value} {Z : State} (hw : ∀ d ∈ tables_1, d.before a0 Z = true) : (Jvm.Cond.instanceMethod ({ cls := "java/lang/String", name := "<init>", desc := "([C)V" } : Jvm.MethodName)).before a0 Z = true := hw _ (List.mem_of_getElem? (i := 13) rfl)
theorem wb_String_init_lACrV {a0 : Array Value} {Z : State} (hw : ∀ d ∈ tables_1, d.before a0 Z = true) : (Jvm.Cond.code ({ cls := "java/lang/String", name := "<init>", desc := "([C)V" } : Jvm.MethodName) jdk_42_method_3_code (2 : Nat) (Option.none : Option Jvm.ClassFile.FieldType)).before a0 Z = true := hw _ (List.mem_of_getElem? (i := 14) rfl)
theorem wl_String_27 {a0 : Array Value} {Z : State} (hw : ∀ d ∈ tables_1, d.before a0 Z = true) : (Jvm.Cond.methodLink "java/lang/String" (27 : Nat) ({ cls := "java/lang/String", name := "<init>", desc := "([CIILjava/lang/Void;)V" } : Jvm.MethodName)).before a0 Z = true := hw _ (List.mem_of_getElem? (i := 15) rfl)
theorem wm_String_init_lACIILjavalangVoidrV {a0 : Array Value} {Z : State} (hw : ∀ d ∈ tables_1, d.before a0 Z = true) : (Jvm.Cond.instanceMethod ({ cls := "java/lang/String", name := "<init>", desc := "([CIILjava/lang/Void;)V" } : Jvm.MethodName)).before a0 Z = true := hw _ (List.mem_of_getElem? (i := 16) rfl)
theorem wx_String_String {a0 : Array Value} {Z : State} (hw : ∀ d ∈ tables_1, d.before a0 Z = true) : (Jvm.Cond.castable "java/lang/String" "java/lang/String").before a0 Z = true := hw _ (List.mem_of_getElem? (i := 17) rfl)
theorem wb_String_init_lACIILjavalangVoidrV {a0 : Array Value} {Z : State} (hw : ∀ d ∈ tables_1, d.before a0 Z = true) : (Jvm.Cond.code ({ cls := "java/lang/String", name := "<init>", desc := "([CIILjava/lang/Void;)V" } : Jvm.MethodName) jdk_42_method_149_code (6 : Nat) (Option.none : Option Jvm.ClassFile.FieldType)).before a0 Z = true := hw _ (List.mem_of_getElem? (i := 18) rfl)
theorem wl_String_1 {a0 : Array Value} {Z : State} (hw : ∀ d ∈ tables_1, d.before a0 Z = true) : (Jvm.Cond.methodLink "java/lang/String" (1 : Nat) ({ cls := "java/lang/Object", name := "<init>", desc := "()V" } : Jvm.MethodName)).before a0 Z = true := hw _ (List.mem_of_getElem? (i := 19) rfl)
theorem wm_Object_init_lrV {a0 : Array Value} {Z : State} (hw : ∀ d ∈ tables_1, d.before a0 Z = true) : (Jvm.Cond.instanceMethod ({ cls := "java/lang/Object", name := "<init>", desc := "()V" } : Jvm.MethodName)).before a0 Z = true := hw _ (List.mem_of_getElem? (i := 20) rfl)
theorem wb_Object_init_lrV {a0 : Array Value} {Z : State} (hw : ∀ d ∈ tables_1, d.before a0 Z = true) : (Jvm.Cond.code ({ cls := "java/lang/Object", name := "<init>", desc := "()V" } : Jvm.MethodName) object_method_1_code (1 : Nat) (Option.none : Option Jvm.ClassFile.FieldType)).before a0 Z = true := hw _ (List.mem_of_getElem? (i := 21) rfl)
theorem wt_String_7 {a0 : Array Value} {Z : State} (hw : ∀ d ∈ tables_1, d.before a0 Z = true) : (Jvm.Cond.stringLink "java/lang/String" (7 : Nat) "").before a0 Z = true := hw _ (List.mem_of_getElem? (i := 22) rfl)
theorem wa_byte {a0 : Array Value} {Z : State} (hw : ∀ d ∈ tables_1, d.before a0 Z = true) : (Jvm.Cond.arrayClass Jvm.ClassFile.FieldType.byte).before a0 Z = true := hw _ (List.mem_of_getElem? (i := 23) rfl)
theorem wy_String_String_value {a0 : Array Value} {Z : State} (hw : ∀ d ∈ tables_1, d.before a0 Z = true) : (Jvm.Cond.laysFinal "java/lang/String" "java/lang/String" "value" "[B").before a0 Z = true := hw _ (List.mem_of_getElem? (i := 24) rfl)
theorem wy_String_String_coder {a0 : Array Value} {Z : State} (hw : ∀ d ∈ tables_1, d.before a0 Z = true) : (Jvm.Cond.laysFinal "java/lang/String" "java/lang/String" "coder" "B").before a0 Z = true := hw _ (List.mem_of_getElem? (i := 25) rfl)
theorem wj_String_value {a0 : Array Value} {Z : State} (hw : ∀ d ∈ tables_1, d.before a0 Z = true) : (Jvm.Cond.soleField "java/lang/String" "value").before a0 Z = true := hw _ (List.mem_of_getElem? (i := 26) rfl)
theorem wj_String_coder {a0 : Array Value} {Z : State} (hw : ∀ d ∈ tables_1, d.before a0 Z = true) : (Jvm.Cond.soleField "java/lang/String" "coder").before a0 Z = true := hw _ (List.mem_of_getElem? (i := 27) rfl)
theorem wf_String_9 {a0 : Array Value} {Z : State} (hw : ∀ d ∈ tables_1, d.before a0 Z = true) : (Jvm.Cond.fieldLink "java/lang/String" (9 : Nat) "java/lang/String" "value" "[B").before a0 Z = true := hw _ (List.mem_of_getElem? (i := 28) rfl)
theorem wf_String_15 {a0 : Array Value} {Z : State} (hw : ∀ d ∈ tables_1, d.before a0 Z = true) : (Jvm.Cond.fieldLink "java/lang/String" (15 : Nat) "java/lang/String" "coder" "B").before a0 Z = true := hw _ (List.mem_of_getElem? (i := 29) rfl)
theorem wc_CollectionDocumentTextToStringPinLaw_32 {a0 : Array Value} {Z : State} (hw : ∀ d ∈ tables_1, d.before a0 Z = true) : (Jvm.Cond.classLink "com/example/simple_rocchio/simplerocchio/CollectionDocumentTextToStringPinLaw" (32 : Nat) "java/util/ArrayList").before a0 Z = true := hw _ (List.mem_of_getElem? (i := 30) rfl)
theorem wn_ArrayList {a0 : Array Value} {Z : State} (hw : ∀ d ∈ tables_1, d.before a0 Z = true) : (Jvm.Cond.instantiable "java/util/ArrayList" (3 : Nat)).before a0 Z = true := hw _ (List.mem_of_getElem? (i := 31) rfl)
theorem wi_ArrayList {a0 : Array Value} {Z : State} (hw : ∀ d ∈ tables_1, d.before a0 Z = true) : (Jvm.Cond.initialized "java/util/ArrayList").before a0 Z = true := hw _ (List.mem_of_getElem? (i := 32) rfl)
theorem wl_CollectionDocumentTextToStringPinLaw_34 {a0 : Array Value} {Z : State} (hw : ∀ d ∈ tables_1, d.before a0 Z = true) : (Jvm.Cond.methodLink "com/example/simple_rocchio/simplerocchio/CollectionDocumentTextToStringPinLaw" (34 : Nat) ({ cls := "java/util/ArrayList", name := "<init>", desc := "()V" } : Jvm.MethodName)).before a0 Z = true := hw _ (List.mem_of_getElem? (i := 33) rfl)
theorem wm_ArrayList_init_lrV {a0 : Array Value} {Z : State} (hw : ∀ d ∈ tables_1, d.before a0 Z = true) : (Jvm.Cond.instanceMethod ({ cls := "java/util/ArrayList", name := "<init>", desc := "()V" } : Jvm.MethodName)).before a0 Z = true := hw _ (List.mem_of_getElem? (i := 34) rfl)
theorem wb_ArrayList_init_lrV {a0 : Array Value} {Z : State} (hw : ∀ d ∈ tables_1, d.before a0 Z = true) : (Jvm.Cond.code ({ cls := "java/util/ArrayList", name := "<init>", desc := "()V" } : Jvm.MethodName) jdk_38_method_2_code (1 : Nat) (Option.none : Option Jvm.ClassFile.FieldType)).before a0 Z = true := hw _ (List.mem_of_getElem? (i := 35) rfl)
theorem wl_ArrayList_1 {a0 : Array Value} {Z : State} (hw : ∀ d ∈ tables_1, d.before a0 Z = true) : (Jvm.Cond.methodLink "java/util/ArrayList" (1 : Nat) ({ cls := "java/util/AbstractList", name := "<init>", desc := "()V" } : Jvm.MethodName)).before a0 Z = true := hw _ (List.mem_of_getElem? (i := 36) rfl)
theorem wm_AbstractList_init_lrV {a0 : Array Value} {Z : State} (hw : ∀ d ∈ tables_1, d.before a0 Z = true) : (Jvm.Cond.instanceMethod ({ cls := "java/util/AbstractList", name := "<init>", desc := "()V" } : Jvm.MethodName)).before a0 Z = true := hw _ (List.mem_of_getElem? (i := 37) rfl)
theorem wd_AbstractList_init_lrV {a0 : Array Value} {Z : State} (hw : ∀ d ∈ tables_1, d.before a0 Z = true) : (Jvm.Cond.declares ({ cls := "java/util/AbstractList", name := "<init>", desc := "()V" } : Jvm.MethodName)).before a0 Z = true := hw _ (List.mem_of_getElem? (i := 38) rfl)
theorem wx_ArrayList_AbstractList {a0 : Array Value} {Z : State} (hw : ∀ d ∈ tables_1, d.before a0 Z = true) : (Jvm.Cond.castable "java/util/ArrayList" "java/util/AbstractList").before a0 Z = true := hw _ (List.mem_of_getElem? (i := 39) rfl)
theorem wi_AbstractList {a0 : Array Value} {Z : State} (hw : ∀ d ∈ tables_1, d.before a0 Z = true) : (Jvm.Cond.initialized "java/util/AbstractList").before a0 Z = true := hw _ (List.mem_of_getElem? (i := 40) rfl)
theorem wb_AbstractList_init_lrV {a0 : Array Value} {Z : State} (hw : ∀ d ∈ tables_1, d.before a0 Z = true) : (Jvm.Cond.code ({ cls := "java/util/AbstractList", name := "<init>", desc := "()V" } : Jvm.MethodName) jdk_39_method_1_code (1 : Nat) (Option.none : Option Jvm.ClassFile.FieldType)).before a0 Z = true := hw _ (List.mem_of_getElem? (i := 41) rfl)
theorem wl_AbstractList_1 {a0 : Array Value} {Z : State} (hw : ∀ d ∈ tables_1, d.before a0 Z = true) : (Jvm.Cond.methodLink "java/util/AbstractList" (1 : Nat) ({ cls := "java/util/AbstractCollection", name := "<init>", desc := "()V" } : Jvm.MethodName)).before a0 Z = true := hw _ (List.mem_of_getElem? (i := 42) rfl)
theorem wm_AbstractCollection_init_lrV {a0 : Array Value} {Z : State} (hw : ∀ d ∈ tables_1, d.before a0 Z = true) : (Jvm.Cond.instanceMethod ({ cls := "java/util/AbstractCollection", name := "<init>", desc := "()V" } : Jvm.MethodName)).before a0 Z = true := hw _ (List.mem_of_getElem? (i := 43) rfl)
theorem wd_AbstractCollection_init_lrV {a0 : Array Value} {Z : State} (hw : ∀ d ∈ tables_1, d.before a0 Z = true) : (Jvm.Cond.declares ({ cls := "java/util/AbstractCollection", name := "<init>", desc := "()V" } : Jvm.MethodName)).before a0 Z = true := hw _ (List.mem_of_getElem? (i := 44) rfl)
theorem wx_ArrayList_AbstractCollection {a0 : Array Value} {Z : State} (hw : ∀ d ∈ tables_1, d.before a0 Z = true) : (Jvm.Cond.castable "java/util/ArrayList" "java/util/AbstractCollection").before a0 Z = true := hw _ (List.mem_of_getElem? (i := 45) rfl)
theorem wi_AbstractCollection {a0 : Array Value} {Z : State} (hw : ∀ d ∈ tables_1, d.before a0 Z = true) : (Jvm.Cond.initialized "java/util/AbstractCollection").before a0 Z = true := hw _ (List.mem_of_getElem? (i := 46) rfl)
theorem wb_AbstractCollection_init_lrV {a0 : Array Value} {Z : State} (hw : ∀ d ∈ tables_1, d.before a0 Z = true) : (Jvm.Cond.code ({ cls := "java/util/AbstractCollection", name := "<init>", desc := "()V" } : Jvm.MethodName) jdk_22_method_1_code (1 : Nat) (Option.none : Option Jvm.ClassFile.FieldType)).before a0 Z = true := hw _ (List.mem_of_getElem? (i := 47) rfl)
theorem wl_AbstractCollection_1 {a0 : Array Value} {Z : State} (hw : ∀ d ∈ tables_1, d.before a0 Z = true) : (Jvm.Cond.methodLink "java/util/AbstractCollection" (1 : Nat) ({ cls := "java/lang/Object", name := "<init>", desc := "()V" } : Jvm.MethodName)).before a0 Z = true := hw _ (List.mem_of_getElem? (i := 48) rfl)
theorem wf_AbstractList_7 {a0 : Array Value} {Z : State} (hw : ∀ d ∈ tables_1, d.before a0 Z = true) : (Jvm.Cond.fieldLink "java/util/AbstractList" (7 : Nat) "java/util/AbstractList" "modCount" "I").before a0 Z = true := hw _ (List.mem_of_getElem? (i := 49) rfl)
theorem wy_ArrayList_AbstractList_modCount {a0 : Array Value} {Z : State} (hw : ∀ d ∈ tables_1, d.before a0 Z = true) : (Jvm.Cond.lays "java/util/ArrayList" "java/util/AbstractList" "modCount" "I").before a0 Z = true := hw _ (List.mem_of_getElem? (i := 50) rfl)
theorem wf_ArrayList_39 {a0 : Array Value} {Z : State} (hw : ∀ d ∈ tables_1, d.before a0 Z = true) : (Jvm.Cond.fieldLink "java/util/ArrayList" (39 : Nat) "java/util/ArrayList" "DEFAULTCAPACITY_EMPTY_ELEMENTDATA" "[Ljava/lang/Object;").before a0 Z = true := hw _ (List.mem_of_getElem? (i := 51) rfl)
theorem wf_ArrayList_9 {a0 : Array Value} {Z : State} (hw : ∀ d ∈ tables_1, d.before a0 Z = true) : (Jvm.Cond.fieldLink "java/util/ArrayList" (9 : Nat) "java/util/ArrayList" "elementData" "[Ljava/lang/Object;").before a0 Z = true := hw _ (List.mem_of_getElem? (i := 52) rfl)
theorem wy_ArrayList_ArrayList_elementData {a0 : Array Value} {Z : State} (hw : ∀ d ∈ tables_1, d.before a0 Z = true) : (Jvm.Cond.lays "java/util/ArrayList" "java/util/ArrayList" "elementData" "[Ljava/lang/Object;").before a0 Z = true := hw _ (List.mem_of_getElem? (i := 53) rfl)
theorem wc_CollectionDocumentTextToStringPinLaw_39 {a0 : Array Value} {Z : State} (hw : ∀ d ∈ tables_1, d.before a0 Z = true) : (Jvm.Cond.classLink "com/example/simple_rocchio/simplerocchio/CollectionDocumentTextToStringPinLaw" (39 : Nat) "com/example/simple_rocchio/simplerocchio/CollectionDocument$Text").before a0 Z = true := hw _ (List.mem_of_getElem? (i := 54) rfl)
theorem wn_CollectionDocumentSText {a0 : Array Value} {Z : State} (hw : ∀ d ∈ tables_1, d.before a0 Z = true) : (Jvm.Cond.instantiable "com/example/simple_rocchio/simplerocchio/CollectionDocument$Text" (2 : Nat)).before a0 Z = true := hw _ (List.mem_of_getElem? (i := 55) rfl)
theorem wi_CollectionDocumentSText {a0 : Array Value} {Z : State} (hw : ∀ d ∈ tables_1, d.before a0 Z = true) : (Jvm.Cond.initialized "com/example/simple_rocchio/simplerocchio/CollectionDocument$Text").before a0 Z = true := hw _ (List.mem_of_getElem? (i := 56) rfl)
theorem wl_CollectionDocumentTextToStringPinLaw_41 {a0 : Array Value} {Z : State} (hw : ∀ d ∈ tables_1, d.before a0 Z = true) : (Jvm.Cond.methodLink "com/example/simple_rocchio/simplerocchio/CollectionDocumentTextToStringPinLaw" (41 : Nat) ({ cls := "com/example/simple_rocchio/simplerocchio/CollectionDocument$Text", name := "<init>", desc := "(Ljava/lang/String;Ljava/util/List;)V" } : Jvm.MethodName)).before a0 Z = true := hw _ (List.mem_of_getElem? (i := 57) rfl)
theorem wm_CollectionDocumentSText_init_lLjavalangStringLjavautilListrV {a0 : Array Value} {Z : State} (hw : ∀ d ∈ tables_1, d.before a0 Z = true) : (Jvm.Cond.instanceMethod ({ cls := "com/example/simple_rocchio/simplerocchio/CollectionDocument$Text", name := "<init>", desc := "(Ljava/lang/String;Ljava/util/List;)V" } : Jvm.MethodName)).before a0 Z = true := hw _ (List.mem_of_getElem? (i := 58) rfl)
theorem wb_CollectionDocumentSText_init_lLjavalangStringLjavautilListrV {a0 : Array Value} {Z : State} (hw : ∀ d ∈ tables_1, d.before a0 Z = true) : (Jvm.Cond.code ({ cls := "com/example/simple_rocchio/simplerocchio/CollectionDocument$Text", name := "<init>", desc := "(Ljava/lang/String;Ljava/util/List;)V" } : Jvm.MethodName) prog_3_method_1_code (3 : Nat) (Option.none : Option Jvm.ClassFile.FieldType)).before a0 Z = true := hw _ (List.mem_of_getElem? (i := 59) rfl)
theorem wl_CollectionDocumentSText_1 {a0 : Array Value} {Z : State} (hw : ∀ d ∈ tables_1, d.before a0 Z = true) : (Jvm.Cond.methodLink "com/example/simple_rocchio/simplerocchio/CollectionDocument$Text" (1 : Nat) ({ cls := "java/lang/Object", name := "<init>", desc := "()V" } : Jvm.MethodName)).before a0 Z = true := hw _ (List.mem_of_getElem? (i := 60) rfl)
theorem wf_CollectionDocumentSText_7 {a0 : Array Value} {Z : State} (hw : ∀ d ∈ tables_1, d.before a0 Z = true) : (Jvm.Cond.fieldLink "com/example/simple_rocchio/simplerocchio/CollectionDocument$Text" (7 : Nat) "com/example/simple_rocchio/simplerocchio/CollectionDocument$Text" "mText" "Ljava/lang/String;").before a0 Z = true := hw _ (List.mem_of_getElem? (i := 61) rfl)
theorem wy_CollectionDocumentSText_CollectionDocumentSText_mText {a0 : Array Value} {Z : State} (hw : ∀ d ∈ tables_1, d.before a0 Z = true) : (Jvm.Cond.laysFinal "com/example/simple_rocchio/simplerocchio/CollectionDocument$Text" "com/example/simple_rocchio/simplerocchio/CollectionDocument$Text" "mText" "Ljava/lang/String;").before a0 Z = true := hw _ (List.mem_of_getElem? (i := 62) rfl)
theorem wl_CollectionDocumentSText_13 {a0 : Array Value} {Z : State} (hw : ∀ d ∈ tables_1, d.before a0 Z = true) : (Jvm.Cond.methodLink "com/example/simple_rocchio/simplerocchio/CollectionDocument$Text" (13 : Nat) ({ cls := "java/util/List", name := "copyOf", desc := "(Ljava/util/Collection;)Ljava/util/List;" } : Jvm.MethodName)).before a0 Z = true := hw _ (List.mem_of_getElem? (i := 63) rfl)
theorem ws_List_copyOf_lLjavautilCollectionrLjavautilList {a0 : Array Value} {Z : State} (hw : ∀ d ∈ tables_1, d.before a0 Z = true) : (Jvm.Cond.static ({ cls := "java/util/List", name := "copyOf", desc := "(Ljava/util/Collection;)Ljava/util/List;" } : Jvm.MethodName)).before a0 Z = true := hw _ (List.mem_of_getElem? (i := 64) rfl)
theorem wi_List {a0 : Array Value} {Z : State} (hw : ∀ d ∈ tables_1, d.before a0 Z = true) : (Jvm.Cond.initialized "java/util/List").before a0 Z = true := hw _ (List.mem_of_getElem? (i := 65) rfl)
theorem wb_List_copyOf_lLjavautilCollectionrLjavautilList {a0 : Array Value} {Z : State} (hw : ∀ d ∈ tables_1, d.before a0 Z = true) : (Jvm.Cond.code ({ cls := "java/util/List", name := "copyOf", desc := "(Ljava/util/Collection;)Ljava/util/List;" } : Jvm.MethodName) jdk_40_method_48_code (1 : Nat) (Option.some (Jvm.ClassFile.FieldType.object "java/util/List"))).before a0 Z = true := hw _ (List.mem_of_getElem? (i := 66) rfl)
theorem wl_List_112 {a0 : Array Value} {Z : State} (hw : ∀ d ∈ tables_1, d.before a0 Z = true) : (Jvm.Cond.methodLink "java/util/List" (112 : Nat) ({ cls := "java/util/ImmutableCollections", name := "listCopy", desc := "(Ljava/util/Collection;)Ljava/util/List;" } : Jvm.MethodName)).before a0 Z = true := hw _ (List.mem_of_getElem? (i := 67) rfl)
theorem ws_ImmutableCollections_listCopy_lLjavautilCollectionrLjavautilList {a0 : Array Value} {Z : State} (hw : ∀ d ∈ tables_1, d.before a0 Z = true) : (Jvm.Cond.static ({ cls := "java/util/ImmutableCollections", name := "listCopy", desc := "(Ljava/util/Collection;)Ljava/util/List;" } : Jvm.MethodName)).before a0 Z = true := hw _ (List.mem_of_getElem? (i := 68) rfl)
theorem wi_ImmutableCollections {a0 : Array Value} {Z : State} (hw : ∀ d ∈ tables_1, d.before a0 Z = true) : (Jvm.Cond.initialized "java/util/ImmutableCollections").before a0 Z = true := hw _ (List.mem_of_getElem? (i := 69) rfl)
theorem wb_ImmutableCollections_listCopy_lLjavautilCollectionrLjavautilList {a0 : Array Value} {Z : State} (hw : ∀ d ∈ tables_1, d.before a0 Z = true) : (Jvm.Cond.code ({ cls := "java/util/ImmutableCollections", name := "listCopy", desc := "(Ljava/util/Collection;)Ljava/util/List;" } : Jvm.MethodName) jdk_56_method_3_code (2 : Nat) (Option.some (Jvm.ClassFile.FieldType.object "java/util/List"))).before a0 Z = true := hw _ (List.mem_of_getElem? (i := 70) rfl)
theorem wc_ImmutableCollections_10 {a0 : Array Value} {Z : State} (hw : ∀ d ∈ tables_1, d.before a0 Z = true) : (Jvm.Cond.classLink "java/util/ImmutableCollections" (10 : Nat) "java/util/ImmutableCollections$List12").before a0 Z = true := hw _ (List.mem_of_getElem? (i := 71) rfl)
theorem wz_ArrayList_AbstractList {a0 : Array Value} {Z : State} (hw : ∀ d ∈ tables_1, d.before a0 Z = true) : (Jvm.Cond.superclass "java/util/ArrayList" "java/util/AbstractList").before a0 Z = true := hw _ (List.mem_of_getElem? (i := 72) rfl)
theorem wz_AbstractList_AbstractCollection {a0 : Array Value} {Z : State} (hw : ∀ d ∈ tables_1, d.before a0 Z = true) : (Jvm.Cond.superclass "java/util/AbstractList" "java/util/AbstractCollection").before a0 Z = true := hw _ (List.mem_of_getElem? (i := 73) rfl)
theorem wz_AbstractCollection_Object {a0 : Array Value} {Z : State} (hw : ∀ d ∈ tables_1, d.before a0 Z = true) : (Jvm.Cond.superclass "java/util/AbstractCollection" "java/lang/Object").before a0 Z = true := hw _ (List.mem_of_getElem? (i := 74) rfl)
theorem wzn_Object {a0 : Array Value} {Z : State} (hw : ∀ d ∈ tables_1, d.before a0 Z = true) : (Jvm.Cond.noSuperclass "java/lang/Object").before a0 Z = true := hw _ (List.mem_of_getElem? (i := 75) rfl)
theorem wc_ImmutableCollections_12 {a0 : Array Value} {Z : State} (hw : ∀ d ∈ tables_1, d.before a0 Z = true) : (Jvm.Cond.classLink "java/util/ImmutableCollections" (12 : Nat) "java/util/ImmutableCollections$ListN").before a0 Z = true := hw _ (List.mem_of_getElem? (i := 76) rfl)
theorem wl_ImmutableCollections_20 {a0 : Array Value} {Z : State} (hw : ∀ d ∈ tables_1, d.before a0 Z = true) : (Jvm.Cond.methodLink "java/util/ImmutableCollections" (20 : Nat) ({ cls := "java/util/Collection", name := "isEmpty", desc := "()Z" } : Jvm.MethodName)).before a0 Z = true := hw _ (List.mem_of_getElem? (i := 77) rfl)
theorem wd_Collection_isEmpty_lrZ {a0 : Array Value} {Z : State} (hw : ∀ d ∈ tables_1, d.before a0 Z = true) : (Jvm.Cond.declares ({ cls := "java/util/Collection", name := "isEmpty", desc := "()Z" } : Jvm.MethodName)).before a0 Z = true := hw _ (List.mem_of_getElem? (i := 78) rfl)
theorem wg_Collection_isEmpty_lrZ {a0 : Array Value} {Z : State} (hw : ∀ d ∈ tables_1, d.before a0 Z = true) : (Jvm.Cond.interfaceMethod "java/util/Collection" "java/util/Collection" "isEmpty" "()Z").before a0 Z = true := hw _ (List.mem_of_getElem? (i := 79) rfl)
theorem wv_ArrayList_Collection_isEmpty_lrZ {a0 : Array Value} {Z : State} (hw : ∀ d ∈ tables_1, d.before a0 Z = true) : (Jvm.Cond.selects "java/util/ArrayList" ({ cls := "java/util/Collection", name := "isEmpty", desc := "()Z" } : Jvm.MethodName) ({ cls := "java/util/ArrayList", name := "isEmpty", desc := "()Z" } : Jvm.MethodName)).before a0 Z = true := hw _ (List.mem_of_getElem? (i := 80) rfl)
theorem wm_ArrayList_isEmpty_lrZ {a0 : Array Value} {Z : State} (hw : ∀ d ∈ tables_1, d.before a0 Z = true) : (Jvm.Cond.instanceMethod ({ cls := "java/util/ArrayList", name := "isEmpty", desc := "()Z" } : Jvm.MethodName)).before a0 Z = true := hw _ (List.mem_of_getElem? (i := 81) rfl)
theorem wp_ArrayList_isEmpty_lrZ {a0 : Array Value} {Z : State} (hw : ∀ d ∈ tables_1, d.before a0 Z = true) : (Jvm.Cond.publicMethod ({ cls := "java/util/ArrayList", name := "isEmpty", desc := "()Z" } : Jvm.MethodName)).before a0 Z = true := hw _ (List.mem_of_getElem? (i := 82) rfl)
theorem wu_ArrayList_isEmpty_lrZ {a0 : Array Value} {Z : State} (hw : ∀ d ∈ tables_1, d.before a0 Z = true) : (Jvm.Cond.unhidden "java/util/ArrayList" "isEmpty" "()Z").before a0 Z = true := hw _ (List.mem_of_getElem? (i := 83) rfl)
theorem wx_ArrayList_Collection {a0 : Array Value} {Z : State} (hw : ∀ d ∈ tables_1, d.before a0 Z = true) : (Jvm.Cond.castable "java/util/ArrayList" "java/util/Collection").before a0 Z = true := hw _ (List.mem_of_getElem? (i := 84) rfl)
theorem wb_ArrayList_isEmpty_lrZ {a0 : Array Value} {Z : State} (hw : ∀ d ∈ tables_1, d.before a0 Z = true) : (Jvm.Cond.code ({ cls := "java/util/ArrayList", name := "isEmpty", desc := "()Z" } : Jvm.MethodName) jdk_38_method_9_code (1 : Nat) (Option.some Jvm.ClassFile.FieldType.boolean)).before a0 Z = true := hw _ (List.mem_of_getElem? (i := 85) rfl)
theorem wf_ArrayList_48 {a0 : Array Value} {Z : State} (hw : ∀ d ∈ tables_1, d.before a0 Z = true) : (Jvm.Cond.fieldLink "java/util/ArrayList" (48 : Nat) "java/util/ArrayList" "size" "I").before a0 Z = true := hw _ (List.mem_of_getElem? (i := 86) rfl)
theorem wy_ArrayList_ArrayList_size {a0 : Array Value} {Z : State} (hw : ∀ d ∈ tables_1, d.before a0 Z = true) : (Jvm.Cond.lays "java/util/ArrayList" "java/util/ArrayList" "size" "I").before a0 Z = true := hw _ (List.mem_of_getElem? (i := 87) rfl)
theorem wl_ImmutableCollections_26 {a0 : Array Value} {Z : State} (hw : ∀ d ∈ tables_1, d.before a0 Z = true) : (Jvm.Cond.methodLink "java/util/ImmutableCollections" (26 : Nat) ({ cls := "java/util/List", name := "of", desc := "()Ljava/util/List;" } : Jvm.MethodName)).before a0 Z = true := hw _ (List.mem_of_getElem? (i := 88) rfl)
theorem ws_List_of_lrLjavautilList {a0 : Array Value} {Z : State} (hw : ∀ d ∈ tables_1, d.before a0 Z = true) : (Jvm.Cond.static ({ cls := "java/util/List", name := "of", desc := "()Ljava/util/List;" } : Jvm.MethodName)).before a0 Z = true := hw _ (List.mem_of_getElem? (i := 89) rfl)
theorem wb_List_of_lrLjavautilList {a0 : Array Value} {Z : State} (hw : ∀ d ∈ tables_1, d.before a0 Z = true) : (Jvm.Cond.code ({ cls := "java/util/List", name := "of", desc := "()Ljava/util/List;" } : Jvm.MethodName) jdk_40_method_36_code (0 : Nat) (Option.some (Jvm.ClassFile.FieldType.object "java/util/List"))).before a0 Z = true := hw _ (List.mem_of_getElem? (i := 90) rfl)
theorem wf_List_90 {a0 : Array Value} {Z : State} (hw : ∀ d ∈ tables_1, d.before a0 Z = true) : (Jvm.Cond.fieldLink "java/util/List" (90 : Nat) "java/util/ImmutableCollections" "EMPTY_LIST" "Ljava/util/ImmutableCollections$ListN;").before a0 Z = true := hw _ (List.mem_of_getElem? (i := 91) rfl)
theorem wf_CollectionDocumentSText_19 {a0 : Array Value} {Z : State} (hw : ∀ d ∈ tables_1, d.before a0 Z = true) : (Jvm.Cond.fieldLink "com/example/simple_rocchio/simplerocchio/CollectionDocument$Text" (19 : Nat) "com/example/simple_rocchio/simplerocchio/CollectionDocument$Text" "mFields" "Ljava/util/List;").before a0 Z = true := hw _ (List.mem_of_getElem? (i := 92) rfl)
theorem wy_CollectionDocumentSText_CollectionDocumentSText_mFields {a0 : Array Value} {Z : State} (hw : ∀ d ∈ tables_1, d.before a0 Z = true) : (Jvm.Cond.laysFinal "com/example/simple_rocchio/simplerocchio/CollectionDocument$Text" "com/example/simple_rocchio/simplerocchio/CollectionDocument$Text" "mFields" "Ljava/util/List;").before a0 Z = true := hw _ (List.mem_of_getElem? (i := 93) rfl)
theorem wl_CollectionDocumentTextToStringPinLaw_44 {a0 : Array Value} {Z : State} (hw : ∀ d ∈ tables_1, d.before a0 Z = true) : (Jvm.Cond.methodLink "com/example/simple_rocchio/simplerocchio/CollectionDocumentTextToStringPinLaw" (44 : Nat) ({ cls := "com/example/simple_rocchio/simplerocchio/CollectionDocument$Text", name := "toString", desc := "()Ljava/lang/String;" } : Jvm.MethodName)).before a0 Z = true := hw _ (List.mem_of_getElem? (i := 94) rfl)
theorem wd_CollectionDocumentSText_toString_lrLjavalangString {a0 : Array Value} {Z : State} (hw : ∀ d ∈ tables_1, d.before a0 Z = true) : (Jvm.Cond.declares ({ cls := "com/example/simple_rocchio/simplerocchio/CollectionDocument$Text", name := "toString", desc := "()Ljava/lang/String;" } : Jvm.MethodName)).before a0 Z = true := hw _ (List.mem_of_getElem? (i := 95) rfl)
theorem wm_CollectionDocumentSText_toString_lrLjavalangString {a0 : Array Value} {Z : State} (hw : ∀ d ∈ tables_1, d.before a0 Z = true) : (Jvm.Cond.instanceMethod ({ cls := "com/example/simple_rocchio/simplerocchio/CollectionDocument$Text", name := "toString", desc := "()Ljava/lang/String;" } : Jvm.MethodName)).before a0 Z = true := hw _ (List.mem_of_getElem? (i := 96) rfl)
theorem wv_CollectionDocumentSText_CollectionDocumentSText_toString_lrLjavalangString {a0 : Array Value} {Z : State} (hw : ∀ d ∈ tables_1, d.before a0 Z = true) : (Jvm.Cond.selects "com/example/simple_rocchio/simplerocchio/CollectionDocument$Text" ({ cls := "com/example/simple_rocchio/simplerocchio/CollectionDocument$Text", name := "toString", desc := "()Ljava/lang/String;" } : Jvm.MethodName) ({ cls := "com/example/simple_rocchio/simplerocchio/CollectionDocument$Text", name := "toString", desc := "()Ljava/lang/String;" } : Jvm.MethodName)).before a0 Z = true := hw _ (List.mem_of_getElem? (i := 97) rfl)
theorem wb_CollectionDocumentSText_toString_lrLjavalangString {a0 : Array Value} {Z : State} (hw : ∀ d ∈ tables_1, d.before a0 Z = true) : (Jvm.Cond.code ({ cls := "com/example/simple_rocchio/simplerocchio/CollectionDocument$Text", name := "toString", desc := "()Ljava/lang/String;" } : Jvm.MethodName) prog_3_method_6_code (1 : Nat) (Option.some (Jvm.ClassFile.FieldType.object "java/lang/String"))).before a0 Z = true := hw _ (List.mem_of_getElem? (i := 98) rfl)
theorem wc_CollectionDocumentSText_36 {a0 : Array Value} {Z : State} (hw : ∀ d ∈ tables_1, d.before a0 Z = true) : (Jvm.Cond.classLink "com/example/simple_rocchio/simplerocchio/CollectionDocument$Text" (36 : Nat) "java/lang/StringBuilder").before a0 Z = true := hw _ (List.mem_of_getElem? (i := 99) rfl)
theorem wn_StringBuilder {a0 : Array Value} {Z : State} (hw : ∀ d ∈ tables_1, d.before a0 Z = true) : (Jvm.Cond.instantiable "java/lang/StringBuilder" (4 : Nat)).before a0 Z = true := hw _ (List.mem_of_getElem? (i := 100) rfl)
theorem wi_StringBuilder {a0 : Array Value} {Z : State} (hw : ∀ d ∈ tables_1, d.before a0 Z = true) : (Jvm.Cond.initialized "java/lang/StringBuilder").before a0 Z = true := hw _ (List.mem_of_getElem? (i := 101) rfl)
theorem wl_CollectionDocumentSText_38 {a0 : Array Value} {Z : State} (hw : ∀ d ∈ tables_1, d.before a0 Z = true) : (Jvm.Cond.methodLink "com/example/simple_rocchio/simplerocchio/CollectionDocument$Text" (38 : Nat) ({ cls := "java/lang/StringBuilder", name := "<init>", desc := "()V" } : Jvm.MethodName)).before a0 Z = true := hw _ (List.mem_of_getElem? (i := 102) rfl)
theorem wm_StringBuilder_init_lrV {a0 : Array Value} {Z : State} (hw : ∀ d ∈ tables_1, d.before a0 Z = true) : (Jvm.Cond.instanceMethod ({ cls := "java/lang/StringBuilder", name := "<init>", desc := "()V" } : Jvm.MethodName)).before a0 Z = true := hw _ (List.mem_of_getElem? (i := 103) rfl)
theorem wb_StringBuilder_init_lrV {a0 : Array Value} {Z : State} (hw : ∀ d ∈ tables_1, d.before a0 Z = true) : (Jvm.Cond.code ({ cls := "java/lang/StringBuilder", name := "<init>", desc := "()V" } : Jvm.MethodName) jdk_67_method_1_code (1 : Nat) (Option.none : Option Jvm.ClassFile.FieldType)).before a0 Z = true := hw _ (List.mem_of_getElem? (i := 104) rfl)
theorem wl_StringBuilder_1 {a0 : Array Value} {Z : State} (hw : ∀ d ∈ tables_1, d.before a0 Z = true) : (Jvm.Cond.methodLink "java/lang/StringBuilder" (1 : Nat) ({ cls := "java/lang/AbstractStringBuilder", name := "<init>", desc := "(I)V" } : Jvm.MethodName)).before a0 Z = true := hw _ (List.mem_of_getElem? (i := 105) rfl)
theorem wm_AbstractStringBuilder_init_lIrV {a0 : Array Value} {Z : State} (hw : ∀ d ∈ tables_1, d.before a0 Z = true) : (Jvm.Cond.instanceMethod ({ cls := "java/lang/AbstractStringBuilder", name := "<init>", desc := "(I)V" } : Jvm.MethodName)).before a0 Z = true := hw _ (List.mem_of_getElem? (i := 106) rfl)
theorem wd_AbstractStringBuilder_init_lIrV {a0 : Array Value} {Z : State} (hw : ∀ d ∈ tables_1, d.before a0 Z = true) : (Jvm.Cond.declares ({ cls := "java/lang/AbstractStringBuilder", name := "<init>", desc := "(I)V" } : Jvm.MethodName)).before a0 Z = true := hw _ (List.mem_of_getElem? (i := 107) rfl)
theorem wx_StringBuilder_AbstractStringBuilder {a0 : Array Value} {Z : State} (hw : ∀ d ∈ tables_1, d.before a0 Z = true) : (Jvm.Cond.castable "java/lang/StringBuilder" "java/lang/AbstractStringBuilder").before a0 Z = true := hw _ (List.mem_of_getElem? (i := 108) rfl)
theorem wi_AbstractStringBuilder {a0 : Array Value} {Z : State} (hw : ∀ d ∈ tables_1, d.before a0 Z = true) : (Jvm.Cond.initialized "java/lang/AbstractStringBuilder").before a0 Z = true := hw _ (List.mem_of_getElem? (i := 109) rfl)
theorem wb_AbstractStringBuilder_init_lIrV {a0 : Array Value} {Z : State} (hw : ∀ d ∈ tables_1, d.before a0 Z = true) : (Jvm.Cond.code ({ cls := "java/lang/AbstractStringBuilder", name := "<init>", desc := "(I)V" } : Jvm.MethodName) jdk_68_method_2_code (2 : Nat) (Option.none : Option Jvm.ClassFile.FieldType)).before a0 Z = true := hw _ (List.mem_of_getElem? (i := 110) rfl)
theorem wl_AbstractStringBuilder_3 {a0 : Array Value} {Z : State} (hw : ∀ d ∈ tables_1, d.before a0 Z = true) : (Jvm.Cond.methodLink "java/lang/AbstractStringBuilder" (3 : Nat) ({ cls := "java/lang/Object", name := "<init>", desc := "()V" } : Jvm.MethodName)).before a0 Z = true := hw _ (List.mem_of_getElem? (i := 111) rfl)
theorem wf_AbstractStringBuilder_18 {a0 : Array Value} {Z : State} (hw : ∀ d ∈ tables_1, d.before a0 Z = true) : (Jvm.Cond.fieldLink "java/lang/AbstractStringBuilder" (18 : Nat) "java/lang/String" "COMPACT_STRINGS" "Z").before a0 Z = true := hw _ (List.mem_of_getElem? (i := 112) rfl)
theorem wf_AbstractStringBuilder_15 {a0 : Array Value} {Z : State} (hw : ∀ d ∈ tables_1, d.before a0 Z = true) : (Jvm.Cond.fieldLink "java/lang/AbstractStringBuilder" (15 : Nat) "java/lang/AbstractStringBuilder" "value" "[B").before a0 Z = true := hw _ (List.mem_of_getElem? (i := 113) rfl)
theorem wy_StringBuilder_AbstractStringBuilder_value {a0 : Array Value} {Z : State} (hw : ∀ d ∈ tables_1, d.before a0 Z = true) : (Jvm.Cond.lays "java/lang/StringBuilder" "java/lang/AbstractStringBuilder" "value" "[B").before a0 Z = true := hw _ (List.mem_of_getElem? (i := 114) rfl)
theorem wf_AbstractStringBuilder_22 {a0 : Array Value} {Z : State} (hw : ∀ d ∈ tables_1, d.before a0 Z = true) : (Jvm.Cond.fieldLink "java/lang/AbstractStringBuilder" (22 : Nat) "java/lang/AbstractStringBuilder" "coder" "B").before a0 Z = true := hw _ (List.mem_of_getElem? (i := 115) rfl)
theorem wy_StringBuilder_AbstractStringBuilder_coder {a0 : Array Value} {Z : State} (hw : ∀ d ∈ tables_1, d.before a0 Z = true) : (Jvm.Cond.lays "java/lang/StringBuilder" "java/lang/AbstractStringBuilder" "coder" "B").before a0 Z = true := hw _ (List.mem_of_getElem? (i := 116) rfl)
theorem wl_CollectionDocumentSText_39 {a0 : Array Value} {Z : State} (hw : ∀ d ∈ tables_1, d.before a0 Z = true) : (Jvm.Cond.methodLink "com/example/simple_rocchio/simplerocchio/CollectionDocument$Text" (39 : Nat) ({ cls := "java/lang/StringBuilder", name := "append", desc := "(Ljava/lang/Object;)Ljava/lang/StringBuilder;" } : Jvm.MethodName)).before a0 Z = true := hw _ (List.mem_of_getElem? (i := 117) rfl)
theorem wd_StringBuilder_append_lLjavalangObjectrLjavalangStringBuilder {a0 : Array Value} {Z : State} (hw : ∀ d ∈ tables_1, d.before a0 Z = true) : (Jvm.Cond.declares ({ cls := "java/lang/StringBuilder", name := "append", desc := "(Ljava/lang/Object;)Ljava/lang/StringBuilder;" } : Jvm.MethodName)).before a0 Z = true := hw _ (List.mem_of_getElem? (i := 118) rfl)
theorem wm_StringBuilder_append_lLjavalangObjectrLjavalangStringBuilder {a0 : Array Value} {Z : State} (hw : ∀ d ∈ tables_1, d.before a0 Z = true) : (Jvm.Cond.instanceMethod ({ cls := "java/lang/StringBuilder", name := "append", desc := "(Ljava/lang/Object;)Ljava/lang/StringBuilder;" } : Jvm.MethodName)).before a0 Z = true := hw _ (List.mem_of_getElem? (i := 119) rfl)
theorem wv_StringBuilder_StringBuilder_append_lLjavalangObjectrLjavalangStringBuilder {a0 : Array Value} {Z : State} (hw : ∀ d ∈ tables_1, d.before a0 Z = true) : (Jvm.Cond.selects "java/lang/StringBuilder" ({ cls := "java/lang/StringBuilder", name := "append", desc := "(Ljava/lang/Object;)Ljava/lang/StringBuilder;" } : Jvm.MethodName) ({ cls := "java/lang/StringBuilder", name := "append", desc := "(Ljava/lang/Object;)Ljava/lang/StringBuilder;" } : Jvm.MethodName)).before a0 Z = true := hw _ (List.mem_of_getElem? (i := 120) rfl)
theorem wb_StringBuilder_append_lLjavalangObjectrLjavalangStringBuilder {a0 : Array Value} {Z : State} (hw : ∀ d ∈ tables_1, d.before a0 Z = true) : (Jvm.Cond.code ({ cls := "java/lang/StringBuilder", name := "append", desc := "(Ljava/lang/Object;)Ljava/lang/StringBuilder;" } : Jvm.MethodName) jdk_67_method_6_code (2 : Nat) (Option.some (Jvm.ClassFile.FieldType.object "java/lang/StringBuilder"))).before a0 Z = true := hw _ (List.mem_of_getElem? (i := 121) rfl)
theorem wl_StringBuilder_17 {a0 : Array Value} {Z : State} (hw : ∀ d ∈ tables_1, d.before a0 Z = true) : (Jvm.Cond.methodLink "java/lang/StringBuilder" (17 : Nat) ({ cls := "java/lang/String", name := "valueOf", desc := "(Ljava/lang/Object;)Ljava/lang/String;" } : Jvm.MethodName)).before a0 Z = true := hw _ (List.mem_of_getElem? (i := 122) rfl)
theorem ws_String_valueOf_lLjavalangObjectrLjavalangString {a0 : Array Value} {Z : State} (hw : ∀ d ∈ tables_1, d.before a0 Z = true) : (Jvm.Cond.static ({ cls := "java/lang/String", name := "valueOf", desc := "(Ljava/lang/Object;)Ljava/lang/String;" } : Jvm.MethodName)).before a0 Z = true := hw _ (List.mem_of_getElem? (i := 123) rfl)
theorem wb_String_valueOf_lLjavalangObjectrLjavalangString {a0 : Array Value} {Z : State} (hw : ∀ d ∈ tables_1, d.before a0 Z = true) : (Jvm.Cond.code ({ cls := "java/lang/String", name := "valueOf", desc := "(Ljava/lang/Object;)Ljava/lang/String;" } : Jvm.MethodName) jdk_42_method_133_code (1 : Nat) (Option.some (Jvm.ClassFile.FieldType.object "java/lang/String"))).before a0 Z = true := hw _ (List.mem_of_getElem? (i := 124) rfl)
theorem wl_String_1007 {a0 : Array Value} {Z : State} (hw : ∀ d ∈ tables_1, d.before a0 Z = true) : (Jvm.Cond.methodLink "java/lang/String" (1007 : Nat) ({ cls := "java/lang/Object", name := "toString", desc := "()Ljava/lang/String;" } : Jvm.MethodName)).before a0 Z = true := hw _ (List.mem_of_getElem? (i := 125) rfl)
theorem wd_Object_toString_lrLjavalangString {a0 : Array Value} {Z : State} (hw : ∀ d ∈ tables_1, d.before a0 Z = true) : (Jvm.Cond.declares ({ cls := "java/lang/Object", name := "toString", desc := "()Ljava/lang/String;" } : Jvm.MethodName)).before a0 Z = true := hw _ (List.mem_of_getElem? (i := 126) rfl)
theorem wm_Object_toString_lrLjavalangString {a0 : Array Value} {Z : State} (hw : ∀ d ∈ tables_1, d.before a0 Z = true) : (Jvm.Cond.instanceMethod ({ cls := "java/lang/Object", name := "toString", desc := "()Ljava/lang/String;" } : Jvm.MethodName)).before a0 Z = true := hw _ (List.mem_of_getElem? (i := 127) rfl)
theorem wv_ImmutableCollectionsSListN_Object_toString_lrLjavalangString {a0 : Array Value} {Z : State} (hw : ∀ d ∈ tables_1, d.before a0 Z = true) : (Jvm.Cond.selects "java/util/ImmutableCollections$ListN" ({ cls := "java/lang/Object", name := "toString", desc := "()Ljava/lang/String;" } : Jvm.MethodName) ({ cls := "java/util/AbstractCollection", name := "toString", desc := "()Ljava/lang/String;" } : Jvm.MethodName)).before a0 Z = true := hw _ (List.mem_of_getElem? (i := 128) rfl)
theorem wm_AbstractCollection_toString_lrLjavalangString {a0 : Array Value} {Z : State} (hw : ∀ d ∈ tables_1, d.before a0 Z = true) : (Jvm.Cond.instanceMethod ({ cls := "java/util/AbstractCollection", name := "toString", desc := "()Ljava/lang/String;" } : Jvm.MethodName)).before a0 Z = true := hw _ (List.mem_of_getElem? (i := 129) rfl)
theorem wb_AbstractCollection_toString_lrLjavalangString {a0 : Array Value} {Z : State} (hw : ∀ d ∈ tables_1, d.before a0 Z = true) : (Jvm.Cond.code ({ cls := "java/util/AbstractCollection", name := "toString", desc := "()Ljava/lang/String;" } : Jvm.MethodName) jdk_22_method_16_code (4 : Nat) (Option.some (Jvm.ClassFile.FieldType.object "java/lang/String"))).before a0 Z = true := hw _ (List.mem_of_getElem? (i := 130) rfl)
theorem wl_AbstractCollection_13 {a0 : Array Value} {Z : State} (hw : ∀ d ∈ tables_1, d.before a0 Z = true) : (Jvm.Cond.methodLink "java/util/AbstractCollection" (13 : Nat) ({ cls := "java/util/AbstractCollection", name := "iterator", desc := "()Ljava/util/Iterator;" } : Jvm.MethodName)).before a0 Z = true := hw _ (List.mem_of_getElem? (i := 131) rfl)
theorem wd_AbstractCollection_iterator_lrLjavautilIterator {a0 : Array Value} {Z : State} (hw : ∀ d ∈ tables_1, d.before a0 Z = true) : (Jvm.Cond.declares ({ cls := "java/util/AbstractCollection", name := "iterator", desc := "()Ljava/util/Iterator;" } : Jvm.MethodName)).before a0 Z = true := hw _ (List.mem_of_getElem? (i := 132) rfl)
theorem wv_ImmutableCollectionsSListN_AbstractCollection_iterator_lrLjavautilIterator {a0 : Array Value} {Z : State} (hw : ∀ d ∈ tables_1, d.before a0 Z = true) : (Jvm.Cond.selects "java/util/ImmutableCollections$ListN" ({ cls := "java/util/AbstractCollection", name := "iterator", desc := "()Ljava/util/Iterator;" } : Jvm.MethodName) ({ cls := "java/util/ImmutableCollections$AbstractImmutableList", name := "iterator", desc := "()Ljava/util/Iterator;" } : Jvm.MethodName)).before a0 Z = true := hw _ (List.mem_of_getElem? (i := 133) rfl)
theorem wm_ImmutableCollectionsSAbstractImmutableList_iterator_lrLjavautilIterator {a0 : Array Value} {Z : State} (hw : ∀ d ∈ tables_1, d.before a0 Z = true) : (Jvm.Cond.instanceMethod ({ cls := "java/util/ImmutableCollections$AbstractImmutableList", name := "iterator", desc := "()Ljava/util/Iterator;" } : Jvm.MethodName)).before a0 Z = true := hw _ (List.mem_of_getElem? (i := 134) rfl)
theorem wi_ImmutableCollectionsSAbstractImmutableList {a0 : Array Value} {Z : State} (hw : ∀ d ∈ tables_1, d.before a0 Z = true) : (Jvm.Cond.initialized "java/util/ImmutableCollections$AbstractImmutableList").before a0 Z = true := hw _ (List.mem_of_getElem? (i := 135) rfl)
theorem wb_ImmutableCollectionsSAbstractImmutableList_iterator_lrLjavautilIterator {a0 : Array Value} {Z : State} (hw : ∀ d ∈ tables_1, d.before a0 Z = true) : (Jvm.Cond.code ({ cls := "java/util/ImmutableCollections$AbstractImmutableList", name := "iterator", desc := "()Ljava/util/Iterator;" } : Jvm.MethodName) jdk_46_method_10_code (1 : Nat) (Option.some (Jvm.ClassFile.FieldType.object "java/util/Iterator"))).before a0 Z = true := hw _ (List.mem_of_getElem? (i := 136) rfl)
theorem wc_ImmutableCollectionsSAbstractImmutableList_61 {a0 : Array Value} {Z : State} (hw : ∀ d ∈ tables_1, d.before a0 Z = true) : (Jvm.Cond.classLink "java/util/ImmutableCollections$AbstractImmutableList" (61 : Nat) "java/util/ImmutableCollections$ListItr").before a0 Z = true := hw _ (List.mem_of_getElem? (i := 137) rfl)
theorem wn_ImmutableCollectionsSListItr {a0 : Array Value} {Z : State} (hw : ∀ d ∈ tables_1, d.before a0 Z = true) : (Jvm.Cond.instantiable "java/util/ImmutableCollections$ListItr" (4 : Nat)).before a0 Z = true := hw _ (List.mem_of_getElem? (i := 138) rfl)
theorem wi_ImmutableCollectionsSListItr {a0 : Array Value} {Z : State} (hw : ∀ d ∈ tables_1, d.before a0 Z = true) : (Jvm.Cond.initialized "java/util/ImmutableCollections$ListItr").before a0 Z = true := hw _ (List.mem_of_getElem? (i := 139) rfl)
theorem wl_ImmutableCollectionsSAbstractImmutableList_13 {a0 : Array Value} {Z : State} (hw : ∀ d ∈ tables_1, d.before a0 Z = true) : (Jvm.Cond.methodLink "java/util/ImmutableCollections$AbstractImmutableList" (13 : Nat) ({ cls := "java/util/ImmutableCollections$AbstractImmutableList", name := "size", desc := "()I" } : Jvm.MethodName)).before a0 Z = true := hw _ (List.mem_of_getElem? (i := 140) rfl)
theorem wr_ImmutableCollectionsSAbstractImmutableList_AbstractCollection_size {a0 : Array Value} {Z : State} (hw : ∀ d ∈ tables_1, d.before a0 Z = true) : (Jvm.Cond.sameMethod "java/util/ImmutableCollections$AbstractImmutableList" "java/util/AbstractCollection" "size" "()I").before a0 Z = true := hw _ (List.mem_of_getElem? (i := 141) rfl)
theorem wd_AbstractCollection_size_lrI {a0 : Array Value} {Z : State} (hw : ∀ d ∈ tables_1, d.before a0 Z = true) : (Jvm.Cond.declares ({ cls := "java/util/AbstractCollection", name := "size", desc := "()I" } : Jvm.MethodName)).before a0 Z = true := hw _ (List.mem_of_getElem? (i := 142) rfl)
theorem wv_ImmutableCollectionsSListN_ImmutableCollectionsSAbstractImmutableList_size_lrI {a0 : Array Value} {Z : State} (hw : ∀ d ∈ tables_1, d.before a0 Z = true) : (Jvm.Cond.selects "java/util/ImmutableCollections$ListN" ({ cls := "java/util/ImmutableCollections$AbstractImmutableList", name := "size", desc := "()I" } : Jvm.MethodName) ({ cls := "java/util/ImmutableCollections$ListN", name := "size", desc := "()I" } : Jvm.MethodName)).before a0 Z = true := hw _ (List.mem_of_getElem? (i := 143) rfl)
theorem wm_ImmutableCollectionsSListN_size_lrI {a0 : Array Value} {Z : State} (hw : ∀ d ∈ tables_1, d.before a0 Z = true) : (Jvm.Cond.instanceMethod ({ cls := "java/util/ImmutableCollections$ListN", name := "size", desc := "()I" } : Jvm.MethodName)).before a0 Z = true := hw _ (List.mem_of_getElem? (i := 144) rfl)
theorem wi_ImmutableCollectionsSListN {a0 : Array Value} {Z : State} (hw : ∀ d ∈ tables_1, d.before a0 Z = true) : (Jvm.Cond.initialized "java/util/ImmutableCollections$ListN").before a0 Z = true := hw _ (List.mem_of_getElem? (i := 145) rfl)
theorem wb_ImmutableCollectionsSListN_size_lrI {a0 : Array Value} {Z : State} (hw : ∀ d ∈ tables_1, d.before a0 Z = true) : (Jvm.Cond.code ({ cls := "java/util/ImmutableCollections$ListN", name := "size", desc := "()I" } : Jvm.MethodName) jdk_45_method_3_code (1 : Nat) (Option.some Jvm.ClassFile.FieldType.int)).before a0 Z = true := hw _ (List.mem_of_getElem? (i := 146) rfl)
theorem wf_ImmutableCollectionsSListN_7 {a0 : Array Value} {Z : State} (hw : ∀ d ∈ tables_1, d.before a0 Z = true) : (Jvm.Cond.fieldLink "java/util/ImmutableCollections$ListN" (7 : Nat) "java/util/ImmutableCollections$ListN" "elements" "[Ljava/lang/Object;").before a0 Z = true := hw _ (List.mem_of_getElem? (i := 147) rfl)
theorem wy_ImmutableCollectionsSListN_ImmutableCollectionsSListN_elements {a0 : Array Value} {Z : State} (hw : ∀ d ∈ tables_1, d.before a0 Z = true) : (Jvm.Cond.laysFinal "java/util/ImmutableCollections$ListN" "java/util/ImmutableCollections$ListN" "elements" "[Ljava/lang/Object;").before a0 Z = true := hw _ (List.mem_of_getElem? (i := 148) rfl)
theorem wl_ImmutableCollectionsSAbstractImmutableList_63 {a0 : Array Value} {Z : State} (hw : ∀ d ∈ tables_1, d.before a0 Z = true) : (Jvm.Cond.methodLink "java/util/ImmutableCollections$AbstractImmutableList" (63 : Nat) ({ cls := "java/util/ImmutableCollections$ListItr", name := "<init>", desc := "(Ljava/util/List;I)V" } : Jvm.MethodName)).before a0 Z = true := hw _ (List.mem_of_getElem? (i := 149) rfl)
theorem wm_ImmutableCollectionsSListItr_init_lLjavautilListIrV {a0 : Array Value} {Z : State} (hw : ∀ d ∈ tables_1, d.before a0 Z = true) : (Jvm.Cond.instanceMethod ({ cls := "java/util/ImmutableCollections$ListItr", name := "<init>", desc := "(Ljava/util/List;I)V" } : Jvm.MethodName)).before a0 Z = true := hw _ (List.mem_of_getElem? (i := 150) rfl)
theorem wx_ImmutableCollectionsSListItr_ImmutableCollectionsSListItr {a0 : Array Value} {Z : State} (hw : ∀ d ∈ tables_1, d.before a0 Z = true) : (Jvm.Cond.castable "java/util/ImmutableCollections$ListItr" "java/util/ImmutableCollections$ListItr").before a0 Z = true := hw _ (List.mem_of_getElem? (i := 151) rfl)
theorem wb_ImmutableCollectionsSListItr_init_lLjavautilListIrV {a0 : Array Value} {Z : State} (hw : ∀ d ∈ tables_1, d.before a0 Z = true) : (Jvm.Cond.code ({ cls := "java/util/ImmutableCollections$ListItr", name := "<init>", desc := "(Ljava/util/List;I)V" } : Jvm.MethodName) jdk_53_method_1_code (3 : Nat) (Option.none : Option Jvm.ClassFile.FieldType)).before a0 Z = true := hw _ (List.mem_of_getElem? (i := 152) rfl)
theorem wl_ImmutableCollectionsSListItr_1 {a0 : Array Value} {Z : State} (hw : ∀ d ∈ tables_1, d.before a0 Z = true) : (Jvm.Cond.methodLink "java/util/ImmutableCollections$ListItr" (1 : Nat) ({ cls := "java/lang/Object", name := "<init>", desc := "()V" } : Jvm.MethodName)).before a0 Z = true := hw _ (List.mem_of_getElem? (i := 153) rfl)
theorem wf_ImmutableCollectionsSListItr_7 {a0 : Array Value} {Z : State} (hw : ∀ d ∈ tables_1, d.before a0 Z = true) : (Jvm.Cond.fieldLink "java/util/ImmutableCollections$ListItr" (7 : Nat) "java/util/ImmutableCollections$ListItr" "list" "Ljava/util/List;").before a0 Z = true := hw _ (List.mem_of_getElem? (i := 154) rfl)
theorem wy_ImmutableCollectionsSListItr_ImmutableCollectionsSListItr_list {a0 : Array Value} {Z : State} (hw : ∀ d ∈ tables_1, d.before a0 Z = true) : (Jvm.Cond.laysFinal "java/util/ImmutableCollections$ListItr" "java/util/ImmutableCollections$ListItr" "list" "Ljava/util/List;").before a0 Z = true := hw _ (List.mem_of_getElem? (i := 155) rfl)
theorem wf_ImmutableCollectionsSListItr_13 {a0 : Array Value} {Z : State} (hw : ∀ d ∈ tables_1, d.before a0 Z = true) : (Jvm.Cond.fieldLink "java/util/ImmutableCollections$ListItr" (13 : Nat) "java/util/ImmutableCollections$ListItr" "size" "I").before a0 Z = true := hw _ (List.mem_of_getElem? (i := 156) rfl)
theorem wy_ImmutableCollectionsSListItr_ImmutableCollectionsSListItr_size {a0 : Array Value} {Z : State} (hw : ∀ d ∈ tables_1, d.before a0 Z = true) : (Jvm.Cond.laysFinal "java/util/ImmutableCollections$ListItr" "java/util/ImmutableCollections$ListItr" "size" "I").before a0 Z = true := hw _ (List.mem_of_getElem? (i := 157) rfl)
theorem wf_ImmutableCollectionsSListItr_17 {a0 : Array Value} {Z : State} (hw : ∀ d ∈ tables_1, d.before a0 Z = true) : (Jvm.Cond.fieldLink "java/util/ImmutableCollections$ListItr" (17 : Nat) "java/util/ImmutableCollections$ListItr" "cursor" "I").before a0 Z = true := hw _ (List.mem_of_getElem? (i := 158) rfl)
theorem wy_ImmutableCollectionsSListItr_ImmutableCollectionsSListItr_cursor {a0 : Array Value} {Z : State} (hw : ∀ d ∈ tables_1, d.before a0 Z = true) : (Jvm.Cond.lays "java/util/ImmutableCollections$ListItr" "java/util/ImmutableCollections$ListItr" "cursor" "I").before a0 Z = true := hw _ (List.mem_of_getElem? (i := 159) rfl)
theorem wf_ImmutableCollectionsSListItr_20 {a0 : Array Value} {Z : State} (hw : ∀ d ∈ tables_1, d.before a0 Z = true) : (Jvm.Cond.fieldLink "java/util/ImmutableCollections$ListItr" (20 : Nat) "java/util/ImmutableCollections$ListItr" "isListIterator" "Z").before a0 Z = true := hw _ (List.mem_of_getElem? (i := 160) rfl)
theorem wy_ImmutableCollectionsSListItr_ImmutableCollectionsSListItr_isListIterator {a0 : Array Value} {Z : State} (hw : ∀ d ∈ tables_1, d.before a0 Z = true) : (Jvm.Cond.laysFinal "java/util/ImmutableCollections$ListItr" "java/util/ImmutableCollections$ListItr" "isListIterator" "Z").before a0 Z = true := hw _ (List.mem_of_getElem? (i := 161) rfl)
theorem wl_AbstractCollection_17 {a0 : Array Value} {Z : State} (hw : ∀ d ∈ tables_1, d.before a0 Z = true) : (Jvm.Cond.methodLink "java/util/AbstractCollection" (17 : Nat) ({ cls := "java/util/Iterator", name := "hasNext", desc := "()Z" } : Jvm.MethodName)).before a0 Z = true := hw _ (List.mem_of_getElem? (i := 162) rfl)
theorem wd_Iterator_hasNext_lrZ {a0 : Array Value} {Z : State} (hw : ∀ d ∈ tables_1, d.before a0 Z = true) : (Jvm.Cond.declares ({ cls := "java/util/Iterator", name := "hasNext", desc := "()Z" } : Jvm.MethodName)).before a0 Z = true := hw _ (List.mem_of_getElem? (i := 163) rfl)
theorem wg_Iterator_hasNext_lrZ {a0 : Array Value} {Z : State} (hw : ∀ d ∈ tables_1, d.before a0 Z = true) : (Jvm.Cond.interfaceMethod "java/util/Iterator" "java/util/Iterator" "hasNext" "()Z").before a0 Z = true := hw _ (List.mem_of_getElem? (i := 164) rfl)
theorem wv_ImmutableCollectionsSListItr_Iterator_hasNext_lrZ {a0 : Array Value} {Z : State} (hw : ∀ d ∈ tables_1, d.before a0 Z = true) : (Jvm.Cond.selects "java/util/ImmutableCollections$ListItr" ({ cls := "java/util/Iterator", name := "hasNext", desc := "()Z" } : Jvm.MethodName) ({ cls := "java/util/ImmutableCollections$ListItr", name := "hasNext", desc := "()Z" } : Jvm.MethodName)).before a0 Z = true := hw _ (List.mem_of_getElem? (i := 165) rfl)
theorem wm_ImmutableCollectionsSListItr_hasNext_lrZ {a0 : Array Value} {Z : State} (hw : ∀ d ∈ tables_1, d.before a0 Z = true) : (Jvm.Cond.instanceMethod ({ cls := "java/util/ImmutableCollections$ListItr", name := "hasNext", desc := "()Z" } : Jvm.MethodName)).before a0 Z = true := hw _ (List.mem_of_getElem? (i := 166) rfl)
theorem wp_ImmutableCollectionsSListItr_hasNext_lrZ {a0 : Array Value} {Z : State} (hw : ∀ d ∈ tables_1, d.before a0 Z = true) : (Jvm.Cond.publicMethod ({ cls := "java/util/ImmutableCollections$ListItr", name := "hasNext", desc := "()Z" } : Jvm.MethodName)).before a0 Z = true := hw _ (List.mem_of_getElem? (i := 167) rfl)
theorem wu_ImmutableCollectionsSListItr_hasNext_lrZ {a0 : Array Value} {Z : State} (hw : ∀ d ∈ tables_1, d.before a0 Z = true) : (Jvm.Cond.unhidden "java/util/ImmutableCollections$ListItr" "hasNext" "()Z").before a0 Z = true := hw _ (List.mem_of_getElem? (i := 168) rfl)
theorem wx_ImmutableCollectionsSListItr_Iterator {a0 : Array Value} {Z : State} (hw : ∀ d ∈ tables_1, d.before a0 Z = true) : (Jvm.Cond.castable "java/util/ImmutableCollections$ListItr" "java/util/Iterator").before a0 Z = true := hw _ (List.mem_of_getElem? (i := 169) rfl)
theorem wb_ImmutableCollectionsSListItr_hasNext_lrZ {a0 : Array Value} {Z : State} (hw : ∀ d ∈ tables_1, d.before a0 Z = true) : (Jvm.Cond.code ({ cls := "java/util/ImmutableCollections$ListItr", name := "hasNext", desc := "()Z" } : Jvm.MethodName) jdk_53_method_3_code (1 : Nat) (Option.some Jvm.ClassFile.FieldType.boolean)).before a0 Z = true := hw _ (List.mem_of_getElem? (i := 170) rfl)
theorem wt_AbstractCollection_92 {a0 : Array Value} {Z : State} (hw : ∀ d ∈ tables_1, d.before a0 Z = true) : (Jvm.Cond.stringLink "java/util/AbstractCollection" (92 : Nat) "[]").before a0 Z = true := hw _ (List.mem_of_getElem? (i := 171) rfl)
theorem wl_StringBuilder_23 {a0 : Array Value} {Z : State} (hw : ∀ d ∈ tables_1, d.before a0 Z = true) : (Jvm.Cond.methodLink "java/lang/StringBuilder" (23 : Nat) ({ cls := "java/lang/StringBuilder", name := "append", desc := "(Ljava/lang/String;)Ljava/lang/StringBuilder;" } : Jvm.MethodName)).before a0 Z = true := hw _ (List.mem_of_getElem? (i := 172) rfl)
theorem wd_StringBuilder_append_lLjavalangStringrLjavalangStringBuilder {a0 : Array Value} {Z : State} (hw : ∀ d ∈ tables_1, d.before a0 Z = true) : (Jvm.Cond.declares ({ cls := "java/lang/StringBuilder", name := "append", desc := "(Ljava/lang/String;)Ljava/lang/StringBuilder;" } : Jvm.MethodName)).before a0 Z = true := hw _ (List.mem_of_getElem? (i := 173) rfl)
theorem wm_StringBuilder_append_lLjavalangStringrLjavalangStringBuilder {a0 : Array Value} {Z : State} (hw : ∀ d ∈ tables_1, d.before a0 Z = true) : (Jvm.Cond.instanceMethod ({ cls := "java/lang/StringBuilder", name := "append", desc := "(Ljava/lang/String;)Ljava/lang/StringBuilder;" } : Jvm.MethodName)).before a0 Z = true := hw _ (List.mem_of_getElem? (i := 174) rfl)
theorem wv_StringBuilder_StringBuilder_append_lLjavalangStringrLjavalangStringBuilder {a0 : Array Value} {Z : State} (hw : ∀ d ∈ tables_1, d.before a0 Z = true) : (Jvm.Cond.selects "java/lang/StringBuilder" ({ cls := "java/lang/StringBuilder", name := "append", desc := "(Ljava/lang/String;)Ljava/lang/StringBuilder;" } : Jvm.MethodName) ({ cls := "java/lang/StringBuilder", name := "append", desc := "(Ljava/lang/String;)Ljava/lang/StringBuilder;" } : Jvm.MethodName)).before a0 Z = true := hw _ (List.mem_of_getElem? (i := 175) rfl)
theorem wb_StringBuilder_append_lLjavalangStringrLjavalangStringBuilder {a0 : Array Value} {Z : State} (hw : ∀ d ∈ tables_1, d.before a0 Z = true) : (Jvm.Cond.code ({ cls := "java/lang/StringBuilder", name := "append", desc := "(Ljava/lang/String;)Ljava/lang/StringBuilder;" } : Jvm.MethodName) jdk_67_method_7_code (2 : Nat) (Option.some (Jvm.ClassFile.FieldType.object "java/lang/StringBuilder"))).before a0 Z = true := hw _ (List.mem_of_getElem? (i := 176) rfl)
theorem wl_StringBuilder_29 {a0 : Array Value} {Z : State} (hw : ∀ d ∈ tables_1, d.before a0 Z = true) : (Jvm.Cond.methodLink "java/lang/StringBuilder" (29 : Nat) ({ cls := "java/lang/AbstractStringBuilder", name := "append", desc := "(Ljava/lang/String;)Ljava/lang/AbstractStringBuilder;" } : Jvm.MethodName)).before a0 Z = true := hw _ (List.mem_of_getElem? (i := 177) rfl)
theorem wm_AbstractStringBuilder_append_lLjavalangStringrLjavalangAbstractStringBuilder {a0 : Array Value} {Z : State} (hw : ∀ d ∈ tables_1, d.before a0 Z = true) : (Jvm.Cond.instanceMethod ({ cls := "java/lang/AbstractStringBuilder", name := "append", desc := "(Ljava/lang/String;)Ljava/lang/AbstractStringBuilder;" } : Jvm.MethodName)).before a0 Z = true := hw _ (List.mem_of_getElem? (i := 178) rfl)
theorem wz_StringBuilder_AbstractStringBuilder {a0 : Array Value} {Z : State} (hw : ∀ d ∈ tables_1, d.before a0 Z = true) : (Jvm.Cond.superclass "java/lang/StringBuilder" "java/lang/AbstractStringBuilder").before a0 Z = true := hw _ (List.mem_of_getElem? (i := 179) rfl)
theorem wd_AbstractStringBuilder_append_lLjavalangStringrLjavalangAbstractStringBuilder {a0 : Array Value} {Z : State} (hw : ∀ d ∈ tables_1, d.before a0 Z = true) : (Jvm.Cond.declares ({ cls := "java/lang/AbstractStringBuilder", name := "append", desc := "(Ljava/lang/String;)Ljava/lang/AbstractStringBuilder;" } : Jvm.MethodName)).before a0 Z = true := hw _ (List.mem_of_getElem? (i := 180) rfl)
theorem wb_AbstractStringBuilder_append_lLjavalangStringrLjavalangAbstractStringBuilder {a0 : Array Value} {Z : State} (hw : ∀ d ∈ tables_1, d.before a0 Z = true) : (Jvm.Cond.code ({ cls := "java/lang/AbstractStringBuilder", name := "append", desc := "(Ljava/lang/String;)Ljava/lang/AbstractStringBuilder;" } : Jvm.MethodName) jdk_68_method_22_code (3 : Nat) (Option.some (Jvm.ClassFile.FieldType.object "java/lang/AbstractStringBuilder"))).before a0 Z = true := hw _ (List.mem_of_getElem? (i := 181) rfl)
theorem wl_AbstractStringBuilder_32 {a0 : Array Value} {Z : State} (hw : ∀ d ∈ tables_1, d.before a0 Z = true) : (Jvm.Cond.methodLink "java/lang/AbstractStringBuilder" (32 : Nat) ({ cls := "java/lang/String", name := "length", desc := "()I" } : Jvm.MethodName)).before a0 Z = true := hw _ (List.mem_of_getElem? (i := 182) rfl)
theorem wd_String_length_lrI {a0 : Array Value} {Z : State} (hw : ∀ d ∈ tables_1, d.before a0 Z = true) : (Jvm.Cond.declares ({ cls := "java/lang/String", name := "length", desc := "()I" } : Jvm.MethodName)).before a0 Z = true := hw _ (List.mem_of_getElem? (i := 183) rfl)
theorem wm_String_length_lrI {a0 : Array Value} {Z : State} (hw : ∀ d ∈ tables_1, d.before a0 Z = true) : (Jvm.Cond.instanceMethod ({ cls := "java/lang/String", name := "length", desc := "()I" } : Jvm.MethodName)).before a0 Z = true := hw _ (List.mem_of_getElem? (i := 184) rfl)
theorem wv_String_String_length_lrI {a0 : Array Value} {Z : State} (hw : ∀ d ∈ tables_1, d.before a0 Z = true) : (Jvm.Cond.selects "java/lang/String" ({ cls := "java/lang/String", name := "length", desc := "()I" } : Jvm.MethodName) ({ cls := "java/lang/String", name := "length", desc := "()I" } : Jvm.MethodName)).before a0 Z = true := hw _ (List.mem_of_getElem? (i := 185) rfl)
theorem wb_String_length_lrI {a0 : Array Value} {Z : State} (hw : ∀ d ∈ tables_1, d.before a0 Z = true) : (Jvm.Cond.code ({ cls := "java/lang/String", name := "length", desc := "()I" } : Jvm.MethodName) jdk_42_method_54_code (1 : Nat) (Option.some Jvm.ClassFile.FieldType.int)).before a0 Z = true := hw _ (List.mem_of_getElem? (i := 186) rfl)
theorem wl_String_335 {a0 : Array Value} {Z : State} (hw : ∀ d ∈ tables_1, d.before a0 Z = true) : (Jvm.Cond.methodLink "java/lang/String" (335 : Nat) ({ cls := "java/lang/String", name := "coder", desc := "()B" } : Jvm.MethodName)).before a0 Z = true := hw _ (List.mem_of_getElem? (i := 187) rfl)
theorem wd_String_coder_lrB {a0 : Array Value} {Z : State} (hw : ∀ d ∈ tables_1, d.before a0 Z = true) : (Jvm.Cond.declares ({ cls := "java/lang/String", name := "coder", desc := "()B" } : Jvm.MethodName)).before a0 Z = true := hw _ (List.mem_of_getElem? (i := 188) rfl)
theorem wm_String_coder_lrB {a0 : Array Value} {Z : State} (hw : ∀ d ∈ tables_1, d.before a0 Z = true) : (Jvm.Cond.instanceMethod ({ cls := "java/lang/String", name := "coder", desc := "()B" } : Jvm.MethodName)).before a0 Z = true := hw _ (List.mem_of_getElem? (i := 189) rfl)
theorem wv_String_String_coder_lrB {a0 : Array Value} {Z : State} (hw : ∀ d ∈ tables_1, d.before a0 Z = true) : (Jvm.Cond.selects "java/lang/String" ({ cls := "java/lang/String", name := "coder", desc := "()B" } : Jvm.MethodName) ({ cls := "java/lang/String", name := "coder", desc := "()B" } : Jvm.MethodName)).before a0 Z = true := hw _ (List.mem_of_getElem? (i := 190) rfl)
theorem wb_String_coder_lrB {a0 : Array Value} {Z : State} (hw : ∀ d ∈ tables_1, d.before a0 Z = true) : (Jvm.Cond.code ({ cls := "java/lang/String", name := "coder", desc := "()B" } : Jvm.MethodName) jdk_42_method_152_code (1 : Nat) (Option.some Jvm.ClassFile.FieldType.byte)).before a0 Z = true := hw _ (List.mem_of_getElem? (i := 191) rfl)
theorem wf_String_38 {a0 : Array Value} {Z : State} (hw : ∀ d ∈ tables_1, d.before a0 Z = true) : (Jvm.Cond.fieldLink "java/lang/String" (38 : Nat) "java/lang/String" "COMPACT_STRINGS" "Z").before a0 Z = true := hw _ (List.mem_of_getElem? (i := 192) rfl)
theorem wf_AbstractStringBuilder_79 {a0 : Array Value} {Z : State} (hw : ∀ d ∈ tables_1, d.before a0 Z = true) : (Jvm.Cond.fieldLink "java/lang/AbstractStringBuilder" (79 : Nat) "java/lang/AbstractStringBuilder" "count" "I").before a0 Z = true := hw _ (List.mem_of_getElem? (i := 193) rfl)
theorem wy_StringBuilder_AbstractStringBuilder_count {a0 : Array Value} {Z : State} (hw : ∀ d ∈ tables_1, d.before a0 Z = true) : (Jvm.Cond.lays "java/lang/StringBuilder" "java/lang/AbstractStringBuilder" "count" "I").before a0 Z = true := hw _ (List.mem_of_getElem? (i := 194) rfl)
theorem wl_AbstractStringBuilder_100 {a0 : Array Value} {Z : State} (hw : ∀ d ∈ tables_1, d.before a0 Z = true) : (Jvm.Cond.methodLink "java/lang/AbstractStringBuilder" (100 : Nat) ({ cls := "java/lang/AbstractStringBuilder", name := "ensureCapacityInternal", desc := "(I)V" } : Jvm.MethodName)).before a0 Z = true := hw _ (List.mem_of_getElem? (i := 195) rfl)
theorem wm_AbstractStringBuilder_ensureCapacityInternal_lIrV {a0 : Array Value} {Z : State} (hw : ∀ d ∈ tables_1, d.before a0 Z = true) : (Jvm.Cond.instanceMethod ({ cls := "java/lang/AbstractStringBuilder", name := "ensureCapacityInternal", desc := "(I)V" } : Jvm.MethodName)).before a0 Z = true := hw _ (List.mem_of_getElem? (i := 196) rfl)
theorem wq_AbstractStringBuilder_ensureCapacityInternal_lIrV {a0 : Array Value} {Z : State} (hw : ∀ d ∈ tables_1, d.before a0 Z = true) : (Jvm.Cond.privateMethod ({ cls := "java/lang/AbstractStringBuilder", name := "ensureCapacityInternal", desc := "(I)V" } : Jvm.MethodName)).before a0 Z = true := hw _ (List.mem_of_getElem? (i := 197) rfl)
theorem wv_StringBuilder_AbstractStringBuilder_ensureCapacityInternal_lIrV {a0 : Array Value} {Z : State} (hw : ∀ d ∈ tables_1, d.before a0 Z = true) : (Jvm.Cond.selects "java/lang/StringBuilder" ({ cls := "java/lang/AbstractStringBuilder", name := "ensureCapacityInternal", desc := "(I)V" } : Jvm.MethodName) ({ cls := "java/lang/AbstractStringBuilder", name := "ensureCapacityInternal", desc := "(I)V" } : Jvm.MethodName)).before a0 Z = true := hw _ (List.mem_of_getElem? (i := 198) rfl)
theorem wb_AbstractStringBuilder_ensureCapacityInternal_lIrV {a0 : Array Value} {Z : State} (hw : ∀ d ∈ tables_1, d.before a0 Z = true) : (Jvm.Cond.code ({ cls := "java/lang/AbstractStringBuilder", name := "ensureCapacityInternal", desc := "(I)V" } : Jvm.MethodName) jdk_68_method_9_code (3 : Nat) (Option.none : Option Jvm.ClassFile.FieldType)).before a0 Z = true := hw _ (List.mem_of_getElem? (i := 199) rfl)
theorem wl_AbstractStringBuilder_208 {a0 : Array Value} {Z : State} (hw : ∀ d ∈ tables_1, d.before a0 Z = true) : (Jvm.Cond.methodLink "java/lang/AbstractStringBuilder" (208 : Nat) ({ cls := "java/lang/AbstractStringBuilder", name := "putStringAt", desc := "(ILjava/lang/String;)V" } : Jvm.MethodName)).before a0 Z = true := hw _ (List.mem_of_getElem? (i := 200) rfl)
theorem wm_AbstractStringBuilder_putStringAt_lILjavalangStringrV {a0 : Array Value} {Z : State} (hw : ∀ d ∈ tables_1, d.before a0 Z = true) : (Jvm.Cond.instanceMethod ({ cls := "java/lang/AbstractStringBuilder", name := "putStringAt", desc := "(ILjava/lang/String;)V" } : Jvm.MethodName)).before a0 Z = true := hw _ (List.mem_of_getElem? (i := 201) rfl)
theorem wq_AbstractStringBuilder_putStringAt_lILjavalangStringrV {a0 : Array Value} {Z : State} (hw : ∀ d ∈ tables_1, d.before a0 Z = true) : (Jvm.Cond.privateMethod ({ cls := "java/lang/AbstractStringBuilder", name := "putStringAt", desc := "(ILjava/lang/String;)V" } : Jvm.MethodName)).before a0 Z = true := hw _ (List.mem_of_getElem? (i := 202) rfl)
theorem wv_StringBuilder_AbstractStringBuilder_putStringAt_lILjavalangStringrV {a0 : Array Value} {Z : State} (hw : ∀ d ∈ tables_1, d.before a0 Z = true) : (Jvm.Cond.selects "java/lang/StringBuilder" ({ cls := "java/lang/AbstractStringBuilder", name := "putStringAt", desc := "(ILjava/lang/String;)V" } : Jvm.MethodName) ({ cls := "java/lang/AbstractStringBuilder", name := "putStringAt", desc := "(ILjava/lang/String;)V" } : Jvm.MethodName)).before a0 Z = true := hw _ (List.mem_of_getElem? (i := 203) rfl)
theorem wb_AbstractStringBuilder_putStringAt_lILjavalangStringrV {a0 : Array Value} {Z : State} (hw : ∀ d ∈ tables_1, d.before a0 Z = true) : (Jvm.Cond.code ({ cls := "java/lang/AbstractStringBuilder", name := "putStringAt", desc := "(ILjava/lang/String;)V" } : Jvm.MethodName) jdk_68_method_73_code (3 : Nat) (Option.none : Option Jvm.ClassFile.FieldType)).before a0 Z = true := hw _ (List.mem_of_getElem? (i := 204) rfl)
theorem wl_AbstractStringBuilder_397 {a0 : Array Value} {Z : State} (hw : ∀ d ∈ tables_1, d.before a0 Z = true) : (Jvm.Cond.methodLink "java/lang/AbstractStringBuilder" (397 : Nat) ({ cls := "java/lang/AbstractStringBuilder", name := "inflateIfNeededFor", desc := "(Ljava/lang/String;)V" } : Jvm.MethodName)).before a0 Z = true := hw _ (List.mem_of_getElem? (i := 205) rfl)
theorem wm_AbstractStringBuilder_inflateIfNeededFor_lLjavalangStringrV {a0 : Array Value} {Z : State} (hw : ∀ d ∈ tables_1, d.before a0 Z = true) : (Jvm.Cond.instanceMethod ({ cls := "java/lang/AbstractStringBuilder", name := "inflateIfNeededFor", desc := "(Ljava/lang/String;)V" } : Jvm.MethodName)).before a0 Z = true := hw _ (List.mem_of_getElem? (i := 206) rfl)
theorem wq_AbstractStringBuilder_inflateIfNeededFor_lLjavalangStringrV {a0 : Array Value} {Z : State} (hw : ∀ d ∈ tables_1, d.before a0 Z = true) : (Jvm.Cond.privateMethod ({ cls := "java/lang/AbstractStringBuilder", name := "inflateIfNeededFor", desc := "(Ljava/lang/String;)V" } : Jvm.MethodName)).before a0 Z = true := hw _ (List.mem_of_getElem? (i := 207) rfl)
theorem wv_StringBuilder_AbstractStringBuilder_inflateIfNeededFor_lLjavalangStringrV {a0 : Array Value} {Z : State} (hw : ∀ d ∈ tables_1, d.before a0 Z = true) : (Jvm.Cond.selects "java/lang/StringBuilder" ({ cls := "java/lang/AbstractStringBuilder", name := "inflateIfNeededFor", desc := "(Ljava/lang/String;)V" } : Jvm.MethodName) ({ cls := "java/lang/AbstractStringBuilder", name := "inflateIfNeededFor", desc := "(Ljava/lang/String;)V" } : Jvm.MethodName)).before a0 Z = true := hw _ (List.mem_of_getElem? (i := 208) rfl)
theorem wb_AbstractStringBuilder_inflateIfNeededFor_lLjavalangStringrV {a0 : Array Value} {Z : State} (hw : ∀ d ∈ tables_1, d.before a0 Z = true) : (Jvm.Cond.code ({ cls := "java/lang/AbstractStringBuilder", name := "inflateIfNeededFor", desc := "(Ljava/lang/String;)V" } : Jvm.MethodName) jdk_68_method_71_code (2 : Nat) (Option.none : Option Jvm.ClassFile.FieldType)).before a0 Z = true := hw _ (List.mem_of_getElem? (i := 209) rfl)
theorem wl_AbstractStringBuilder_40 {a0 : Array Value} {Z : State} (hw : ∀ d ∈ tables_1, d.before a0 Z = true) : (Jvm.Cond.methodLink "java/lang/AbstractStringBuilder" (40 : Nat) ({ cls := "java/lang/String", name := "coder", desc := "()B" } : Jvm.MethodName)).before a0 Z = true := hw _ (List.mem_of_getElem? (i := 210) rfl)
theorem wl_AbstractStringBuilder_399 {a0 : Array Value} {Z : State} (hw : ∀ d ∈ tables_1, d.before a0 Z = true) : (Jvm.Cond.methodLink "java/lang/AbstractStringBuilder" (399 : Nat) ({ cls := "java/lang/String", name := "getBytes", desc := "([BIB)V" } : Jvm.MethodName)).before a0 Z = true := hw _ (List.mem_of_getElem? (i := 211) rfl)
theorem wd_String_getBytes_lABIBrV {a0 : Array Value} {Z : State} (hw : ∀ d ∈ tables_1, d.before a0 Z = true) : (Jvm.Cond.declares ({ cls := "java/lang/String", name := "getBytes", desc := "([BIB)V" } : Jvm.MethodName)).before a0 Z = true := hw _ (List.mem_of_getElem? (i := 212) rfl)
theorem wm_String_getBytes_lABIBrV {a0 : Array Value} {Z : State} (hw : ∀ d ∈ tables_1, d.before a0 Z = true) : (Jvm.Cond.instanceMethod ({ cls := "java/lang/String", name := "getBytes", desc := "([BIB)V" } : Jvm.MethodName)).before a0 Z = true := hw _ (List.mem_of_getElem? (i := 213) rfl)
theorem wv_String_String_getBytes_lABIBrV {a0 : Array Value} {Z : State} (hw : ∀ d ∈ tables_1, d.before a0 Z = true) : (Jvm.Cond.selects "java/lang/String" ({ cls := "java/lang/String", name := "getBytes", desc := "([BIB)V" } : Jvm.MethodName) ({ cls := "java/lang/String", name := "getBytes", desc := "([BIB)V" } : Jvm.MethodName)).before a0 Z = true := hw _ (List.mem_of_getElem? (i := 214) rfl)
theorem wb_String_getBytes_lABIBrV {a0 : Array Value} {Z : State} (hw : ∀ d ∈ tables_1, d.before a0 Z = true) : (Jvm.Cond.code ({ cls := "java/lang/String", name := "getBytes", desc := "([BIB)V" } : Jvm.MethodName) jdk_42_method_147_code (4 : Nat) (Option.none : Option Jvm.ClassFile.FieldType)).before a0 Z = true := hw _ (List.mem_of_getElem? (i := 215) rfl)
theorem wl_String_212 {a0 : Array Value} {Z : State} (hw : ∀ d ∈ tables_1, d.before a0 Z = true) : (Jvm.Cond.methodLink "java/lang/String" (212 : Nat) ({ cls := "java/lang/System", name := "arraycopy", desc := "(Ljava/lang/Object;ILjava/lang/Object;II)V" } : Jvm.MethodName)).before a0 Z = true := hw _ (List.mem_of_getElem? (i := 216) rfl)
theorem ws_System_arraycopy_lLjavalangObjectILjavalangObjectIIrV {a0 : Array Value} {Z : State} (hw : ∀ d ∈ tables_1, d.before a0 Z = true) : (Jvm.Cond.static ({ cls := "java/lang/System", name := "arraycopy", desc := "(Ljava/lang/Object;ILjava/lang/Object;II)V" } : Jvm.MethodName)).before a0 Z = true := hw _ (List.mem_of_getElem? (i := 217) rfl)
theorem wi_System {a0 : Array Value} {Z : State} (hw : ∀ d ∈ tables_1, d.before a0 Z = true) : (Jvm.Cond.initialized "java/lang/System").before a0 Z = true := hw _ (List.mem_of_getElem? (i := 218) rfl)
theorem wn_System_arraycopy_lLjavalangObjectILjavalangObjectIIrV {a0 : Array Value} {Z : State} (hw : ∀ d ∈ tables_1, d.before a0 Z = true) : (Jvm.Cond.native ({ cls := "java/lang/System", name := "arraycopy", desc := "(Ljava/lang/Object;ILjava/lang/Object;II)V" } : Jvm.MethodName)).before a0 Z = true := hw _ (List.mem_of_getElem? (i := 219) rfl)
theorem wt_CollectionDocumentSText_43 {a0 : Array Value} {Z : State} (hw : ∀ d ∈ tables_1, d.before a0 Z = true) : (Jvm.Cond.stringLink "com/example/simple_rocchio/simplerocchio/CollectionDocument$Text" (43 : Nat) ": ").before a0 Z = true := hw _ (List.mem_of_getElem? (i := 220) rfl)
theorem wl_CollectionDocumentSText_45 {a0 : Array Value} {Z : State} (hw : ∀ d ∈ tables_1, d.before a0 Z = true) : (Jvm.Cond.methodLink "com/example/simple_rocchio/simplerocchio/CollectionDocument$Text" (45 : Nat) ({ cls := "java/lang/StringBuilder", name := "append", desc := "(Ljava/lang/String;)Ljava/lang/StringBuilder;" } : Jvm.MethodName)).before a0 Z = true := hw _ (List.mem_of_getElem? (i := 221) rfl)
theorem wl_CollectionDocumentSText_48 {a0 : Array Value} {Z : State} (hw : ∀ d ∈ tables_1, d.before a0 Z = true) : (Jvm.Cond.methodLink "com/example/simple_rocchio/simplerocchio/CollectionDocument$Text" (48 : Nat) ({ cls := "java/lang/StringBuilder", name := "toString", desc := "()Ljava/lang/String;" } : Jvm.MethodName)).before a0 Z = true := hw _ (List.mem_of_getElem? (i := 222) rfl)
theorem wd_StringBuilder_toString_lrLjavalangString {a0 : Array Value} {Z : State} (hw : ∀ d ∈ tables_1, d.before a0 Z = true) : (Jvm.Cond.declares ({ cls := "java/lang/StringBuilder", name := "toString", desc := "()Ljava/lang/String;" } : Jvm.MethodName)).before a0 Z = true := hw _ (List.mem_of_getElem? (i := 223) rfl)
theorem wm_StringBuilder_toString_lrLjavalangString {a0 : Array Value} {Z : State} (hw : ∀ d ∈ tables_1, d.before a0 Z = true) : (Jvm.Cond.instanceMethod ({ cls := "java/lang/StringBuilder", name := "toString", desc := "()Ljava/lang/String;" } : Jvm.MethodName)).before a0 Z = true := hw _ (List.mem_of_getElem? (i := 224) rfl)
theorem wv_StringBuilder_StringBuilder_toString_lrLjavalangString {a0 : Array Value} {Z : State} (hw : ∀ d ∈ tables_1, d.before a0 Z = true) : (Jvm.Cond.selects "java/lang/StringBuilder" ({ cls := "java/lang/StringBuilder", name := "toString", desc := "()Ljava/lang/String;" } : Jvm.MethodName) ({ cls := "java/lang/StringBuilder", name := "toString", desc := "()Ljava/lang/String;" } : Jvm.MethodName)).before a0 Z = true := hw _ (List.mem_of_getElem? (i := 225) rfl)
theorem wb_StringBuilder_toString_lrLjavalangString {a0 : Array Value} {Z : State} (hw : ∀ d ∈ tables_1, d.before a0 Z = true) : (Jvm.Cond.code ({ cls := "java/lang/StringBuilder", name := "toString", desc := "()Ljava/lang/String;" } : Jvm.MethodName) jdk_67_method_42_code (1 : Nat) (Option.some (Jvm.ClassFile.FieldType.object "java/lang/String"))).before a0 Z = true := hw _ (List.mem_of_getElem? (i := 226) rfl)
theorem wc_StringBuilder_18 {a0 : Array Value} {Z : State} (hw : ∀ d ∈ tables_1, d.before a0 Z = true) : (Jvm.Cond.classLink "java/lang/StringBuilder" (18 : Nat) "java/lang/String").before a0 Z = true := hw _ (List.mem_of_getElem? (i := 227) rfl)
theorem wl_StringBuilder_137 {a0 : Array Value} {Z : State} (hw : ∀ d ∈ tables_1, d.before a0 Z = true) : (Jvm.Cond.methodLink "java/lang/StringBuilder" (137 : Nat) ({ cls := "java/lang/String", name := "<init>", desc := "(Ljava/lang/StringBuilder;)V" } : Jvm.MethodName)).before a0 Z = true := hw _ (List.mem_of_getElem? (i := 228) rfl)
theorem wm_String_init_lLjavalangStringBuilderrV {a0 : Array Value} {Z : State} (hw : ∀ d ∈ tables_1, d.before a0 Z = true) : (Jvm.Cond.instanceMethod ({ cls := "java/lang/String", name := "<init>", desc := "(Ljava/lang/StringBuilder;)V" } : Jvm.MethodName)).before a0 Z = true := hw _ (List.mem_of_getElem? (i := 229) rfl)
theorem wb_String_init_lLjavalangStringBuilderrV {a0 : Array Value} {Z : State} (hw : ∀ d ∈ tables_1, d.before a0 Z = true) : (Jvm.Cond.code ({ cls := "java/lang/String", name := "<init>", desc := "(Ljava/lang/StringBuilder;)V" } : Jvm.MethodName) jdk_42_method_53_code (2 : Nat) (Option.none : Option Jvm.ClassFile.FieldType)).before a0 Z = true := hw _ (List.mem_of_getElem? (i := 230) rfl)
theorem wl_String_489 {a0 : Array Value} {Z : State} (hw : ∀ d ∈ tables_1, d.before a0 Z = true) : (Jvm.Cond.methodLink "java/lang/String" (489 : Nat) ({ cls := "java/lang/String", name := "<init>", desc := "(Ljava/lang/AbstractStringBuilder;Ljava/lang/Void;)V" } : Jvm.MethodName)).before a0 Z = true := hw _ (List.mem_of_getElem? (i := 231) rfl)
theorem wm_String_init_lLjavalangAbstractStringBuilderLjavalangVoidrV {a0 : Array Value} {Z : State} (hw : ∀ d ∈ tables_1, d.before a0 Z = true) : (Jvm.Cond.instanceMethod ({ cls := "java/lang/String", name := "<init>", desc := "(Ljava/lang/AbstractStringBuilder;Ljava/lang/Void;)V" } : Jvm.MethodName)).before a0 Z = true := hw _ (List.mem_of_getElem? (i := 232) rfl)
theorem wb_String_init_lLjavalangAbstractStringBuilderLjavalangVoidrV {a0 : Array Value} {Z : State} (hw : ∀ d ∈ tables_1, d.before a0 Z = true) : (Jvm.Cond.code ({ cls := "java/lang/String", name := "<init>", desc := "(Ljava/lang/AbstractStringBuilder;Ljava/lang/Void;)V" } : Jvm.MethodName) jdk_42_method_150_code (5 : Nat) (Option.none : Option Jvm.ClassFile.FieldType)).before a0 Z = true := hw _ (List.mem_of_getElem? (i := 233) rfl)
theorem wl_String_552 {a0 : Array Value} {Z : State} (hw : ∀ d ∈ tables_1, d.before a0 Z = true) : (Jvm.Cond.methodLink "java/lang/String" (552 : Nat) ({ cls := "java/lang/AbstractStringBuilder", name := "getValue", desc := "()[B" } : Jvm.MethodName)).before a0 Z = true := hw _ (List.mem_of_getElem? (i := 234) rfl)
theorem wd_AbstractStringBuilder_getValue_lrAB {a0 : Array Value} {Z : State} (hw : ∀ d ∈ tables_1, d.before a0 Z = true) : (Jvm.Cond.declares ({ cls := "java/lang/AbstractStringBuilder", name := "getValue", desc := "()[B" } : Jvm.MethodName)).before a0 Z = true := hw _ (List.mem_of_getElem? (i := 235) rfl)
theorem wm_AbstractStringBuilder_getValue_lrAB {a0 : Array Value} {Z : State} (hw : ∀ d ∈ tables_1, d.before a0 Z = true) : (Jvm.Cond.instanceMethod ({ cls := "java/lang/AbstractStringBuilder", name := "getValue", desc := "()[B" } : Jvm.MethodName)).before a0 Z = true := hw _ (List.mem_of_getElem? (i := 236) rfl)
theorem wv_StringBuilder_AbstractStringBuilder_getValue_lrAB {a0 : Array Value} {Z : State} (hw : ∀ d ∈ tables_1, d.before a0 Z = true) : (Jvm.Cond.selects "java/lang/StringBuilder" ({ cls := "java/lang/AbstractStringBuilder", name := "getValue", desc := "()[B" } : Jvm.MethodName) ({ cls := "java/lang/AbstractStringBuilder", name := "getValue", desc := "()[B" } : Jvm.MethodName)).before a0 Z = true := hw _ (List.mem_of_getElem? (i := 237) rfl)
theorem wb_AbstractStringBuilder_getValue_lrAB {a0 : Array Value} {Z : State} (hw : ∀ d ∈ tables_1, d.before a0 Z = true) : (Jvm.Cond.code ({ cls := "java/lang/AbstractStringBuilder", name := "getValue", desc := "()[B" } : Jvm.MethodName) jdk_68_method_64_code (1 : Nat) (Option.some (Jvm.ClassFile.FieldType.array Jvm.ClassFile.FieldType.byte))).before a0 Z = true := hw _ (List.mem_of_getElem? (i := 238) rfl)
theorem wl_String_549 {a0 : Array Value} {Z : State} (hw : ∀ d ∈ tables_1, d.before a0 Z = true) : (Jvm.Cond.methodLink "java/lang/String" (549 : Nat) ({ cls := "java/lang/AbstractStringBuilder", name := "length", desc := "()I" } : Jvm.MethodName)).before a0 Z = true := hw _ (List.mem_of_getElem? (i := 239) rfl)
theorem wd_AbstractStringBuilder_length_lrI {a0 : Array Value} {Z : State} (hw : ∀ d ∈ tables_1, d.before a0 Z = true) : (Jvm.Cond.declares ({ cls := "java/lang/AbstractStringBuilder", name := "length", desc := "()I" } : Jvm.MethodName)).before a0 Z = true := hw _ (List.mem_of_getElem? (i := 240) rfl)
theorem wm_AbstractStringBuilder_length_lrI {a0 : Array Value} {Z : State} (hw : ∀ d ∈ tables_1, d.before a0 Z = true) : (Jvm.Cond.instanceMethod ({ cls := "java/lang/AbstractStringBuilder", name := "length", desc := "()I" } : Jvm.MethodName)).before a0 Z = true := hw _ (List.mem_of_getElem? (i := 241) rfl)
theorem wv_StringBuilder_AbstractStringBuilder_length_lrI {a0 : Array Value} {Z : State} (hw : ∀ d ∈ tables_1, d.before a0 Z = true) : (Jvm.Cond.selects "java/lang/StringBuilder" ({ cls := "java/lang/AbstractStringBuilder", name := "length", desc := "()I" } : Jvm.MethodName) ({ cls := "java/lang/StringBuilder", name := "length", desc := "()I" } : Jvm.MethodName)).before a0 Z = true := hw _ (List.mem_of_getElem? (i := 242) rfl)
theorem wm_StringBuilder_length_lrI {a0 : Array Value} {Z : State} (hw : ∀ d ∈ tables_1, d.before a0 Z = true) : (Jvm.Cond.instanceMethod ({ cls := "java/lang/StringBuilder", name := "length", desc := "()I" } : Jvm.MethodName)).before a0 Z = true := hw _ (List.mem_of_getElem? (i := 243) rfl)
theorem wb_StringBuilder_length_lrI {a0 : Array Value} {Z : State} (hw : ∀ d ∈ tables_1, d.before a0 Z = true) : (Jvm.Cond.code ({ cls := "java/lang/StringBuilder", name := "length", desc := "()I" } : Jvm.MethodName) jdk_67_method_93_code (1 : Nat) (Option.some Jvm.ClassFile.FieldType.int)).before a0 Z = true := hw _ (List.mem_of_getElem? (i := 244) rfl)
theorem wl_StringBuilder_343 {a0 : Array Value} {Z : State} (hw : ∀ d ∈ tables_1, d.before a0 Z = true) : (Jvm.Cond.methodLink "java/lang/StringBuilder" (343 : Nat) ({ cls := "java/lang/AbstractStringBuilder", name := "length", desc := "()I" } : Jvm.MethodName)).before a0 Z = true := hw _ (List.mem_of_getElem? (i := 245) rfl)
theorem wb_AbstractStringBuilder_length_lrI {a0 : Array Value} {Z : State} (hw : ∀ d ∈ tables_1, d.before a0 Z = true) : (Jvm.Cond.code ({ cls := "java/lang/AbstractStringBuilder", name := "length", desc := "()I" } : Jvm.MethodName) jdk_68_method_6_code (1 : Nat) (Option.some Jvm.ClassFile.FieldType.int)).before a0 Z = true := hw _ (List.mem_of_getElem? (i := 246) rfl)
theorem wl_String_1047 {a0 : Array Value} {Z : State} (hw : ∀ d ∈ tables_1, d.before a0 Z = true) : (Jvm.Cond.methodLink "java/lang/String" (1047 : Nat) ({ cls := "java/lang/AbstractStringBuilder", name := "isLatin1", desc := "()Z" } : Jvm.MethodName)).before a0 Z = true := hw _ (List.mem_of_getElem? (i := 247) rfl)
theorem wd_AbstractStringBuilder_isLatin1_lrZ {a0 : Array Value} {Z : State} (hw : ∀ d ∈ tables_1, d.before a0 Z = true) : (Jvm.Cond.declares ({ cls := "java/lang/AbstractStringBuilder", name := "isLatin1", desc := "()Z" } : Jvm.MethodName)).before a0 Z = true := hw _ (List.mem_of_getElem? (i := 248) rfl)
theorem wm_AbstractStringBuilder_isLatin1_lrZ {a0 : Array Value} {Z : State} (hw : ∀ d ∈ tables_1, d.before a0 Z = true) : (Jvm.Cond.instanceMethod ({ cls := "java/lang/AbstractStringBuilder", name := "isLatin1", desc := "()Z" } : Jvm.MethodName)).before a0 Z = true := hw _ (List.mem_of_getElem? (i := 249) rfl)
theorem wv_StringBuilder_AbstractStringBuilder_isLatin1_lrZ {a0 : Array Value} {Z : State} (hw : ∀ d ∈ tables_1, d.before a0 Z = true) : (Jvm.Cond.selects "java/lang/StringBuilder" ({ cls := "java/lang/AbstractStringBuilder", name := "isLatin1", desc := "()Z" } : Jvm.MethodName) ({ cls := "java/lang/AbstractStringBuilder", name := "isLatin1", desc := "()Z" } : Jvm.MethodName)).before a0 Z = true := hw _ (List.mem_of_getElem? (i := 250) rfl)
theorem wb_AbstractStringBuilder_isLatin1_lrZ {a0 : Array Value} {Z : State} (hw : ∀ d ∈ tables_1, d.before a0 Z = true) : (Jvm.Cond.code ({ cls := "java/lang/AbstractStringBuilder", name := "isLatin1", desc := "()Z" } : Jvm.MethodName) jdk_68_method_68_code (1 : Nat) (Option.some Jvm.ClassFile.FieldType.boolean)).before a0 Z = true := hw _ (List.mem_of_getElem? (i := 251) rfl)
theorem wl_String_54 {a0 : Array Value} {Z : State} (hw : ∀ d ∈ tables_1, d.before a0 Z = true) : (Jvm.Cond.methodLink "java/lang/String" (54 : Nat) ({ cls := "java/util/Arrays", name := "copyOfRange", desc := "([BII)[B" } : Jvm.MethodName)).before a0 Z = true := hw _ (List.mem_of_getElem? (i := 252) rfl)
theorem ws_Arrays_copyOfRange_lABIIrAB {a0 : Array Value} {Z : State} (hw : ∀ d ∈ tables_1, d.before a0 Z = true) : (Jvm.Cond.static ({ cls := "java/util/Arrays", name := "copyOfRange", desc := "([BII)[B" } : Jvm.MethodName)).before a0 Z = true := hw _ (List.mem_of_getElem? (i := 253) rfl)
theorem wi_Arrays {a0 : Array Value} {Z : State} (hw : ∀ d ∈ tables_1, d.before a0 Z = true) : (Jvm.Cond.initialized "java/util/Arrays").before a0 Z = true := hw _ (List.mem_of_getElem? (i := 254) rfl)
theorem wb_Arrays_copyOfRange_lABIIrAB {a0 : Array Value} {Z : State} (hw : ∀ d ∈ tables_1, d.before a0 Z = true) : (Jvm.Cond.code ({ cls := "java/util/Arrays", name := "copyOfRange", desc := "([BII)[B" } : Jvm.MethodName) jdk_65_method_132_code (3 : Nat) (Option.some (Jvm.ClassFile.FieldType.array Jvm.ClassFile.FieldType.byte))).before a0 Z = true := hw _ (List.mem_of_getElem? (i := 255) rfl)
theorem wl_Arrays_339 {a0 : Array Value} {Z : State} (hw : ∀ d ∈ tables_1, d.before a0 Z = true) : (Jvm.Cond.methodLink "java/util/Arrays" (339 : Nat) ({ cls := "java/util/Arrays", name := "copyOfRangeByte", desc := "([BII)[B" } : Jvm.MethodName)).before a0 Z = true := hw _ (List.mem_of_getElem? (i := 256) rfl)
theorem ws_Arrays_copyOfRangeByte_lABIIrAB {a0 : Array Value} {Z : State} (hw : ∀ d ∈ tables_1, d.before a0 Z = true) : (Jvm.Cond.static ({ cls := "java/util/Arrays", name := "copyOfRangeByte", desc := "([BII)[B" } : Jvm.MethodName)).before a0 Z = true := hw _ (List.mem_of_getElem? (i := 257) rfl)
theorem wb_Arrays_copyOfRangeByte_lABIIrAB {a0 : Array Value} {Z : State} (hw : ∀ d ∈ tables_1, d.before a0 Z = true) : (Jvm.Cond.code ({ cls := "java/util/Arrays", name := "copyOfRangeByte", desc := "([BII)[B" } : Jvm.MethodName) jdk_65_method_133_code (5 : Nat) (Option.some (Jvm.ClassFile.FieldType.array Jvm.ClassFile.FieldType.byte))).before a0 Z = true := hw _ (List.mem_of_getElem? (i := 258) rfl)
theorem wl_Arrays_343 {a0 : Array Value} {Z : State} (hw : ∀ d ∈ tables_1, d.before a0 Z = true) : (Jvm.Cond.methodLink "java/util/Arrays" (343 : Nat) ({ cls := "java/util/Arrays", name := "checkLength", desc := "(II)V" } : Jvm.MethodName)).before a0 Z = true := hw _ (List.mem_of_getElem? (i := 259) rfl)
theorem ws_Arrays_checkLength_lIIrV {a0 : Array Value} {Z : State} (hw : ∀ d ∈ tables_1, d.before a0 Z = true) : (Jvm.Cond.static ({ cls := "java/util/Arrays", name := "checkLength", desc := "(II)V" } : Jvm.MethodName)).before a0 Z = true := hw _ (List.mem_of_getElem? (i := 260) rfl)
theorem wb_Arrays_checkLength_lIIrV {a0 : Array Value} {Z : State} (hw : ∀ d ∈ tables_1, d.before a0 Z = true) : (Jvm.Cond.code ({ cls := "java/util/Arrays", name := "checkLength", desc := "(II)V" } : Jvm.MethodName) jdk_65_method_131_code (2 : Nat) (Option.none : Option Jvm.ClassFile.FieldType)).before a0 Z = true := hw _ (List.mem_of_getElem? (i := 261) rfl)
theorem wl_Arrays_304 {a0 : Array Value} {Z : State} (hw : ∀ d ∈ tables_1, d.before a0 Z = true) : (Jvm.Cond.methodLink "java/util/Arrays" (304 : Nat) ({ cls := "java/lang/Math", name := "min", desc := "(II)I" } : Jvm.MethodName)).before a0 Z = true := hw _ (List.mem_of_getElem? (i := 262) rfl)
theorem ws_Math_min_lIIrI {a0 : Array Value} {Z : State} (hw : ∀ d ∈ tables_1, d.before a0 Z = true) : (Jvm.Cond.static ({ cls := "java/lang/Math", name := "min", desc := "(II)I" } : Jvm.MethodName)).before a0 Z = true := hw _ (List.mem_of_getElem? (i := 263) rfl)
theorem wi_Math {a0 : Array Value} {Z : State} (hw : ∀ d ∈ tables_1, d.before a0 Z = true) : (Jvm.Cond.initialized "java/lang/Math").before a0 Z = true := hw _ (List.mem_of_getElem? (i := 264) rfl)
theorem wb_Math_min_lIIrI {a0 : Array Value} {Z : State} (hw : ∀ d ∈ tables_1, d.before a0 Z = true) : (Jvm.Cond.code ({ cls := "java/lang/Math", name := "min", desc := "(II)I" } : Jvm.MethodName) jdk_29_method_69_code (2 : Nat) (Option.some Jvm.ClassFile.FieldType.int)).before a0 Z = true := hw _ (List.mem_of_getElem? (i := 265) rfl)
theorem wl_Arrays_150 {a0 : Array Value} {Z : State} (hw : ∀ d ∈ tables_1, d.before a0 Z = true) : (Jvm.Cond.methodLink "java/util/Arrays" (150 : Nat) ({ cls := "java/lang/System", name := "arraycopy", desc := "(Ljava/lang/Object;ILjava/lang/Object;II)V" } : Jvm.MethodName)).before a0 Z = true := hw _ (List.mem_of_getElem? (i := 266) rfl)
theorem wl_CollectionDocumentTextToStringPinLaw_14 {a0 : Array Value} {Z : State} (hw : ∀ d ∈ tables_1, d.before a0 Z = true) : (Jvm.Cond.methodLink "com/example/simple_rocchio/simplerocchio/CollectionDocumentTextToStringPinLaw" (14 : Nat) ({ cls := "com/example/simple_rocchio/simplerocchio/CollectionDocumentTextToStringPinLaw", name := "put", desc := "([CIC)I" } : Jvm.MethodName)).before a0 Z = true := hw _ (List.mem_of_getElem? (i := 267) rfl)
theorem ws_CollectionDocumentTextToStringPinLaw_put_lACICrI {a0 : Array Value} {Z : State} (hw : ∀ d ∈ tables_1, d.before a0 Z = true) : (Jvm.Cond.static ({ cls := "com/example/simple_rocchio/simplerocchio/CollectionDocumentTextToStringPinLaw", name := "put", desc := "([CIC)I" } : Jvm.MethodName)).before a0 Z = true := hw _ (List.mem_of_getElem? (i := 268) rfl)
theorem wb_CollectionDocumentTextToStringPinLaw_put_lACICrI {a0 : Array Value} {Z : State} (hw : ∀ d ∈ tables_1, d.before a0 Z = true) : (Jvm.Cond.code ({ cls := "com/example/simple_rocchio/simplerocchio/CollectionDocumentTextToStringPinLaw", name := "put", desc := "([CIC)I" } : Jvm.MethodName) method_4_code (3 : Nat) (Option.some Jvm.ClassFile.FieldType.int)).before a0 Z = true := hw _ (List.mem_of_getElem? (i := 269) rfl)
theorem wl_CollectionDocumentTextToStringPinLaw_48 {a0 : Array Value} {Z : State} (hw : ∀ d ∈ tables_1, d.before a0 Z = true) : (Jvm.Cond.methodLink "com/example/simple_rocchio/simplerocchio/CollectionDocumentTextToStringPinLaw" (48 : Nat) ({ cls := "com/example/simple_rocchio/simplerocchio/CollectionDocumentTextToStringPinLaw", name := "putStr", desc := "([CIICCC)I" } : Jvm.MethodName)).before a0 Z = true := hw _ (List.mem_of_getElem? (i := 270) rfl)
theorem ws_CollectionDocumentTextToStringPinLaw_putStr_lACIICCCrI {a0 : Array Value} {Z : State} (hw : ∀ d ∈ tables_1, d.before a0 Z = true) : (Jvm.Cond.static ({ cls := "com/example/simple_rocchio/simplerocchio/CollectionDocumentTextToStringPinLaw", name := "putStr", desc := "([CIICCC)I" } : Jvm.MethodName)).before a0 Z = true := hw _ (List.mem_of_getElem? (i := 271) rfl)
theorem wb_CollectionDocumentTextToStringPinLaw_putStr_lACIICCCrI {a0 : Array Value} {Z : State} (hw : ∀ d ∈ tables_1, d.before a0 Z = true) : (Jvm.Cond.code ({ cls := "com/example/simple_rocchio/simplerocchio/CollectionDocumentTextToStringPinLaw", name := "putStr", desc := "([CIICCC)I" } : Jvm.MethodName) method_5_code (7 : Nat) (Option.some Jvm.ClassFile.FieldType.int)).before a0 Z = true := hw _ (List.mem_of_getElem? (i := 272) rfl)
theorem wl_CollectionDocumentTextToStringPinLaw_52 {a0 : Array Value} {Z : State} (hw : ∀ d ∈ tables_1, d.before a0 Z = true) : (Jvm.Cond.methodLink "com/example/simple_rocchio/simplerocchio/CollectionDocumentTextToStringPinLaw" (52 : Nat) ({ cls := "java/lang/String", name := "length", desc := "()I" } : Jvm.MethodName)).before a0 Z = true := hw _ (List.mem_of_getElem? (i := 273) rfl)
theorem wl_CollectionDocumentTextToStringPinLaw_56 {a0 : Array Value} {Z : State} (hw : ∀ d ∈ tables_1, d.before a0 Z = true) : (Jvm.Cond.methodLink "com/example/simple_rocchio/simplerocchio/CollectionDocumentTextToStringPinLaw" (56 : Nat) ({ cls := "com/example/simple_rocchio/simplerocchio/CollectionDocumentTextToStringPinLaw", name := "at", desc := "(Ljava/lang/String;[CII)Z" } : Jvm.MethodName)).before a0 Z = true := hw _ (List.mem_of_getElem? (i := 274) rfl)
theorem ws_CollectionDocumentTextToStringPinLaw_at_lLjavalangStringACIIrZ {a0 : Array Value} {Z : State} (hw : ∀ d ∈ tables_1, d.before a0 Z = true) : (Jvm.Cond.static ({ cls := "com/example/simple_rocchio/simplerocchio/CollectionDocumentTextToStringPinLaw", name := "at", desc := "(Ljava/lang/String;[CII)Z" } : Jvm.MethodName)).before a0 Z = true := hw _ (List.mem_of_getElem? (i := 275) rfl)
theorem wb_CollectionDocumentTextToStringPinLaw_at_lLjavalangStringACIIrZ {a0 : Array Value} {Z : State} (hw : ∀ d ∈ tables_1, d.before a0 Z = true) : (Jvm.Cond.code ({ cls := "com/example/simple_rocchio/simplerocchio/CollectionDocumentTextToStringPinLaw", name := "at", desc := "(Ljava/lang/String;[CII)Z" } : Jvm.MethodName) method_6_code (4 : Nat) (Option.some Jvm.ClassFile.FieldType.boolean)).before a0 Z = true := hw _ (List.mem_of_getElem? (i := 276) rfl)
theorem wl_CollectionDocumentTextToStringPinLaw_20 {a0 : Array Value} {Z : State} (hw : ∀ d ∈ tables_1, d.before a0 Z = true) : (Jvm.Cond.methodLink "com/example/simple_rocchio/simplerocchio/CollectionDocumentTextToStringPinLaw" (20 : Nat) ({ cls := "java/lang/String", name := "charAt", desc := "(I)C" } : Jvm.MethodName)).before a0 Z = true := hw _ (List.mem_of_getElem? (i := 277) rfl)
theorem wd_String_charAt_lIrC {a0 : Array Value} {Z : State} (hw : ∀ d ∈ tables_1, d.before a0 Z = true) : (Jvm.Cond.declares ({ cls := "java/lang/String", name := "charAt", desc := "(I)C" } : Jvm.MethodName)).before a0 Z = true := hw _ (List.mem_of_getElem? (i := 278) rfl)
theorem wm_String_charAt_lIrC {a0 : Array Value} {Z : State} (hw : ∀ d ∈ tables_1, d.before a0 Z = true) : (Jvm.Cond.instanceMethod ({ cls := "java/lang/String", name := "charAt", desc := "(I)C" } : Jvm.MethodName)).before a0 Z = true := hw _ (List.mem_of_getElem? (i := 279) rfl)
theorem wv_String_String_charAt_lIrC {a0 : Array Value} {Z : State} (hw : ∀ d ∈ tables_1, d.before a0 Z = true) : (Jvm.Cond.selects "java/lang/String" ({ cls := "java/lang/String", name := "charAt", desc := "(I)C" } : Jvm.MethodName) ({ cls := "java/lang/String", name := "charAt", desc := "(I)C" } : Jvm.MethodName)).before a0 Z = true := hw _ (List.mem_of_getElem? (i := 280) rfl)
theorem wb_String_charAt_lIrC {a0 : Array Value} {Z : State} (hw : ∀ d ∈ tables_1, d.before a0 Z = true) : (Jvm.Cond.code ({ cls := "java/lang/String", name := "charAt", desc := "(I)C" } : Jvm.MethodName) jdk_42_method_56_code (2 : Nat) (Option.some Jvm.ClassFile.FieldType.char)).before a0 Z = true := hw _ (List.mem_of_getElem? (i := 281) rfl)
theorem wl_String_492 {a0 : Array Value} {Z : State} (hw : ∀ d ∈ tables_1, d.before a0 Z = true) : (Jvm.Cond.methodLink "java/lang/String" (492 : Nat) ({ cls := "java/lang/String", name := "isLatin1", desc := "()Z" } : Jvm.MethodName)).before a0 Z = true := hw _ (List.mem_of_getElem? (i := 282) rfl)
theorem wd_String_isLatin1_lrZ {a0 : Array Value} {Z : State} (hw : ∀ d ∈ tables_1, d.before a0 Z = true) : (Jvm.Cond.declares ({ cls := "java/lang/String", name := "isLatin1", desc := "()Z" } : Jvm.MethodName)).before a0 Z = true := hw _ (List.mem_of_getElem? (i := 283) rfl)
theorem wm_String_isLatin1_lrZ {a0 : Array Value} {Z : State} (hw : ∀ d ∈ tables_1, d.before a0 Z = true) : (Jvm.Cond.instanceMethod ({ cls := "java/lang/String", name := "isLatin1", desc := "()Z" } : Jvm.MethodName)).before a0 Z = true := hw _ (List.mem_of_getElem? (i := 284) rfl)
theorem wv_String_String_isLatin1_lrZ {a0 : Array Value} {Z : State} (hw : ∀ d ∈ tables_1, d.before a0 Z = true) : (Jvm.Cond.selects "java/lang/String" ({ cls := "java/lang/String", name := "isLatin1", desc := "()Z" } : Jvm.MethodName) ({ cls := "java/lang/String", name := "isLatin1", desc := "()Z" } : Jvm.MethodName)).before a0 Z = true := hw _ (List.mem_of_getElem? (i := 285) rfl)
theorem wb_String_isLatin1_lrZ {a0 : Array Value} {Z : State} (hw : ∀ d ∈ tables_1, d.before a0 Z = true) : (Jvm.Cond.code ({ cls := "java/lang/String", name := "isLatin1", desc := "()Z" } : Jvm.MethodName) jdk_42_method_154_code (1 : Nat) (Option.some Jvm.ClassFile.FieldType.boolean)).before a0 Z = true := hw _ (List.mem_of_getElem? (i := 286) rfl)
theorem wl_String_495 {a0 : Array Value} {Z : State} (hw : ∀ d ∈ tables_1, d.before a0 Z = true) : (Jvm.Cond.methodLink "java/lang/String" (495 : Nat) ({ cls := "java/lang/StringLatin1", name := "charAt", desc := "([BI)C" } : Jvm.MethodName)).before a0 Z = true := hw _ (List.mem_of_getElem? (i := 287) rfl)
theorem ws_StringLatin1_charAt_lABIrC {a0 : Array Value} {Z : State} (hw : ∀ d ∈ tables_1, d.before a0 Z = true) : (Jvm.Cond.static ({ cls := "java/lang/StringLatin1", name := "charAt", desc := "([BI)C" } : Jvm.MethodName)).before a0 Z = true := hw _ (List.mem_of_getElem? (i := 288) rfl)
theorem wi_StringLatin1 {a0 : Array Value} {Z : State} (hw : ∀ d ∈ tables_1, d.before a0 Z = true) : (Jvm.Cond.initialized "java/lang/StringLatin1").before a0 Z = true := hw _ (List.mem_of_getElem? (i := 289) rfl)
theorem wb_StringLatin1_charAt_lABIrC {a0 : Array Value} {Z : State} (hw : ∀ d ∈ tables_1, d.before a0 Z = true) : (Jvm.Cond.code ({ cls := "java/lang/StringLatin1", name := "charAt", desc := "([BI)C" } : Jvm.MethodName) jdk_43_method_2_code (2 : Nat) (Option.some Jvm.ClassFile.FieldType.char)).before a0 Z = true := hw _ (List.mem_of_getElem? (i := 290) rfl)
theorem wl_StringLatin1_9 {a0 : Array Value} {Z : State} (hw : ∀ d ∈ tables_1, d.before a0 Z = true) : (Jvm.Cond.methodLink "java/lang/StringLatin1" (9 : Nat) ({ cls := "java/lang/String", name := "checkIndex", desc := "(II)V" } : Jvm.MethodName)).before a0 Z = true := hw _ (List.mem_of_getElem? (i := 291) rfl)
theorem ws_String_checkIndex_lIIrV {a0 : Array Value} {Z : State} (hw : ∀ d ∈ tables_1, d.before a0 Z = true) : (Jvm.Cond.static ({ cls := "java/lang/String", name := "checkIndex", desc := "(II)V" } : Jvm.MethodName)).before a0 Z = true := hw _ (List.mem_of_getElem? (i := 292) rfl)
theorem wb_String_checkIndex_lIIrV {a0 : Array Value} {Z : State} (hw : ∀ d ∈ tables_1, d.before a0 Z = true) : (Jvm.Cond.code ({ cls := "java/lang/String", name := "checkIndex", desc := "(II)V" } : Jvm.MethodName) jdk_42_method_155_code (2 : Nat) (Option.none : Option Jvm.ClassFile.FieldType)).before a0 Z = true := hw _ (List.mem_of_getElem? (i := 293) rfl)
theorem wf_String_1053 {a0 : Array Value} {Z : State} (hw : ∀ d ∈ tables_1, d.before a0 Z = true) : (Jvm.Cond.fieldLink "java/lang/String" (1053 : Nat) "jdk/internal/util/Preconditions" "SIOOBE_FORMATTER" "Ljava/util/function/BiFunction;").before a0 Z = true := hw _ (List.mem_of_getElem? (i := 294) rfl)
theorem wi_Preconditions {a0 : Array Value} {Z : State} (hw : ∀ d ∈ tables_1, d.before a0 Z = true) : (Jvm.Cond.initialized "jdk/internal/util/Preconditions").before a0 Z = true := hw _ (List.mem_of_getElem? (i := 295) rfl)
theorem wl_String_1059 {a0 : Array Value} {Z : State} (hw : ∀ d ∈ tables_1, d.before a0 Z = true) : (Jvm.Cond.methodLink "java/lang/String" (1059 : Nat) ({ cls := "jdk/internal/util/Preconditions", name := "checkIndex", desc := "(IILjava/util/function/BiFunction;)I" } : Jvm.MethodName)).before a0 Z = true := hw _ (List.mem_of_getElem? (i := 296) rfl)
theorem ws_Preconditions_checkIndex_lIILjavautilfunctionBiFunctionrI {a0 : Array Value} {Z : State} (hw : ∀ d ∈ tables_1, d.before a0 Z = true) : (Jvm.Cond.static ({ cls := "jdk/internal/util/Preconditions", name := "checkIndex", desc := "(IILjava/util/function/BiFunction;)I" } : Jvm.MethodName)).before a0 Z = true := hw _ (List.mem_of_getElem? (i := 297) rfl)
theorem wb_Preconditions_checkIndex_lIILjavautilfunctionBiFunctionrI {a0 : Array Value} {Z : State} (hw : ∀ d ∈ tables_1, d.before a0 Z = true) : (Jvm.Cond.code ({ cls := "jdk/internal/util/Preconditions", name := "checkIndex", desc := "(IILjava/util/function/BiFunction;)I" } : Jvm.MethodName) jdk_41_method_11_code (3 : Nat) (Option.some Jvm.ClassFile.FieldType.int)).before a0 Z = true := hw _ (List.mem_of_getElem? (i := 298) rfl)
theorem wl_String_177 {a0 : Array Value} {Z : State} (hw : ∀ d ∈ tables_1, d.before a0 Z = true) : (Jvm.Cond.methodLink "java/lang/String" (177 : Nat) ({ cls := "java/lang/StringUTF16", name := "compress", desc := "([CII)[B" } : Jvm.MethodName)).before a0 Z = true := hw _ (List.mem_of_getElem? (i := 299) rfl)
theorem ws_StringUTF16_compress_lACIIrAB {a0 : Array Value} {Z : State} (hw : ∀ d ∈ tables_1, d.before a0 Z = true) : (Jvm.Cond.static ({ cls := "java/lang/StringUTF16", name := "compress", desc := "([CII)[B" } : Jvm.MethodName)).before a0 Z = true := hw _ (List.mem_of_getElem? (i := 300) rfl)
theorem wi_StringUTF16 {a0 : Array Value} {Z : State} (hw : ∀ d ∈ tables_1, d.before a0 Z = true) : (Jvm.Cond.initialized "java/lang/StringUTF16").before a0 Z = true := hw _ (List.mem_of_getElem? (i := 301) rfl)
theorem wb_StringUTF16_compress_lACIIrAB {a0 : Array Value} {Z : State} (hw : ∀ d ∈ tables_1, d.before a0 Z = true) : (Jvm.Cond.code ({ cls := "java/lang/StringUTF16", name := "compress", desc := "([CII)[B" } : Jvm.MethodName) jdk_52_method_16_code (6 : Nat) (Option.some (Jvm.ClassFile.FieldType.array Jvm.ClassFile.FieldType.byte))).before a0 Z = true := hw _ (List.mem_of_getElem? (i := 302) rfl)
theorem wl_StringUTF16_115 {a0 : Array Value} {Z : State} (hw : ∀ d ∈ tables_1, d.before a0 Z = true) : (Jvm.Cond.methodLink "java/lang/StringUTF16" (115 : Nat) ({ cls := "java/lang/StringUTF16", name := "compress", desc := "([CI[BII)I" } : Jvm.MethodName)).before a0 Z = true := hw _ (List.mem_of_getElem? (i := 303) rfl)
theorem ws_StringUTF16_compress_lACIABIIrI {a0 : Array Value} {Z : State} (hw : ∀ d ∈ tables_1, d.before a0 Z = true) : (Jvm.Cond.static ({ cls := "java/lang/StringUTF16", name := "compress", desc := "([CI[BII)I" } : Jvm.MethodName)).before a0 Z = true := hw _ (List.mem_of_getElem? (i := 304) rfl)
theorem wb_StringUTF16_compress_lACIABIIrI {a0 : Array Value} {Z : State} (hw : ∀ d ∈ tables_1, d.before a0 Z = true) : (Jvm.Cond.code ({ cls := "java/lang/StringUTF16", name := "compress", desc := "([CI[BII)I" } : Jvm.MethodName) jdk_52_method_21_code (7 : Nat) (Option.some Jvm.ClassFile.FieldType.int)).before a0 Z = true := hw _ (List.mem_of_getElem? (i := 305) rfl)
theorem wl_String_47 {a0 : Array Value} {Z : State} (hw : ∀ d ∈ tables_1, d.before a0 Z = true) : (Jvm.Cond.methodLink "java/lang/String" (47 : Nat) ({ cls := "java/lang/StringUTF16", name := "coderFromArrayLen", desc := "([BI)B" } : Jvm.MethodName)).before a0 Z = true := hw _ (List.mem_of_getElem? (i := 306) rfl)
theorem ws_StringUTF16_coderFromArrayLen_lABIrB {a0 : Array Value} {Z : State} (hw : ∀ d ∈ tables_1, d.before a0 Z = true) : (Jvm.Cond.static ({ cls := "java/lang/StringUTF16", name := "coderFromArrayLen", desc := "([BI)B" } : Jvm.MethodName)).before a0 Z = true := hw _ (List.mem_of_getElem? (i := 307) rfl)
theorem wb_StringUTF16_coderFromArrayLen_lABIrB {a0 : Array Value} {Z : State} (hw : ∀ d ∈ tables_1, d.before a0 Z = true) : (Jvm.Cond.code ({ cls := "java/lang/StringUTF16", name := "coderFromArrayLen", desc := "([BI)B" } : Jvm.MethodName) jdk_52_method_15_code (2 : Nat) (Option.some Jvm.ClassFile.FieldType.byte)).before a0 Z = true := hw _ (List.mem_of_getElem? (i := 308) rfl)
theorem wl_CollectionDocumentTextToStringPinLaw_35 {a0 : Array Value} {Z : State} (hw : ∀ d ∈ tables_1, d.before a0 Z = true) : (Jvm.Cond.methodLink "com/example/simple_rocchio/simplerocchio/CollectionDocumentTextToStringPinLaw" (35 : Nat) ({ cls := "java/util/ArrayList", name := "add", desc := "(Ljava/lang/Object;)Z" } : Jvm.MethodName)).before a0 Z = true := hw _ (List.mem_of_getElem? (i := 309) rfl)
theorem wd_ArrayList_add_lLjavalangObjectrZ {a0 : Array Value} {Z : State} (hw : ∀ d ∈ tables_1, d.before a0 Z = true) : (Jvm.Cond.declares ({ cls := "java/util/ArrayList", name := "add", desc := "(Ljava/lang/Object;)Z" } : Jvm.MethodName)).before a0 Z = true := hw _ (List.mem_of_getElem? (i := 310) rfl)
theorem wm_ArrayList_add_lLjavalangObjectrZ {a0 : Array Value} {Z : State} (hw : ∀ d ∈ tables_1, d.before a0 Z = true) : (Jvm.Cond.instanceMethod ({ cls := "java/util/ArrayList", name := "add", desc := "(Ljava/lang/Object;)Z" } : Jvm.MethodName)).before a0 Z = true := hw _ (List.mem_of_getElem? (i := 311) rfl)
theorem wv_ArrayList_ArrayList_add_lLjavalangObjectrZ {a0 : Array Value} {Z : State} (hw : ∀ d ∈ tables_1, d.before a0 Z = true) : (Jvm.Cond.selects "java/util/ArrayList" ({ cls := "java/util/ArrayList", name := "add", desc := "(Ljava/lang/Object;)Z" } : Jvm.MethodName) ({ cls := "java/util/ArrayList", name := "add", desc := "(Ljava/lang/Object;)Z" } : Jvm.MethodName)).before a0 Z = true := hw _ (List.mem_of_getElem? (i := 312) rfl)
theorem wb_ArrayList_add_lLjavalangObjectrZ {a0 : Array Value} {Z : State} (hw : ∀ d ∈ tables_1, d.before a0 Z = true) : (Jvm.Cond.code ({ cls := "java/util/ArrayList", name := "add", desc := "(Ljava/lang/Object;)Z" } : Jvm.MethodName) jdk_38_method_25_code (2 : Nat) (Option.some Jvm.ClassFile.FieldType.boolean)).before a0 Z = true := hw _ (List.mem_of_getElem? (i := 313) rfl)
theorem wf_ArrayList_63 {a0 : Array Value} {Z : State} (hw : ∀ d ∈ tables_1, d.before a0 Z = true) : (Jvm.Cond.fieldLink "java/util/ArrayList" (63 : Nat) "java/util/ArrayList" "modCount" "I").before a0 Z = true := hw _ (List.mem_of_getElem? (i := 314) rfl)
theorem wrf_ArrayList_AbstractList_modCount {a0 : Array Value} {Z : State} (hw : ∀ d ∈ tables_1, d.before a0 Z = true) : (Jvm.Cond.sameField "java/util/ArrayList" "java/util/AbstractList" "modCount" "I").before a0 Z = true := hw _ (List.mem_of_getElem? (i := 315) rfl)
theorem wl_ArrayList_131 {a0 : Array Value} {Z : State} (hw : ∀ d ∈ tables_1, d.before a0 Z = true) : (Jvm.Cond.methodLink "java/util/ArrayList" (131 : Nat) ({ cls := "java/util/ArrayList", name := "add", desc := "(Ljava/lang/Object;[Ljava/lang/Object;I)V" } : Jvm.MethodName)).before a0 Z = true := hw _ (List.mem_of_getElem? (i := 316) rfl)
theorem wm_ArrayList_add_lLjavalangObjectALjavalangObjectIrV {a0 : Array Value} {Z : State} (hw : ∀ d ∈ tables_1, d.before a0 Z = true) : (Jvm.Cond.instanceMethod ({ cls := "java/util/ArrayList", name := "add", desc := "(Ljava/lang/Object;[Ljava/lang/Object;I)V" } : Jvm.MethodName)).before a0 Z = true := hw _ (List.mem_of_getElem? (i := 317) rfl)
theorem wq_ArrayList_add_lLjavalangObjectALjavalangObjectIrV {a0 : Array Value} {Z : State} (hw : ∀ d ∈ tables_1, d.before a0 Z = true) : (Jvm.Cond.privateMethod ({ cls := "java/util/ArrayList", name := "add", desc := "(Ljava/lang/Object;[Ljava/lang/Object;I)V" } : Jvm.MethodName)).before a0 Z = true := hw _ (List.mem_of_getElem? (i := 318) rfl)
theorem wv_ArrayList_ArrayList_add_lLjavalangObjectALjavalangObjectIrV {a0 : Array Value} {Z : State} (hw : ∀ d ∈ tables_1, d.before a0 Z = true) : (Jvm.Cond.selects "java/util/ArrayList" ({ cls := "java/util/ArrayList", name := "add", desc := "(Ljava/lang/Object;[Ljava/lang/Object;I)V" } : Jvm.MethodName) ({ cls := "java/util/ArrayList", name := "add", desc := "(Ljava/lang/Object;[Ljava/lang/Object;I)V" } : Jvm.MethodName)).before a0 Z = true := hw _ (List.mem_of_getElem? (i := 319) rfl)
theorem wb_ArrayList_add_lLjavalangObjectALjavalangObjectIrV {a0 : Array Value} {Z : State} (hw : ∀ d ∈ tables_1, d.before a0 Z = true) : (Jvm.Cond.code ({ cls := "java/util/ArrayList", name := "add", desc := "(Ljava/lang/Object;[Ljava/lang/Object;I)V" } : Jvm.MethodName) jdk_38_method_24_code (4 : Nat) (Option.none : Option Jvm.ClassFile.FieldType)).before a0 Z = true := hw _ (List.mem_of_getElem? (i := 320) rfl)
theorem wl_ArrayList_129 {a0 : Array Value} {Z : State} (hw : ∀ d ∈ tables_1, d.before a0 Z = true) : (Jvm.Cond.methodLink "java/util/ArrayList" (129 : Nat) ({ cls := "java/util/ArrayList", name := "grow", desc := "()[Ljava/lang/Object;" } : Jvm.MethodName)).before a0 Z = true := hw _ (List.mem_of_getElem? (i := 321) rfl)
theorem wm_ArrayList_grow_lrALjavalangObject {a0 : Array Value} {Z : State} (hw : ∀ d ∈ tables_1, d.before a0 Z = true) : (Jvm.Cond.instanceMethod ({ cls := "java/util/ArrayList", name := "grow", desc := "()[Ljava/lang/Object;" } : Jvm.MethodName)).before a0 Z = true := hw _ (List.mem_of_getElem? (i := 322) rfl)
theorem wq_ArrayList_grow_lrALjavalangObject {a0 : Array Value} {Z : State} (hw : ∀ d ∈ tables_1, d.before a0 Z = true) : (Jvm.Cond.privateMethod ({ cls := "java/util/ArrayList", name := "grow", desc := "()[Ljava/lang/Object;" } : Jvm.MethodName)).before a0 Z = true := hw _ (List.mem_of_getElem? (i := 323) rfl)
theorem wv_ArrayList_ArrayList_grow_lrALjavalangObject {a0 : Array Value} {Z : State} (hw : ∀ d ∈ tables_1, d.before a0 Z = true) : (Jvm.Cond.selects "java/util/ArrayList" ({ cls := "java/util/ArrayList", name := "grow", desc := "()[Ljava/lang/Object;" } : Jvm.MethodName) ({ cls := "java/util/ArrayList", name := "grow", desc := "()[Ljava/lang/Object;" } : Jvm.MethodName)).before a0 Z = true := hw _ (List.mem_of_getElem? (i := 324) rfl)
theorem wb_ArrayList_grow_lrALjavalangObject {a0 : Array Value} {Z : State} (hw : ∀ d ∈ tables_1, d.before a0 Z = true) : (Jvm.Cond.code ({ cls := "java/util/ArrayList", name := "grow", desc := "()[Ljava/lang/Object;" } : Jvm.MethodName) jdk_38_method_7_code (1 : Nat) (Option.some (Jvm.ClassFile.FieldType.array (Jvm.ClassFile.FieldType.object "java/lang/Object")))).before a0 Z = true := hw _ (List.mem_of_getElem? (i := 325) rfl)
theorem wl_ArrayList_69 {a0 : Array Value} {Z : State} (hw : ∀ d ∈ tables_1, d.before a0 Z = true) : (Jvm.Cond.methodLink "java/util/ArrayList" (69 : Nat) ({ cls := "java/util/ArrayList", name := "grow", desc := "(I)[Ljava/lang/Object;" } : Jvm.MethodName)).before a0 Z = true := hw _ (List.mem_of_getElem? (i := 326) rfl)
theorem wm_ArrayList_grow_lIrALjavalangObject {a0 : Array Value} {Z : State} (hw : ∀ d ∈ tables_1, d.before a0 Z = true) : (Jvm.Cond.instanceMethod ({ cls := "java/util/ArrayList", name := "grow", desc := "(I)[Ljava/lang/Object;" } : Jvm.MethodName)).before a0 Z = true := hw _ (List.mem_of_getElem? (i := 327) rfl)
theorem wq_ArrayList_grow_lIrALjavalangObject {a0 : Array Value} {Z : State} (hw : ∀ d ∈ tables_1, d.before a0 Z = true) : (Jvm.Cond.privateMethod ({ cls := "java/util/ArrayList", name := "grow", desc := "(I)[Ljava/lang/Object;" } : Jvm.MethodName)).before a0 Z = true := hw _ (List.mem_of_getElem? (i := 328) rfl)
theorem wv_ArrayList_ArrayList_grow_lIrALjavalangObject {a0 : Array Value} {Z : State} (hw : ∀ d ∈ tables_1, d.before a0 Z = true) : (Jvm.Cond.selects "java/util/ArrayList" ({ cls := "java/util/ArrayList", name := "grow", desc := "(I)[Ljava/lang/Object;" } : Jvm.MethodName) ({ cls := "java/util/ArrayList", name := "grow", desc := "(I)[Ljava/lang/Object;" } : Jvm.MethodName)).before a0 Z = true := hw _ (List.mem_of_getElem? (i := 329) rfl)
theorem wb_ArrayList_grow_lIrALjavalangObject {a0 : Array Value} {Z : State} (hw : ∀ d ∈ tables_1, d.before a0 Z = true) : (Jvm.Cond.code ({ cls := "java/util/ArrayList", name := "grow", desc := "(I)[Ljava/lang/Object;" } : Jvm.MethodName) jdk_38_method_6_code (4 : Nat) (Option.some (Jvm.ClassFile.FieldType.array (Jvm.ClassFile.FieldType.object "java/lang/Object")))).before a0 Z = true := hw _ (List.mem_of_getElem? (i := 330) rfl)
theorem wl_ArrayList_79 {a0 : Array Value} {Z : State} (hw : ∀ d ∈ tables_1, d.before a0 Z = true) : (Jvm.Cond.methodLink "java/util/ArrayList" (79 : Nat) ({ cls := "java/lang/Math", name := "max", desc := "(II)I" } : Jvm.MethodName)).before a0 Z = true := hw _ (List.mem_of_getElem? (i := 331) rfl)
theorem ws_Math_max_lIIrI {a0 : Array Value} {Z : State} (hw : ∀ d ∈ tables_1, d.before a0 Z = true) : (Jvm.Cond.static ({ cls := "java/lang/Math", name := "max", desc := "(II)I" } : Jvm.MethodName)).before a0 Z = true := hw _ (List.mem_of_getElem? (i := 332) rfl)
theorem wb_Math_max_lIIrI {a0 : Array Value} {Z : State} (hw : ∀ d ∈ tables_1, d.before a0 Z = true) : (Jvm.Cond.code ({ cls := "java/lang/Math", name := "max", desc := "(II)I" } : Jvm.MethodName) jdk_29_method_65_code (2 : Nat) (Option.some Jvm.ClassFile.FieldType.int)).before a0 Z = true := hw _ (List.mem_of_getElem? (i := 333) rfl)
theorem wc_ArrayList_7 {a0 : Array Value} {Z : State} (hw : ∀ d ∈ tables_1, d.before a0 Z = true) : (Jvm.Cond.classLink "java/util/ArrayList" (7 : Nat) "java/lang/Object").before a0 Z = true := hw _ (List.mem_of_getElem? (i := 334) rfl)
theorem wo_Object {a0 : Array Value} {Z : State} (hw : ∀ d ∈ tables_1, d.before a0 Z = true) : (Jvm.Cond.arrayOver (Jvm.ClassFile.FieldType.object "java/lang/Object")).before a0 Z = true := hw _ (List.mem_of_getElem? (i := 335) rfl)
theorem wx_String_Object {a0 : Array Value} {Z : State} (hw : ∀ d ∈ tables_1, d.before a0 Z = true) : (Jvm.Cond.castable "java/lang/String" "java/lang/Object").before a0 Z = true := hw _ (List.mem_of_getElem? (i := 336) rfl)
theorem wl_ImmutableCollections_30 {a0 : Array Value} {Z : State} (hw : ∀ d ∈ tables_1, d.before a0 Z = true) : (Jvm.Cond.methodLink "java/util/ImmutableCollections" (30 : Nat) ({ cls := "java/util/Collection", name := "toArray", desc := "()[Ljava/lang/Object;" } : Jvm.MethodName)).before a0 Z = true := hw _ (List.mem_of_getElem? (i := 337) rfl)
theorem wd_Collection_toArray_lrALjavalangObject {a0 : Array Value} {Z : State} (hw : ∀ d ∈ tables_1, d.before a0 Z = true) : (Jvm.Cond.declares ({ cls := "java/util/Collection", name := "toArray", desc := "()[Ljava/lang/Object;" } : Jvm.MethodName)).before a0 Z = true := hw _ (List.mem_of_getElem? (i := 338) rfl)
theorem wg_Collection_toArray_lrALjavalangObject {a0 : Array Value} {Z : State} (hw : ∀ d ∈ tables_1, d.before a0 Z = true) : (Jvm.Cond.interfaceMethod "java/util/Collection" "java/util/Collection" "toArray" "()[Ljava/lang/Object;").before a0 Z = true := hw _ (List.mem_of_getElem? (i := 339) rfl)
theorem wv_ArrayList_Collection_toArray_lrALjavalangObject {a0 : Array Value} {Z : State} (hw : ∀ d ∈ tables_1, d.before a0 Z = true) : (Jvm.Cond.selects "java/util/ArrayList" ({ cls := "java/util/Collection", name := "toArray", desc := "()[Ljava/lang/Object;" } : Jvm.MethodName) ({ cls := "java/util/ArrayList", name := "toArray", desc := "()[Ljava/lang/Object;" } : Jvm.MethodName)).before a0 Z = true := hw _ (List.mem_of_getElem? (i := 340) rfl)
theorem wm_ArrayList_toArray_lrALjavalangObject {a0 : Array Value} {Z : State} (hw : ∀ d ∈ tables_1, d.before a0 Z = true) : (Jvm.Cond.instanceMethod ({ cls := "java/util/ArrayList", name := "toArray", desc := "()[Ljava/lang/Object;" } : Jvm.MethodName)).before a0 Z = true := hw _ (List.mem_of_getElem? (i := 341) rfl)
theorem wp_ArrayList_toArray_lrALjavalangObject {a0 : Array Value} {Z : State} (hw : ∀ d ∈ tables_1, d.before a0 Z = true) : (Jvm.Cond.publicMethod ({ cls := "java/util/ArrayList", name := "toArray", desc := "()[Ljava/lang/Object;" } : Jvm.MethodName)).before a0 Z = true := hw _ (List.mem_of_getElem? (i := 342) rfl)
theorem wu_ArrayList_toArray_lrALjavalangObject {a0 : Array Value} {Z : State} (hw : ∀ d ∈ tables_1, d.before a0 Z = true) : (Jvm.Cond.unhidden "java/util/ArrayList" "toArray" "()[Ljava/lang/Object;").before a0 Z = true := hw _ (List.mem_of_getElem? (i := 343) rfl)
theorem wb_ArrayList_toArray_lrALjavalangObject {a0 : Array Value} {Z : State} (hw : ∀ d ∈ tables_1, d.before a0 Z = true) : (Jvm.Cond.code ({ cls := "java/util/ArrayList", name := "toArray", desc := "()[Ljava/lang/Object;" } : Jvm.MethodName) jdk_38_method_16_code (1 : Nat) (Option.some (Jvm.ClassFile.FieldType.array (Jvm.ClassFile.FieldType.object "java/lang/Object")))).before a0 Z = true := hw _ (List.mem_of_getElem? (i := 344) rfl)
theorem wl_ArrayList_66 {a0 : Array Value} {Z : State} (hw : ∀ d ∈ tables_1, d.before a0 Z = true) : (Jvm.Cond.methodLink "java/util/ArrayList" (66 : Nat) ({ cls := "java/util/Arrays", name := "copyOf", desc := "([Ljava/lang/Object;I)[Ljava/lang/Object;" } : Jvm.MethodName)).before a0 Z = true := hw _ (List.mem_of_getElem? (i := 345) rfl)
theorem ws_Arrays_copyOf_lALjavalangObjectIrALjavalangObject {a0 : Array Value} {Z : State} (hw : ∀ d ∈ tables_1, d.before a0 Z = true) : (Jvm.Cond.static ({ cls := "java/util/Arrays", name := "copyOf", desc := "([Ljava/lang/Object;I)[Ljava/lang/Object;" } : Jvm.MethodName)).before a0 Z = true := hw _ (List.mem_of_getElem? (i := 346) rfl)
theorem wb_Arrays_copyOf_lALjavalangObjectIrALjavalangObject {a0 : Array Value} {Z : State} (hw : ∀ d ∈ tables_1, d.before a0 Z = true) : (Jvm.Cond.code ({ cls := "java/util/Arrays", name := "copyOf", desc := "([Ljava/lang/Object;I)[Ljava/lang/Object;" } : Jvm.MethodName) jdk_65_method_119_code (2 : Nat) (Option.some (Jvm.ClassFile.FieldType.array (Jvm.ClassFile.FieldType.object "java/lang/Object")))).before a0 Z = true := hw _ (List.mem_of_getElem? (i := 347) rfl)
theorem wl_Arrays_86 {a0 : Array Value} {Z : State} (hw : ∀ d ∈ tables_1, d.before a0 Z = true) : (Jvm.Cond.methodLink "java/util/Arrays" (86 : Nat) ({ cls := "java/lang/Object", name := "getClass", desc := "()Ljava/lang/Class;" } : Jvm.MethodName)).before a0 Z = true := hw _ (List.mem_of_getElem? (i := 348) rfl)
theorem wd_Object_getClass_lrLjavalangClass {a0 : Array Value} {Z : State} (hw : ∀ d ∈ tables_1, d.before a0 Z = true) : (Jvm.Cond.declares ({ cls := "java/lang/Object", name := "getClass", desc := "()Ljava/lang/Class;" } : Jvm.MethodName)).before a0 Z = true := hw _ (List.mem_of_getElem? (i := 349) rfl)
theorem wm_Object_getClass_lrLjavalangClass {a0 : Array Value} {Z : State} (hw : ∀ d ∈ tables_1, d.before a0 Z = true) : (Jvm.Cond.instanceMethod ({ cls := "java/lang/Object", name := "getClass", desc := "()Ljava/lang/Class;" } : Jvm.MethodName)).before a0 Z = true := hw _ (List.mem_of_getElem? (i := 350) rfl)
theorem wv_Object_Object_getClass_lrLjavalangClass {a0 : Array Value} {Z : State} (hw : ∀ d ∈ tables_1, d.before a0 Z = true) : (Jvm.Cond.selects "[Ljava/lang/Object;" ({ cls := "java/lang/Object", name := "getClass", desc := "()Ljava/lang/Class;" } : Jvm.MethodName) ({ cls := "java/lang/Object", name := "getClass", desc := "()Ljava/lang/Class;" } : Jvm.MethodName)).before a0 Z = true := hw _ (List.mem_of_getElem? (i := 351) rfl)
theorem wn_Object_getClass_lrLjavalangClass {a0 : Array Value} {Z : State} (hw : ∀ d ∈ tables_1, d.before a0 Z = true) : (Jvm.Cond.native ({ cls := "java/lang/Object", name := "getClass", desc := "()Ljava/lang/Class;" } : Jvm.MethodName)).before a0 Z = true := hw _ (List.mem_of_getElem? (i := 352) rfl)
theorem wx_Object_Object {a0 : Array Value} {Z : State} (hw : ∀ d ∈ tables_1, d.before a0 Z = true) : (Jvm.Cond.castable "[Ljava/lang/Object;" "[Ljava/lang/Object;").before a0 Z = true := hw _ (List.mem_of_getElem? (i := 353) rfl)
theorem wl_Arrays_300 {a0 : Array Value} {Z : State} (hw : ∀ d ∈ tables_1, d.before a0 Z = true) : (Jvm.Cond.methodLink "java/util/Arrays" (300 : Nat) ({ cls := "java/util/Arrays", name := "copyOf", desc := "([Ljava/lang/Object;ILjava/lang/Class;)[Ljava/lang/Object;" } : Jvm.MethodName)).before a0 Z = true := hw _ (List.mem_of_getElem? (i := 354) rfl)
theorem ws_Arrays_copyOf_lALjavalangObjectILjavalangClassrALjavalangObject {a0 : Array Value} {Z : State} (hw : ∀ d ∈ tables_1, d.before a0 Z = true) : (Jvm.Cond.static ({ cls := "java/util/Arrays", name := "copyOf", desc := "([Ljava/lang/Object;ILjava/lang/Class;)[Ljava/lang/Object;" } : Jvm.MethodName)).before a0 Z = true := hw _ (List.mem_of_getElem? (i := 355) rfl)
theorem wb_Arrays_copyOf_lALjavalangObjectILjavalangClassrALjavalangObject {a0 : Array Value} {Z : State} (hw : ∀ d ∈ tables_1, d.before a0 Z = true) : (Jvm.Cond.code ({ cls := "java/util/Arrays", name := "copyOf", desc := "([Ljava/lang/Object;ILjava/lang/Class;)[Ljava/lang/Object;" } : Jvm.MethodName) jdk_65_method_120_code (4 : Nat) (Option.some (Jvm.ClassFile.FieldType.array (Jvm.ClassFile.FieldType.object "java/lang/Object")))).before a0 Z = true := hw _ (List.mem_of_getElem? (i := 356) rfl)
theorem wc_Arrays_110 {a0 : Array Value} {Z : State} (hw : ∀ d ∈ tables_1, d.before a0 Z = true) : (Jvm.Cond.classLink "java/util/Arrays" (110 : Nat) "[Ljava/lang/Object;").before a0 Z = true := hw _ (List.mem_of_getElem? (i := 357) rfl)
theorem wc_Arrays_2 {a0 : Array Value} {Z : State} (hw : ∀ d ∈ tables_1, d.before a0 Z = true) : (Jvm.Cond.classLink "java/util/Arrays" (2 : Nat) "java/lang/Object").before a0 Z = true := hw _ (List.mem_of_getElem? (i := 358) rfl)
theorem wl_ImmutableCollections_34 {a0 : Array Value} {Z : State} (hw : ∀ d ∈ tables_1, d.before a0 Z = true) : (Jvm.Cond.methodLink "java/util/ImmutableCollections" (34 : Nat) ({ cls := "java/util/List", name := "of", desc := "([Ljava/lang/Object;)Ljava/util/List;" } : Jvm.MethodName)).before a0 Z = true := hw _ (List.mem_of_getElem? (i := 359) rfl)
theorem ws_List_of_lALjavalangObjectrLjavautilList {a0 : Array Value} {Z : State} (hw : ∀ d ∈ tables_1, d.before a0 Z = true) : (Jvm.Cond.static ({ cls := "java/util/List", name := "of", desc := "([Ljava/lang/Object;)Ljava/util/List;" } : Jvm.MethodName)).before a0 Z = true := hw _ (List.mem_of_getElem? (i := 360) rfl)
theorem wb_List_of_lALjavalangObjectrLjavautilList {a0 : Array Value} {Z : State} (hw : ∀ d ∈ tables_1, d.before a0 Z = true) : (Jvm.Cond.code ({ cls := "java/util/List", name := "of", desc := "([Ljava/lang/Object;)Ljava/util/List;" } : Jvm.MethodName) jdk_40_method_47_code (2 : Nat) (Option.some (Jvm.ClassFile.FieldType.object "java/util/List"))).before a0 Z = true := hw _ (List.mem_of_getElem? (i := 361) rfl)
theorem wc_List_96 {a0 : Array Value} {Z : State} (hw : ∀ d ∈ tables_1, d.before a0 Z = true) : (Jvm.Cond.classLink "java/util/List" (96 : Nat) "java/util/ImmutableCollections$List12").before a0 Z = true := hw _ (List.mem_of_getElem? (i := 362) rfl)
theorem wn_ImmutableCollectionsSList12 {a0 : Array Value} {Z : State} (hw : ∀ d ∈ tables_1, d.before a0 Z = true) : (Jvm.Cond.instantiable "java/util/ImmutableCollections$List12" (2 : Nat)).before a0 Z = true := hw _ (List.mem_of_getElem? (i := 363) rfl)
theorem wi_ImmutableCollectionsSList12 {a0 : Array Value} {Z : State} (hw : ∀ d ∈ tables_1, d.before a0 Z = true) : (Jvm.Cond.initialized "java/util/ImmutableCollections$List12").before a0 Z = true := hw _ (List.mem_of_getElem? (i := 364) rfl)
theorem wl_List_98 {a0 : Array Value} {Z : State} (hw : ∀ d ∈ tables_1, d.before a0 Z = true) : (Jvm.Cond.methodLink "java/util/List" (98 : Nat) ({ cls := "java/util/ImmutableCollections$List12", name := "<init>", desc := "(Ljava/lang/Object;)V" } : Jvm.MethodName)).before a0 Z = true := hw _ (List.mem_of_getElem? (i := 365) rfl)
theorem wm_ImmutableCollectionsSList12_init_lLjavalangObjectrV {a0 : Array Value} {Z : State} (hw : ∀ d ∈ tables_1, d.before a0 Z = true) : (Jvm.Cond.instanceMethod ({ cls := "java/util/ImmutableCollections$List12", name := "<init>", desc := "(Ljava/lang/Object;)V" } : Jvm.MethodName)).before a0 Z = true := hw _ (List.mem_of_getElem? (i := 366) rfl)
theorem wx_ImmutableCollectionsSList12_ImmutableCollectionsSList12 {a0 : Array Value} {Z : State} (hw : ∀ d ∈ tables_1, d.before a0 Z = true) : (Jvm.Cond.castable "java/util/ImmutableCollections$List12" "java/util/ImmutableCollections$List12").before a0 Z = true := hw _ (List.mem_of_getElem? (i := 367) rfl)
theorem wb_ImmutableCollectionsSList12_init_lLjavalangObjectrV {a0 : Array Value} {Z : State} (hw : ∀ d ∈ tables_1, d.before a0 Z = true) : (Jvm.Cond.code ({ cls := "java/util/ImmutableCollections$List12", name := "<init>", desc := "(Ljava/lang/Object;)V" } : Jvm.MethodName) jdk_44_method_1_code (2 : Nat) (Option.none : Option Jvm.ClassFile.FieldType)).before a0 Z = true := hw _ (List.mem_of_getElem? (i := 368) rfl)
theorem wl_ImmutableCollectionsSList12_1 {a0 : Array Value} {Z : State} (hw : ∀ d ∈ tables_1, d.before a0 Z = true) : (Jvm.Cond.methodLink "java/util/ImmutableCollections$List12" (1 : Nat) ({ cls := "java/util/ImmutableCollections$AbstractImmutableList", name := "<init>", desc := "()V" } : Jvm.MethodName)).before a0 Z = true := hw _ (List.mem_of_getElem? (i := 369) rfl)
theorem wm_ImmutableCollectionsSAbstractImmutableList_init_lrV {a0 : Array Value} {Z : State} (hw : ∀ d ∈ tables_1, d.before a0 Z = true) : (Jvm.Cond.instanceMethod ({ cls := "java/util/ImmutableCollections$AbstractImmutableList", name := "<init>", desc := "()V" } : Jvm.MethodName)).before a0 Z = true := hw _ (List.mem_of_getElem? (i := 370) rfl)
theorem wd_ImmutableCollectionsSAbstractImmutableList_init_lrV {a0 : Array Value} {Z : State} (hw : ∀ d ∈ tables_1, d.before a0 Z = true) : (Jvm.Cond.declares ({ cls := "java/util/ImmutableCollections$AbstractImmutableList", name := "<init>", desc := "()V" } : Jvm.MethodName)).before a0 Z = true := hw _ (List.mem_of_getElem? (i := 371) rfl)
theorem wx_ImmutableCollectionsSList12_ImmutableCollectionsSAbstractImmutableList {a0 : Array Value} {Z : State} (hw : ∀ d ∈ tables_1, d.before a0 Z = true) : (Jvm.Cond.castable "java/util/ImmutableCollections$List12" "java/util/ImmutableCollections$AbstractImmutableList").before a0 Z = true := hw _ (List.mem_of_getElem? (i := 372) rfl)
theorem wb_ImmutableCollectionsSAbstractImmutableList_init_lrV {a0 : Array Value} {Z : State} (hw : ∀ d ∈ tables_1, d.before a0 Z = true) : (Jvm.Cond.code ({ cls := "java/util/ImmutableCollections$AbstractImmutableList", name := "<init>", desc := "()V" } : Jvm.MethodName) jdk_46_method_1_code (1 : Nat) (Option.none : Option Jvm.ClassFile.FieldType)).before a0 Z = true := hw _ (List.mem_of_getElem? (i := 373) rfl)
theorem wl_ImmutableCollectionsSAbstractImmutableList_1 {a0 : Array Value} {Z : State} (hw : ∀ d ∈ tables_1, d.before a0 Z = true) : (Jvm.Cond.methodLink "java/util/ImmutableCollections$AbstractImmutableList" (1 : Nat) ({ cls := "java/util/ImmutableCollections$AbstractImmutableCollection", name := "<init>", desc := "()V" } : Jvm.MethodName)).before a0 Z = true := hw _ (List.mem_of_getElem? (i := 374) rfl)
theorem wm_ImmutableCollectionsSAbstractImmutableCollection_init_lrV {a0 : Array Value} {Z : State} (hw : ∀ d ∈ tables_1, d.before a0 Z = true) : (Jvm.Cond.instanceMethod ({ cls := "java/util/ImmutableCollections$AbstractImmutableCollection", name := "<init>", desc := "()V" } : Jvm.MethodName)).before a0 Z = true := hw _ (List.mem_of_getElem? (i := 375) rfl)
theorem wd_ImmutableCollectionsSAbstractImmutableCollection_init_lrV {a0 : Array Value} {Z : State} (hw : ∀ d ∈ tables_1, d.before a0 Z = true) : (Jvm.Cond.declares ({ cls := "java/util/ImmutableCollections$AbstractImmutableCollection", name := "<init>", desc := "()V" } : Jvm.MethodName)).before a0 Z = true := hw _ (List.mem_of_getElem? (i := 376) rfl)
theorem wx_ImmutableCollectionsSList12_ImmutableCollectionsSAbstractImmutableCollection {a0 : Array Value} {Z : State} (hw : ∀ d ∈ tables_1, d.before a0 Z = true) : (Jvm.Cond.castable "java/util/ImmutableCollections$List12" "java/util/ImmutableCollections$AbstractImmutableCollection").before a0 Z = true := hw _ (List.mem_of_getElem? (i := 377) rfl)
theorem wi_ImmutableCollectionsSAbstractImmutableCollection {a0 : Array Value} {Z : State} (hw : ∀ d ∈ tables_1, d.before a0 Z = true) : (Jvm.Cond.initialized "java/util/ImmutableCollections$AbstractImmutableCollection").before a0 Z = true := hw _ (List.mem_of_getElem? (i := 378) rfl)
theorem wb_ImmutableCollectionsSAbstractImmutableCollection_init_lrV {a0 : Array Value} {Z : State} (hw : ∀ d ∈ tables_1, d.before a0 Z = true) : (Jvm.Cond.code ({ cls := "java/util/ImmutableCollections$AbstractImmutableCollection", name := "<init>", desc := "()V" } : Jvm.MethodName) jdk_47_method_1_code (1 : Nat) (Option.none : Option Jvm.ClassFile.FieldType)).before a0 Z = true := hw _ (List.mem_of_getElem? (i := 379) rfl)
theorem wl_ImmutableCollectionsSAbstractImmutableCollection_1 {a0 : Array Value} {Z : State} (hw : ∀ d ∈ tables_1, d.before a0 Z = true) : (Jvm.Cond.methodLink "java/util/ImmutableCollections$AbstractImmutableCollection" (1 : Nat) ({ cls := "java/util/AbstractCollection", name := "<init>", desc := "()V" } : Jvm.MethodName)).before a0 Z = true := hw _ (List.mem_of_getElem? (i := 380) rfl)
theorem wx_ImmutableCollectionsSList12_AbstractCollection {a0 : Array Value} {Z : State} (hw : ∀ d ∈ tables_1, d.before a0 Z = true) : (Jvm.Cond.castable "java/util/ImmutableCollections$List12" "java/util/AbstractCollection").before a0 Z = true := hw _ (List.mem_of_getElem? (i := 381) rfl)
theorem wl_ImmutableCollectionsSList12_7 {a0 : Array Value} {Z : State} (hw : ∀ d ∈ tables_1, d.before a0 Z = true) : (Jvm.Cond.methodLink "java/util/ImmutableCollections$List12" (7 : Nat) ({ cls := "java/util/Objects", name := "requireNonNull", desc := "(Ljava/lang/Object;)Ljava/lang/Object;" } : Jvm.MethodName)).before a0 Z = true := hw _ (List.mem_of_getElem? (i := 382) rfl)
theorem ws_Objects_requireNonNull_lLjavalangObjectrLjavalangObject {a0 : Array Value} {Z : State} (hw : ∀ d ∈ tables_1, d.before a0 Z = true) : (Jvm.Cond.static ({ cls := "java/util/Objects", name := "requireNonNull", desc := "(Ljava/lang/Object;)Ljava/lang/Object;" } : Jvm.MethodName)).before a0 Z = true := hw _ (List.mem_of_getElem? (i := 383) rfl)
theorem wi_Objects {a0 : Array Value} {Z : State} (hw : ∀ d ∈ tables_1, d.before a0 Z = true) : (Jvm.Cond.initialized "java/util/Objects").before a0 Z = true := hw _ (List.mem_of_getElem? (i := 384) rfl)
theorem wb_Objects_requireNonNull_lLjavalangObjectrLjavalangObject {a0 : Array Value} {Z : State} (hw : ∀ d ∈ tables_1, d.before a0 Z = true) : (Jvm.Cond.code ({ cls := "java/util/Objects", name := "requireNonNull", desc := "(Ljava/lang/Object;)Ljava/lang/Object;" } : Jvm.MethodName) jdk_31_method_10_code (1 : Nat) (Option.some (Jvm.ClassFile.FieldType.object "java/lang/Object"))).before a0 Z = true := hw _ (List.mem_of_getElem? (i := 385) rfl)
theorem wf_ImmutableCollectionsSList12_13 {a0 : Array Value} {Z : State} (hw : ∀ d ∈ tables_1, d.before a0 Z = true) : (Jvm.Cond.fieldLink "java/util/ImmutableCollections$List12" (13 : Nat) "java/util/ImmutableCollections$List12" "e0" "Ljava/lang/Object;").before a0 Z = true := hw _ (List.mem_of_getElem? (i := 386) rfl)
theorem wy_ImmutableCollectionsSList12_ImmutableCollectionsSList12_e0 {a0 : Array Value} {Z : State} (hw : ∀ d ∈ tables_1, d.before a0 Z = true) : (Jvm.Cond.laysFinal "java/util/ImmutableCollections$List12" "java/util/ImmutableCollections$List12" "e0" "Ljava/lang/Object;").before a0 Z = true := hw _ (List.mem_of_getElem? (i := 387) rfl)
theorem wf_ImmutableCollectionsSList12_19 {a0 : Array Value} {Z : State} (hw : ∀ d ∈ tables_1, d.before a0 Z = true) : (Jvm.Cond.fieldLinkNest "java/util/ImmutableCollections$List12" (19 : Nat) "java/util/ImmutableCollections" "EMPTY" "Ljava/lang/Object;" "java/util/ImmutableCollections").before a0 Z = true := hw _ (List.mem_of_getElem? (i := 388) rfl)
theorem wf_ImmutableCollectionsSList12_24 {a0 : Array Value} {Z : State} (hw : ∀ d ∈ tables_1, d.before a0 Z = true) : (Jvm.Cond.fieldLink "java/util/ImmutableCollections$List12" (24 : Nat) "java/util/ImmutableCollections$List12" "e1" "Ljava/lang/Object;").before a0 Z = true := hw _ (List.mem_of_getElem? (i := 389) rfl)
theorem wy_ImmutableCollectionsSList12_ImmutableCollectionsSList12_e1 {a0 : Array Value} {Z : State} (hw : ∀ d ∈ tables_1, d.before a0 Z = true) : (Jvm.Cond.laysFinal "java/util/ImmutableCollections$List12" "java/util/ImmutableCollections$List12" "e1" "Ljava/lang/Object;").before a0 Z = true := hw _ (List.mem_of_getElem? (i := 390) rfl)
theorem wv_ImmutableCollectionsSList12_Object_toString_lrLjavalangString {a0 : Array Value} {Z : State} (hw : ∀ d ∈ tables_1, d.before a0 Z = true) : (Jvm.Cond.selects "java/util/ImmutableCollections$List12" ({ cls := "java/lang/Object", name := "toString", desc := "()Ljava/lang/String;" } : Jvm.MethodName) ({ cls := "java/util/AbstractCollection", name := "toString", desc := "()Ljava/lang/String;" } : Jvm.MethodName)).before a0 Z = true := hw _ (List.mem_of_getElem? (i := 391) rfl)
theorem wv_ImmutableCollectionsSList12_AbstractCollection_iterator_lrLjavautilIterator {a0 : Array Value} {Z : State} (hw : ∀ d ∈ tables_1, d.before a0 Z = true) : (Jvm.Cond.selects "java/util/ImmutableCollections$List12" ({ cls := "java/util/AbstractCollection", name := "iterator", desc := "()Ljava/util/Iterator;" } : Jvm.MethodName) ({ cls := "java/util/ImmutableCollections$AbstractImmutableList", name := "iterator", desc := "()Ljava/util/Iterator;" } : Jvm.MethodName)).before a0 Z = true := hw _ (List.mem_of_getElem? (i := 392) rfl)
theorem wv_ImmutableCollectionsSList12_ImmutableCollectionsSAbstractImmutableList_size_lrI {a0 : Array Value} {Z : State} (hw : ∀ d ∈ tables_1, d.before a0 Z = true) : (Jvm.Cond.selects "java/util/ImmutableCollections$List12" ({ cls := "java/util/ImmutableCollections$AbstractImmutableList", name := "size", desc := "()I" } : Jvm.MethodName) ({ cls := "java/util/ImmutableCollections$List12", name := "size", desc := "()I" } : Jvm.MethodName)).before a0 Z = true := hw _ (List.mem_of_getElem? (i := 393) rfl)
theorem wm_ImmutableCollectionsSList12_size_lrI {a0 : Array Value} {Z : State} (hw : ∀ d ∈ tables_1, d.before a0 Z = true) : (Jvm.Cond.instanceMethod ({ cls := "java/util/ImmutableCollections$List12", name := "size", desc := "()I" } : Jvm.MethodName)).before a0 Z = true := hw _ (List.mem_of_getElem? (i := 394) rfl)
theorem wb_ImmutableCollectionsSList12_size_lrI {a0 : Array Value} {Z : State} (hw : ∀ d ∈ tables_1, d.before a0 Z = true) : (Jvm.Cond.code ({ cls := "java/util/ImmutableCollections$List12", name := "size", desc := "()I" } : Jvm.MethodName) jdk_44_method_3_code (1 : Nat) (Option.some Jvm.ClassFile.FieldType.int)).before a0 Z = true := hw _ (List.mem_of_getElem? (i := 395) rfl)
theorem wc_AbstractCollection_94 {a0 : Array Value} {Z : State} (hw : ∀ d ∈ tables_1, d.before a0 Z = true) : (Jvm.Cond.classLink "java/util/AbstractCollection" (94 : Nat) "java/lang/StringBuilder").before a0 Z = true := hw _ (List.mem_of_getElem? (i := 396) rfl)
theorem wl_AbstractCollection_96 {a0 : Array Value} {Z : State} (hw : ∀ d ∈ tables_1, d.before a0 Z = true) : (Jvm.Cond.methodLink "java/util/AbstractCollection" (96 : Nat) ({ cls := "java/lang/StringBuilder", name := "<init>", desc := "()V" } : Jvm.MethodName)).before a0 Z = true := hw _ (List.mem_of_getElem? (i := 397) rfl)
theorem wx_StringBuilder_StringBuilder {a0 : Array Value} {Z : State} (hw : ∀ d ∈ tables_1, d.before a0 Z = true) : (Jvm.Cond.castable "java/lang/StringBuilder" "java/lang/StringBuilder").before a0 Z = true := hw _ (List.mem_of_getElem? (i := 398) rfl)
theorem wl_AbstractCollection_97 {a0 : Array Value} {Z : State} (hw : ∀ d ∈ tables_1, d.before a0 Z = true) : (Jvm.Cond.methodLink "java/util/AbstractCollection" (97 : Nat) ({ cls := "java/lang/StringBuilder", name := "append", desc := "(C)Ljava/lang/StringBuilder;" } : Jvm.MethodName)).before a0 Z = true := hw _ (List.mem_of_getElem? (i := 399) rfl)
theorem wd_StringBuilder_append_lCrLjavalangStringBuilder {a0 : Array Value} {Z : State} (hw : ∀ d ∈ tables_1, d.before a0 Z = true) : (Jvm.Cond.declares ({ cls := "java/lang/StringBuilder", name := "append", desc := "(C)Ljava/lang/StringBuilder;" } : Jvm.MethodName)).before a0 Z = true := hw _ (List.mem_of_getElem? (i := 400) rfl)
theorem wm_StringBuilder_append_lCrLjavalangStringBuilder {a0 : Array Value} {Z : State} (hw : ∀ d ∈ tables_1, d.before a0 Z = true) : (Jvm.Cond.instanceMethod ({ cls := "java/lang/StringBuilder", name := "append", desc := "(C)Ljava/lang/StringBuilder;" } : Jvm.MethodName)).before a0 Z = true := hw _ (List.mem_of_getElem? (i := 401) rfl)
theorem wv_StringBuilder_StringBuilder_append_lCrLjavalangStringBuilder {a0 : Array Value} {Z : State} (hw : ∀ d ∈ tables_1, d.before a0 Z = true) : (Jvm.Cond.selects "java/lang/StringBuilder" ({ cls := "java/lang/StringBuilder", name := "append", desc := "(C)Ljava/lang/StringBuilder;" } : Jvm.MethodName) ({ cls := "java/lang/StringBuilder", name := "append", desc := "(C)Ljava/lang/StringBuilder;" } : Jvm.MethodName)).before a0 Z = true := hw _ (List.mem_of_getElem? (i := 402) rfl)
theorem wb_StringBuilder_append_lCrLjavalangStringBuilder {a0 : Array Value} {Z : State} (hw : ∀ d ∈ tables_1, d.before a0 Z = true) : (Jvm.Cond.code ({ cls := "java/lang/StringBuilder", name := "append", desc := "(C)Ljava/lang/StringBuilder;" } : Jvm.MethodName) jdk_67_method_14_code (2 : Nat) (Option.some (Jvm.ClassFile.FieldType.object "java/lang/StringBuilder"))).before a0 Z = true := hw _ (List.mem_of_getElem? (i := 403) rfl)
theorem wl_StringBuilder_50 {a0 : Array Value} {Z : State} (hw : ∀ d ∈ tables_1, d.before a0 Z = true) : (Jvm.Cond.methodLink "java/lang/StringBuilder" (50 : Nat) ({ cls := "java/lang/AbstractStringBuilder", name := "append", desc := "(C)Ljava/lang/AbstractStringBuilder;" } : Jvm.MethodName)).before a0 Z = true := hw _ (List.mem_of_getElem? (i := 404) rfl)
theorem wm_AbstractStringBuilder_append_lCrLjavalangAbstractStringBuilder {a0 : Array Value} {Z : State} (hw : ∀ d ∈ tables_1, d.before a0 Z = true) : (Jvm.Cond.instanceMethod ({ cls := "java/lang/AbstractStringBuilder", name := "append", desc := "(C)Ljava/lang/AbstractStringBuilder;" } : Jvm.MethodName)).before a0 Z = true := hw _ (List.mem_of_getElem? (i := 405) rfl)
theorem wd_AbstractStringBuilder_append_lCrLjavalangAbstractStringBuilder {a0 : Array Value} {Z : State} (hw : ∀ d ∈ tables_1, d.before a0 Z = true) : (Jvm.Cond.declares ({ cls := "java/lang/AbstractStringBuilder", name := "append", desc := "(C)Ljava/lang/AbstractStringBuilder;" } : Jvm.MethodName)).before a0 Z = true := hw _ (List.mem_of_getElem? (i := 406) rfl)
theorem wb_AbstractStringBuilder_append_lCrLjavalangAbstractStringBuilder {a0 : Array Value} {Z : State} (hw : ∀ d ∈ tables_1, d.before a0 Z = true) : (Jvm.Cond.code ({ cls := "java/lang/AbstractStringBuilder", name := "append", desc := "(C)Ljava/lang/AbstractStringBuilder;" } : Jvm.MethodName) jdk_68_method_31_code (2 : Nat) (Option.some (Jvm.ClassFile.FieldType.object "java/lang/AbstractStringBuilder"))).before a0 Z = true := hw _ (List.mem_of_getElem? (i := 407) rfl)
theorem wl_AbstractStringBuilder_83 {a0 : Array Value} {Z : State} (hw : ∀ d ∈ tables_1, d.before a0 Z = true) : (Jvm.Cond.methodLink "java/lang/AbstractStringBuilder" (83 : Nat) ({ cls := "java/lang/AbstractStringBuilder", name := "isLatin1", desc := "()Z" } : Jvm.MethodName)).before a0 Z = true := hw _ (List.mem_of_getElem? (i := 408) rfl)
theorem wl_AbstractStringBuilder_191 {a0 : Array Value} {Z : State} (hw : ∀ d ∈ tables_1, d.before a0 Z = true) : (Jvm.Cond.methodLink "java/lang/AbstractStringBuilder" (191 : Nat) ({ cls := "java/lang/StringLatin1", name := "canEncode", desc := "(C)Z" } : Jvm.MethodName)).before a0 Z = true := hw _ (List.mem_of_getElem? (i := 409) rfl)
theorem ws_StringLatin1_canEncode_lCrZ {a0 : Array Value} {Z : State} (hw : ∀ d ∈ tables_1, d.before a0 Z = true) : (Jvm.Cond.static ({ cls := "java/lang/StringLatin1", name := "canEncode", desc := "(C)Z" } : Jvm.MethodName)).before a0 Z = true := hw _ (List.mem_of_getElem? (i := 410) rfl)
theorem wb_StringLatin1_canEncode_lCrZ {a0 : Array Value} {Z : State} (hw : ∀ d ∈ tables_1, d.before a0 Z = true) : (Jvm.Cond.code ({ cls := "java/lang/StringLatin1", name := "canEncode", desc := "(C)Z" } : Jvm.MethodName) jdk_43_method_3_code (1 : Nat) (Option.some Jvm.ClassFile.FieldType.boolean)).before a0 Z = true := hw _ (List.mem_of_getElem? (i := 411) rfl)
theorem wl_AbstractCollection_23 {a0 : Array Value} {Z : State} (hw : ∀ d ∈ tables_1, d.before a0 Z = true) : (Jvm.Cond.methodLink "java/util/AbstractCollection" (23 : Nat) ({ cls := "java/util/Iterator", name := "next", desc := "()Ljava/lang/Object;" } : Jvm.MethodName)).before a0 Z = true := hw _ (List.mem_of_getElem? (i := 412) rfl)
theorem wd_Iterator_next_lrLjavalangObject {a0 : Array Value} {Z : State} (hw : ∀ d ∈ tables_1, d.before a0 Z = true) : (Jvm.Cond.declares ({ cls := "java/util/Iterator", name := "next", desc := "()Ljava/lang/Object;" } : Jvm.MethodName)).before a0 Z = true := hw _ (List.mem_of_getElem? (i := 413) rfl)
theorem wg_Iterator_next_lrLjavalangObject {a0 : Array Value} {Z : State} (hw : ∀ d ∈ tables_1, d.before a0 Z = true) : (Jvm.Cond.interfaceMethod "java/util/Iterator" "java/util/Iterator" "next" "()Ljava/lang/Object;").before a0 Z = true := hw _ (List.mem_of_getElem? (i := 414) rfl)
theorem wv_ImmutableCollectionsSListItr_Iterator_next_lrLjavalangObject {a0 : Array Value} {Z : State} (hw : ∀ d ∈ tables_1, d.before a0 Z = true) : (Jvm.Cond.selects "java/util/ImmutableCollections$ListItr" ({ cls := "java/util/Iterator", name := "next", desc := "()Ljava/lang/Object;" } : Jvm.MethodName) ({ cls := "java/util/ImmutableCollections$ListItr", name := "next", desc := "()Ljava/lang/Object;" } : Jvm.MethodName)).before a0 Z = true := hw _ (List.mem_of_getElem? (i := 415) rfl)
theorem wm_ImmutableCollectionsSListItr_next_lrLjavalangObject {a0 : Array Value} {Z : State} (hw : ∀ d ∈ tables_1, d.before a0 Z = true) : (Jvm.Cond.instanceMethod ({ cls := "java/util/ImmutableCollections$ListItr", name := "next", desc := "()Ljava/lang/Object;" } : Jvm.MethodName)).before a0 Z = true := hw _ (List.mem_of_getElem? (i := 416) rfl)
theorem wp_ImmutableCollectionsSListItr_next_lrLjavalangObject {a0 : Array Value} {Z : State} (hw : ∀ d ∈ tables_1, d.before a0 Z = true) : (Jvm.Cond.publicMethod ({ cls := "java/util/ImmutableCollections$ListItr", name := "next", desc := "()Ljava/lang/Object;" } : Jvm.MethodName)).before a0 Z = true := hw _ (List.mem_of_getElem? (i := 417) rfl)
theorem wu_ImmutableCollectionsSListItr_next_lrLjavalangObject {a0 : Array Value} {Z : State} (hw : ∀ d ∈ tables_1, d.before a0 Z = true) : (Jvm.Cond.unhidden "java/util/ImmutableCollections$ListItr" "next" "()Ljava/lang/Object;").before a0 Z = true := hw _ (List.mem_of_getElem? (i := 418) rfl)
theorem wb_ImmutableCollectionsSListItr_next_lrLjavalangObject {a0 : Array Value} {Z : State} (hw : ∀ d ∈ tables_1, d.before a0 Z = true) : (Jvm.Cond.codeWith ({ cls := "java/util/ImmutableCollections$ListItr", name := "next", desc := "()Ljava/lang/Object;" } : Jvm.MethodName) jdk_53_method_4_code (3 : Nat) (Option.some (Jvm.ClassFile.FieldType.object "java/lang/Object")) [((0 : Nat), (24 : Nat), (25 : Nat), (30 : Nat))]).before a0 Z = true := hw _ (List.mem_of_getElem? (i := 419) rfl)
theorem wl_ImmutableCollectionsSListItr_24 {a0 : Array Value} {Z : State} (hw : ∀ d ∈ tables_1, d.before a0 Z = true) : (Jvm.Cond.methodLink "java/util/ImmutableCollections$ListItr" (24 : Nat) ({ cls := "java/util/List", name := "get", desc := "(I)Ljava/lang/Object;" } : Jvm.MethodName)).before a0 Z = true := hw _ (List.mem_of_getElem? (i := 420) rfl)
theorem wd_List_get_lIrLjavalangObject {a0 : Array Value} {Z : State} (hw : ∀ d ∈ tables_1, d.before a0 Z = true) : (Jvm.Cond.declares ({ cls := "java/util/List", name := "get", desc := "(I)Ljava/lang/Object;" } : Jvm.MethodName)).before a0 Z = true := hw _ (List.mem_of_getElem? (i := 421) rfl)
theorem wg_List_get_lIrLjavalangObject {a0 : Array Value} {Z : State} (hw : ∀ d ∈ tables_1, d.before a0 Z = true) : (Jvm.Cond.interfaceMethod "java/util/List" "java/util/List" "get" "(I)Ljava/lang/Object;").before a0 Z = true := hw _ (List.mem_of_getElem? (i := 422) rfl)
theorem wv_ImmutableCollectionsSList12_List_get_lIrLjavalangObject {a0 : Array Value} {Z : State} (hw : ∀ d ∈ tables_1, d.before a0 Z = true) : (Jvm.Cond.selects "java/util/ImmutableCollections$List12" ({ cls := "java/util/List", name := "get", desc := "(I)Ljava/lang/Object;" } : Jvm.MethodName) ({ cls := "java/util/ImmutableCollections$List12", name := "get", desc := "(I)Ljava/lang/Object;" } : Jvm.MethodName)).before a0 Z = true := hw _ (List.mem_of_getElem? (i := 423) rfl)
theorem wm_ImmutableCollectionsSList12_get_lIrLjavalangObject {a0 : Array Value} {Z : State} (hw : ∀ d ∈ tables_1, d.before a0 Z = true) : (Jvm.Cond.instanceMethod ({ cls := "java/util/ImmutableCollections$List12", name := "get", desc := "(I)Ljava/lang/Object;" } : Jvm.MethodName)).before a0 Z = true := hw _ (List.mem_of_getElem? (i := 424) rfl)
theorem wp_ImmutableCollectionsSList12_get_lIrLjavalangObject {a0 : Array Value} {Z : State} (hw : ∀ d ∈ tables_1, d.before a0 Z = true) : (Jvm.Cond.publicMethod ({ cls := "java/util/ImmutableCollections$List12", name := "get", desc := "(I)Ljava/lang/Object;" } : Jvm.MethodName)).before a0 Z = true := hw _ (List.mem_of_getElem? (i := 425) rfl)
theorem wu_ImmutableCollectionsSList12_get_lIrLjavalangObject {a0 : Array Value} {Z : State} (hw : ∀ d ∈ tables_1, d.before a0 Z = true) : (Jvm.Cond.unhidden "java/util/ImmutableCollections$List12" "get" "(I)Ljava/lang/Object;").before a0 Z = true := hw _ (List.mem_of_getElem? (i := 426) rfl)
theorem wx_ImmutableCollectionsSList12_List {a0 : Array Value} {Z : State} (hw : ∀ d ∈ tables_1, d.before a0 Z = true) : (Jvm.Cond.castable "java/util/ImmutableCollections$List12" "java/util/List").before a0 Z = true := hw _ (List.mem_of_getElem? (i := 427) rfl)
theorem wb_ImmutableCollectionsSList12_get_lIrLjavalangObject {a0 : Array Value} {Z : State} (hw : ∀ d ∈ tables_1, d.before a0 Z = true) : (Jvm.Cond.code ({ cls := "java/util/ImmutableCollections$List12", name := "get", desc := "(I)Ljava/lang/Object;" } : Jvm.MethodName) jdk_44_method_5_code (2 : Nat) (Option.some (Jvm.ClassFile.FieldType.object "java/lang/Object"))).before a0 Z = true := hw _ (List.mem_of_getElem? (i := 428) rfl)
theorem wl_AbstractCollection_103 {a0 : Array Value} {Z : State} (hw : ∀ d ∈ tables_1, d.before a0 Z = true) : (Jvm.Cond.methodLink "java/util/AbstractCollection" (103 : Nat) ({ cls := "java/lang/StringBuilder", name := "append", desc := "(Ljava/lang/Object;)Ljava/lang/StringBuilder;" } : Jvm.MethodName)).before a0 Z = true := hw _ (List.mem_of_getElem? (i := 429) rfl)
theorem wv_String_Object_toString_lrLjavalangString {a0 : Array Value} {Z : State} (hw : ∀ d ∈ tables_1, d.before a0 Z = true) : (Jvm.Cond.selects "java/lang/String" ({ cls := "java/lang/Object", name := "toString", desc := "()Ljava/lang/String;" } : Jvm.MethodName) ({ cls := "java/lang/String", name := "toString", desc := "()Ljava/lang/String;" } : Jvm.MethodName)).before a0 Z = true := hw _ (List.mem_of_getElem? (i := 430) rfl)
theorem wm_String_toString_lrLjavalangString {a0 : Array Value} {Z : State} (hw : ∀ d ∈ tables_1, d.before a0 Z = true) : (Jvm.Cond.instanceMethod ({ cls := "java/lang/String", name := "toString", desc := "()Ljava/lang/String;" } : Jvm.MethodName)).before a0 Z = true := hw _ (List.mem_of_getElem? (i := 431) rfl)
theorem wb_String_toString_lrLjavalangString {a0 : Array Value} {Z : State} (hw : ∀ d ∈ tables_1, d.before a0 Z = true) : (Jvm.Cond.code ({ cls := "java/lang/String", name := "toString", desc := "()Ljava/lang/String;" } : Jvm.MethodName) jdk_42_method_126_code (1 : Nat) (Option.some (Jvm.ClassFile.FieldType.object "java/lang/String"))).before a0 Z = true := hw _ (List.mem_of_getElem? (i := 432) rfl)
theorem wl_AbstractCollection_106 {a0 : Array Value} {Z : State} (hw : ∀ d ∈ tables_1, d.before a0 Z = true) : (Jvm.Cond.methodLink "java/util/AbstractCollection" (106 : Nat) ({ cls := "java/lang/StringBuilder", name := "toString", desc := "()Ljava/lang/String;" } : Jvm.MethodName)).before a0 Z = true := hw _ (List.mem_of_getElem? (i := 433) rfl)
theorem wl_List_100 {a0 : Array Value} {Z : State} (hw : ∀ d ∈ tables_1, d.before a0 Z = true) : (Jvm.Cond.methodLink "java/util/List" (100 : Nat) ({ cls := "java/util/ImmutableCollections$List12", name := "<init>", desc := "(Ljava/lang/Object;Ljava/lang/Object;)V" } : Jvm.MethodName)).before a0 Z = true := hw _ (List.mem_of_getElem? (i := 434) rfl)
theorem wm_ImmutableCollectionsSList12_init_lLjavalangObjectLjavalangObjectrV {a0 : Array Value} {Z : State} (hw : ∀ d ∈ tables_1, d.before a0 Z = true) : (Jvm.Cond.instanceMethod ({ cls := "java/util/ImmutableCollections$List12", name := "<init>", desc := "(Ljava/lang/Object;Ljava/lang/Object;)V" } : Jvm.MethodName)).before a0 Z = true := hw _ (List.mem_of_getElem? (i := 435) rfl)
theorem wb_ImmutableCollectionsSList12_init_lLjavalangObjectLjavalangObjectrV {a0 : Array Value} {Z : State} (hw : ∀ d ∈ tables_1, d.before a0 Z = true) : (Jvm.Cond.code ({ cls := "java/util/ImmutableCollections$List12", name := "<init>", desc := "(Ljava/lang/Object;Ljava/lang/Object;)V" } : Jvm.MethodName) jdk_44_method_2_code (3 : Nat) (Option.none : Option Jvm.ClassFile.FieldType)).before a0 Z = true := hw _ (List.mem_of_getElem? (i := 436) rfl)
theorem dm2_0 : decode method_2_code 0 = .ok (.lload_n 0, 1) := by decide +kernel
theorem dm2_1 : decode method_2_code 1 = .ok (.bipush 8, 2) := by decide +kernel
theorem dm2_3 : decode method_2_code 3 = .ok (.iload_n 2, 1) := by decide +kernel
theorem dm2_4 : decode method_2_code 4 = .ok (.imul, 1) := by decide +kernel
theorem dm2_5 : decode method_2_code 5 = .ok (.lushr, 1) := by decide +kernel
theorem dm2_6 : decode method_2_code 6 = .ok (.ldc2_w 7, 3) := by decide +kernel
theorem dm2_9 : decode method_2_code 9 = .ok (.land, 1) := by decide +kernel
theorem dm2_10 : decode method_2_code 10 = .ok (.l2i, 1) := by decide +kernel
theorem dm2_11 : decode method_2_code 11 = .ok (.i2c, 1) := by decide +kernel
theorem dm2_12 : decode method_2_code 12 = .ok (.ireturn, 1) := by decide +kernel
theorem dm3_0 : decode method_3_code 0 = .ok (.iload_n 0, 1) := by decide +kernel
theorem dm3_1 : decode method_3_code 1 = .ok (.ifCond .ne 14, 3) := by decide +kernel
theorem dm3_4 : decode method_3_code 4 = .ok (.new 9, 3) := by decide +kernel
theorem dm3_7 : decode method_3_code 7 = .ok (.dup, 1) := by decide +kernel
theorem dm3_8 : decode method_3_code 8 = .ok (.iconst 0, 1) := by decide +kernel
theorem dm3_9 : decode method_3_code 9 = .ok (.newarray .char, 2) := by decide +kernel
theorem dm3_11 : decode method_3_code 11 = .ok (.invokespecial 11, 3) := by decide +kernel
theorem dm3_14 : decode method_3_code 14 = .ok (.areturn, 1) := by decide +kernel
theorem dm3_15 : decode method_3_code 15 = .ok (.iload_n 0, 1) := by decide +kernel
theorem dm3_16 : decode method_3_code 16 = .ok (.iconst 1, 1) := by decide +kernel
theorem dm3_17 : decode method_3_code 17 = .ok (.if_icmp .ne 18, 3) := by decide +kernel
theorem dm3_20 : decode method_3_code 20 = .ok (.new 9, 3) := by decide +kernel
theorem dm3_23 : decode method_3_code 23 = .ok (.dup, 1) := by decide +kernel
theorem dm3_24 : decode method_3_code 24 = .ok (.iconst 1, 1) := by decide +kernel
theorem dm3_25 : decode method_3_code 25 = .ok (.newarray .char, 2) := by decide +kernel
theorem dm3_27 : decode method_3_code 27 = .ok (.dup, 1) := by decide +kernel
theorem dm3_28 : decode method_3_code 28 = .ok (.iconst 0, 1) := by decide +kernel
theorem dm3_29 : decode method_3_code 29 = .ok (.iload_n 1, 1) := by decide +kernel
theorem dm3_30 : decode method_3_code 30 = .ok (.castore, 1) := by decide +kernel
theorem dm3_31 : decode method_3_code 31 = .ok (.invokespecial 11, 3) := by decide +kernel
theorem dm3_34 : decode method_3_code 34 = .ok (.areturn, 1) := by decide +kernel
theorem dm3_35 : decode method_3_code 35 = .ok (.iload_n 0, 1) := by decide +kernel
theorem dm3_36 : decode method_3_code 36 = .ok (.iconst 2, 1) := by decide +kernel
theorem dm3_37 : decode method_3_code 37 = .ok (.if_icmp .ne 22, 3) := by decide +kernel
theorem dm3_40 : decode method_3_code 40 = .ok (.new 9, 3) := by decide +kernel
theorem dm3_43 : decode method_3_code 43 = .ok (.dup, 1) := by decide +kernel
theorem dm3_44 : decode method_3_code 44 = .ok (.iconst 2, 1) := by decide +kernel
theorem dm3_45 : decode method_3_code 45 = .ok (.newarray .char, 2) := by decide +kernel
theorem dm3_47 : decode method_3_code 47 = .ok (.dup, 1) := by decide +kernel
theorem dm3_48 : decode method_3_code 48 = .ok (.iconst 0, 1) := by decide +kernel
theorem dm3_49 : decode method_3_code 49 = .ok (.iload_n 1, 1) := by decide +kernel
theorem dm3_50 : decode method_3_code 50 = .ok (.castore, 1) := by decide +kernel
theorem dm3_51 : decode method_3_code 51 = .ok (.dup, 1) := by decide +kernel
theorem dm3_52 : decode method_3_code 52 = .ok (.iconst 1, 1) := by decide +kernel
theorem dm3_53 : decode method_3_code 53 = .ok (.iload_n 2, 1) := by decide +kernel
theorem dm3_54 : decode method_3_code 54 = .ok (.castore, 1) := by decide +kernel
theorem dm3_55 : decode method_3_code 55 = .ok (.invokespecial 11, 3) := by decide +kernel
theorem dm3_58 : decode method_3_code 58 = .ok (.areturn, 1) := by decide +kernel
theorem dm3_59 : decode method_3_code 59 = .ok (.new 9, 3) := by decide +kernel
theorem dm3_62 : decode method_3_code 62 = .ok (.dup, 1) := by decide +kernel
theorem dm3_63 : decode method_3_code 63 = .ok (.iconst 3, 1) := by decide +kernel
theorem dm3_64 : decode method_3_code 64 = .ok (.newarray .char, 2) := by decide +kernel
theorem dm3_66 : decode method_3_code 66 = .ok (.dup, 1) := by decide +kernel
theorem dm3_67 : decode method_3_code 67 = .ok (.iconst 0, 1) := by decide +kernel
theorem dm3_68 : decode method_3_code 68 = .ok (.iload_n 1, 1) := by decide +kernel
theorem dm3_69 : decode method_3_code 69 = .ok (.castore, 1) := by decide +kernel
theorem dm3_70 : decode method_3_code 70 = .ok (.dup, 1) := by decide +kernel
theorem dm3_71 : decode method_3_code 71 = .ok (.iconst 1, 1) := by decide +kernel
theorem dm3_72 : decode method_3_code 72 = .ok (.iload_n 2, 1) := by decide +kernel
theorem dm3_73 : decode method_3_code 73 = .ok (.castore, 1) := by decide +kernel
theorem dm3_74 : decode method_3_code 74 = .ok (.dup, 1) := by decide +kernel
theorem dm3_75 : decode method_3_code 75 = .ok (.iconst 2, 1) := by decide +kernel
theorem dm3_76 : decode method_3_code 76 = .ok (.iload_n 3, 1) := by decide +kernel
theorem dm3_77 : decode method_3_code 77 = .ok (.castore, 1) := by decide +kernel
theorem dm3_78 : decode method_3_code 78 = .ok (.invokespecial 11, 3) := by decide +kernel
theorem dm3_81 : decode method_3_code 81 = .ok (.areturn, 1) := by decide +kernel
theorem dj42_3_0 : decode jdk_42_method_3_code 0 = .ok (.aload_n 0, 1) := by decide +kernel
theorem dj42_3_1 : decode jdk_42_method_3_code 1 = .ok (.aload_n 1, 1) := by decide +kernel
theorem dj42_3_2 : decode jdk_42_method_3_code 2 = .ok (.iconst 0, 1) := by decide +kernel
theorem dj42_3_3 : decode jdk_42_method_3_code 3 = .ok (.aload_n 1, 1) := by decide +kernel
theorem dj42_3_4 : decode jdk_42_method_3_code 4 = .ok (.arraylength, 1) := by decide +kernel
theorem dj42_3_5 : decode jdk_42_method_3_code 5 = .ok (.aconst_null, 1) := by decide +kernel
theorem dj42_3_6 : decode jdk_42_method_3_code 6 = .ok (.invokespecial 27, 3) := by decide +kernel
theorem dj42_3_9 : decode jdk_42_method_3_code 9 = .ok (.return_, 1) := by decide +kernel
theorem dj42_149_0 : decode jdk_42_method_149_code 0 = .ok (.aload_n 0, 1) := by decide +kernel
theorem dj42_149_1 : decode jdk_42_method_149_code 1 = .ok (.invokespecial 1, 3) := by decide +kernel
theorem dj42_149_4 : decode jdk_42_method_149_code 4 = .ok (.iload_n 3, 1) := by decide +kernel
theorem dj42_149_5 : decode jdk_42_method_149_code 5 = .ok (.ifCond .ne 22, 3) := by decide +kernel
theorem dj42_149_8 : decode jdk_42_method_149_code 8 = .ok (.aload_n 0, 1) := by decide +kernel
theorem dj42_149_9 : decode jdk_42_method_149_code 9 = .ok (.ldc 7, 2) := by decide +kernel
theorem dj42_149_11 : decode jdk_42_method_149_code 11 = .ok (.getfield 9, 3) := by decide +kernel
theorem dj42_149_14 : decode jdk_42_method_149_code 14 = .ok (.putfield 9, 3) := by decide +kernel
theorem dj42_149_17 : decode jdk_42_method_149_code 17 = .ok (.aload_n 0, 1) := by decide +kernel
theorem dj42_149_18 : decode jdk_42_method_149_code 18 = .ok (.ldc 7, 2) := by decide +kernel
theorem dj42_149_20 : decode jdk_42_method_149_code 20 = .ok (.getfield 15, 3) := by decide +kernel
theorem dj42_149_23 : decode jdk_42_method_149_code 23 = .ok (.putfield 15, 3) := by decide +kernel
theorem dj42_149_26 : decode jdk_42_method_149_code 26 = .ok (.return_, 1) := by decide +kernel
theorem dj42_149_27 : decode jdk_42_method_149_code 27 = .ok (.getstatic 38, 3) := by decide +kernel
theorem dj42_149_30 : decode jdk_42_method_149_code 30 = .ok (.ifCond .eq 28, 3) := by decide +kernel
theorem dj42_149_33 : decode jdk_42_method_149_code 33 = .ok (.aload_n 1, 1) := by decide +kernel
theorem dj42_149_34 : decode jdk_42_method_149_code 34 = .ok (.iload_n 2, 1) := by decide +kernel
theorem dj42_149_35 : decode jdk_42_method_149_code 35 = .ok (.iload_n 3, 1) := by decide +kernel
theorem dj42_149_36 : decode jdk_42_method_149_code 36 = .ok (.invokestatic 177, 3) := by decide +kernel
theorem dj42_149_39 : decode jdk_42_method_149_code 39 = .ok (.astore 5, 2) := by decide +kernel
theorem dj42_149_41 : decode jdk_42_method_149_code 41 = .ok (.aload_n 0, 1) := by decide +kernel
theorem dj42_149_42 : decode jdk_42_method_149_code 42 = .ok (.aload 5, 2) := by decide +kernel
theorem dj42_149_44 : decode jdk_42_method_149_code 44 = .ok (.iload_n 3, 1) := by decide +kernel
theorem dj42_149_45 : decode jdk_42_method_149_code 45 = .ok (.invokestatic 47, 3) := by decide +kernel
theorem dj42_149_48 : decode jdk_42_method_149_code 48 = .ok (.putfield 15, 3) := by decide +kernel
theorem dj42_149_51 : decode jdk_42_method_149_code 51 = .ok (.aload_n 0, 1) := by decide +kernel
theorem dj42_149_52 : decode jdk_42_method_149_code 52 = .ok (.aload 5, 2) := by decide +kernel
theorem dj42_149_54 : decode jdk_42_method_149_code 54 = .ok (.putfield 9, 3) := by decide +kernel
theorem dj42_149_57 : decode jdk_42_method_149_code 57 = .ok (.return_, 1) := by decide +kernel
theorem dj42_149_58 : decode jdk_42_method_149_code 58 = .ok (.aload_n 0, 1) := by decide +kernel
theorem dj42_149_59 : decode jdk_42_method_149_code 59 = .ok (.iconst 1, 1) := by decide +kernel
theorem dj42_149_60 : decode jdk_42_method_149_code 60 = .ok (.putfield 15, 3) := by decide +kernel
theorem dj42_149_63 : decode jdk_42_method_149_code 63 = .ok (.aload_n 0, 1) := by decide +kernel
theorem dj42_149_64 : decode jdk_42_method_149_code 64 = .ok (.aload_n 1, 1) := by decide +kernel
theorem dj42_149_65 : decode jdk_42_method_149_code 65 = .ok (.iload_n 2, 1) := by decide +kernel
theorem dj42_149_66 : decode jdk_42_method_149_code 66 = .ok (.iload_n 3, 1) := by decide +kernel
theorem dj42_149_67 : decode jdk_42_method_149_code 67 = .ok (.invokestatic 180, 3) := by decide +kernel
theorem dj42_149_70 : decode jdk_42_method_149_code 70 = .ok (.putfield 9, 3) := by decide +kernel
theorem dj42_149_73 : decode jdk_42_method_149_code 73 = .ok (.return_, 1) := by decide +kernel
theorem dobject_method_1_0 : decode object_method_1_code 0 = .ok (.return_, 1) := by decide +kernel
theorem dj38_2_0 : decode jdk_38_method_2_code 0 = .ok (.aload_n 0, 1) := by decide +kernel
theorem dj38_2_1 : decode jdk_38_method_2_code 1 = .ok (.invokespecial 1, 3) := by decide +kernel
theorem dj38_2_4 : decode jdk_38_method_2_code 4 = .ok (.aload_n 0, 1) := by decide +kernel
theorem dj38_2_5 : decode jdk_38_method_2_code 5 = .ok (.getstatic 39, 3) := by decide +kernel
theorem dj38_2_8 : decode jdk_38_method_2_code 8 = .ok (.putfield 9, 3) := by decide +kernel
theorem dj38_2_11 : decode jdk_38_method_2_code 11 = .ok (.return_, 1) := by decide +kernel
theorem dj39_1_0 : decode jdk_39_method_1_code 0 = .ok (.aload_n 0, 1) := by decide +kernel
theorem dj39_1_1 : decode jdk_39_method_1_code 1 = .ok (.invokespecial 1, 3) := by decide +kernel
theorem dj39_1_4 : decode jdk_39_method_1_code 4 = .ok (.aload_n 0, 1) := by decide +kernel
theorem dj39_1_5 : decode jdk_39_method_1_code 5 = .ok (.iconst 0, 1) := by decide +kernel
theorem dj39_1_6 : decode jdk_39_method_1_code 6 = .ok (.putfield 7, 3) := by decide +kernel
theorem dj39_1_9 : decode jdk_39_method_1_code 9 = .ok (.return_, 1) := by decide +kernel
theorem dj22_1_0 : decode jdk_22_method_1_code 0 = .ok (.aload_n 0, 1) := by decide +kernel
theorem dj22_1_1 : decode jdk_22_method_1_code 1 = .ok (.invokespecial 1, 3) := by decide +kernel
theorem dj22_1_4 : decode jdk_22_method_1_code 4 = .ok (.return_, 1) := by decide +kernel
theorem dp3_1_0 : decode prog_3_method_1_code 0 = .ok (.aload_n 0, 1) := by decide +kernel
theorem dp3_1_1 : decode prog_3_method_1_code 1 = .ok (.invokespecial 1, 3) := by decide +kernel
theorem dp3_1_4 : decode prog_3_method_1_code 4 = .ok (.aload_n 0, 1) := by decide +kernel
theorem dp3_1_5 : decode prog_3_method_1_code 5 = .ok (.aload_n 1, 1) := by decide +kernel
theorem dp3_1_6 : decode prog_3_method_1_code 6 = .ok (.putfield 7, 3) := by decide +kernel
theorem dp3_1_9 : decode prog_3_method_1_code 9 = .ok (.aload_n 0, 1) := by decide +kernel
theorem dp3_1_10 : decode prog_3_method_1_code 10 = .ok (.aload_n 2, 1) := by decide +kernel
theorem dp3_1_11 : decode prog_3_method_1_code 11 = .ok (.invokestatic 13, 3) := by decide +kernel
theorem dp3_1_14 : decode prog_3_method_1_code 14 = .ok (.putfield 19, 3) := by decide +kernel
theorem dp3_1_17 : decode prog_3_method_1_code 17 = .ok (.return_, 1) := by decide +kernel
theorem dj40_48_0 : decode jdk_40_method_48_code 0 = .ok (.aload_n 0, 1) := by decide +kernel
theorem dj40_48_1 : decode jdk_40_method_48_code 1 = .ok (.invokestatic 112, 3) := by decide +kernel
theorem dj40_48_4 : decode jdk_40_method_48_code 4 = .ok (.areturn, 1) := by decide +kernel
theorem dj56_3_0 : decode jdk_56_method_3_code 0 = .ok (.aload_n 0, 1) := by decide +kernel
theorem dj56_3_1 : decode jdk_56_method_3_code 1 = .ok (.instanceof 10, 3) := by decide +kernel
theorem dj56_3_4 : decode jdk_56_method_3_code 4 = .ok (.ifCond .ne 22, 3) := by decide +kernel
theorem dj56_3_7 : decode jdk_56_method_3_code 7 = .ok (.aload_n 0, 1) := by decide +kernel
theorem dj56_3_8 : decode jdk_56_method_3_code 8 = .ok (.instanceof 12, 3) := by decide +kernel
theorem dj56_3_11 : decode jdk_56_method_3_code 11 = .ok (.ifCond .eq 20, 3) := by decide +kernel
theorem dj56_3_14 : decode jdk_56_method_3_code 14 = .ok (.aload_n 0, 1) := by decide +kernel
theorem dj56_3_15 : decode jdk_56_method_3_code 15 = .ok (.checkcast 12, 3) := by decide +kernel
theorem dj56_3_18 : decode jdk_56_method_3_code 18 = .ok (.astore_n 1, 1) := by decide +kernel
theorem dj56_3_19 : decode jdk_56_method_3_code 19 = .ok (.aload_n 1, 1) := by decide +kernel
theorem dj56_3_20 : decode jdk_56_method_3_code 20 = .ok (.getfield 14, 3) := by decide +kernel
theorem dj56_3_23 : decode jdk_56_method_3_code 23 = .ok (.ifCond .ne 8, 3) := by decide +kernel
theorem dj56_3_26 : decode jdk_56_method_3_code 26 = .ok (.aload_n 0, 1) := by decide +kernel
theorem dj56_3_27 : decode jdk_56_method_3_code 27 = .ok (.checkcast 18, 3) := by decide +kernel
theorem dj56_3_30 : decode jdk_56_method_3_code 30 = .ok (.areturn, 1) := by decide +kernel
theorem dj56_3_31 : decode jdk_56_method_3_code 31 = .ok (.aload_n 0, 1) := by decide +kernel
theorem dj56_3_32 : decode jdk_56_method_3_code 32 = .ok (.invokeinterface 20 1, 5) := by decide +kernel
theorem dj56_3_37 : decode jdk_56_method_3_code 37 = .ok (.ifCond .eq 7, 3) := by decide +kernel
theorem dj56_3_40 : decode jdk_56_method_3_code 40 = .ok (.invokestatic 26, 3) := by decide +kernel
theorem dj56_3_43 : decode jdk_56_method_3_code 43 = .ok (.areturn, 1) := by decide +kernel
theorem dj56_3_44 : decode jdk_56_method_3_code 44 = .ok (.aload_n 0, 1) := by decide +kernel
theorem dj56_3_45 : decode jdk_56_method_3_code 45 = .ok (.invokeinterface 30 1, 5) := by decide +kernel
theorem dj56_3_50 : decode jdk_56_method_3_code 50 = .ok (.invokestatic 34, 3) := by decide +kernel
theorem dj56_3_53 : decode jdk_56_method_3_code 53 = .ok (.areturn, 1) := by decide +kernel
theorem dj38_9_0 : decode jdk_38_method_9_code 0 = .ok (.aload_n 0, 1) := by decide +kernel
theorem dj38_9_1 : decode jdk_38_method_9_code 1 = .ok (.getfield 48, 3) := by decide +kernel
theorem dj38_9_4 : decode jdk_38_method_9_code 4 = .ok (.ifCond .ne 7, 3) := by decide +kernel
theorem dj38_9_7 : decode jdk_38_method_9_code 7 = .ok (.iconst 1, 1) := by decide +kernel
theorem dj38_9_8 : decode jdk_38_method_9_code 8 = .ok (.goto 4, 3) := by decide +kernel
theorem dj38_9_11 : decode jdk_38_method_9_code 11 = .ok (.iconst 0, 1) := by decide +kernel
theorem dj38_9_12 : decode jdk_38_method_9_code 12 = .ok (.ireturn, 1) := by decide +kernel
theorem dj40_36_0 : decode jdk_40_method_36_code 0 = .ok (.getstatic 90, 3) := by decide +kernel
theorem dj40_36_3 : decode jdk_40_method_36_code 3 = .ok (.areturn, 1) := by decide +kernel
theorem dp3_6_0 : decode prog_3_method_6_code 0 = .ok (.new 36, 3) := by decide +kernel
theorem dp3_6_3 : decode prog_3_method_6_code 3 = .ok (.dup, 1) := by decide +kernel
theorem dp3_6_4 : decode prog_3_method_6_code 4 = .ok (.invokespecial 38, 3) := by decide +kernel
theorem dp3_6_7 : decode prog_3_method_6_code 7 = .ok (.aload_n 0, 1) := by decide +kernel
theorem dp3_6_8 : decode prog_3_method_6_code 8 = .ok (.getfield 19, 3) := by decide +kernel
theorem dp3_6_11 : decode prog_3_method_6_code 11 = .ok (.invokevirtual 39, 3) := by decide +kernel
theorem dp3_6_14 : decode prog_3_method_6_code 14 = .ok (.ldc 43, 2) := by decide +kernel
theorem dp3_6_16 : decode prog_3_method_6_code 16 = .ok (.invokevirtual 45, 3) := by decide +kernel
theorem dp3_6_19 : decode prog_3_method_6_code 19 = .ok (.aload_n 0, 1) := by decide +kernel
theorem dp3_6_20 : decode prog_3_method_6_code 20 = .ok (.getfield 7, 3) := by decide +kernel
theorem dp3_6_23 : decode prog_3_method_6_code 23 = .ok (.invokevirtual 45, 3) := by decide +kernel
theorem dp3_6_26 : decode prog_3_method_6_code 26 = .ok (.invokevirtual 48, 3) := by decide +kernel
theorem dp3_6_29 : decode prog_3_method_6_code 29 = .ok (.areturn, 1) := by decide +kernel
theorem dj67_1_0 : decode jdk_67_method_1_code 0 = .ok (.aload_n 0, 1) := by decide +kernel
theorem dj67_1_1 : decode jdk_67_method_1_code 1 = .ok (.bipush 16, 2) := by decide +kernel
theorem dj67_1_3 : decode jdk_67_method_1_code 3 = .ok (.invokespecial 1, 3) := by decide +kernel
theorem dj67_1_6 : decode jdk_67_method_1_code 6 = .ok (.return_, 1) := by decide +kernel
theorem dj68_2_0 : decode jdk_68_method_2_code 0 = .ok (.aload_n 0, 1) := by decide +kernel
theorem dj68_2_1 : decode jdk_68_method_2_code 1 = .ok (.invokespecial 3, 3) := by decide +kernel
theorem dj68_2_4 : decode jdk_68_method_2_code 4 = .ok (.getstatic 18, 3) := by decide +kernel
theorem dj68_2_7 : decode jdk_68_method_2_code 7 = .ok (.ifCond .eq 18, 3) := by decide +kernel
theorem dj68_2_10 : decode jdk_68_method_2_code 10 = .ok (.aload_n 0, 1) := by decide +kernel
theorem dj68_2_11 : decode jdk_68_method_2_code 11 = .ok (.iload_n 1, 1) := by decide +kernel
theorem dj68_2_12 : decode jdk_68_method_2_code 12 = .ok (.newarray .byte, 2) := by decide +kernel
theorem dj68_2_14 : decode jdk_68_method_2_code 14 = .ok (.putfield 15, 3) := by decide +kernel
theorem dj68_2_17 : decode jdk_68_method_2_code 17 = .ok (.aload_n 0, 1) := by decide +kernel
theorem dj68_2_18 : decode jdk_68_method_2_code 18 = .ok (.iconst 0, 1) := by decide +kernel
theorem dj68_2_19 : decode jdk_68_method_2_code 19 = .ok (.putfield 22, 3) := by decide +kernel
theorem dj68_2_22 : decode jdk_68_method_2_code 22 = .ok (.goto 16, 3) := by decide +kernel
theorem dj68_2_25 : decode jdk_68_method_2_code 25 = .ok (.aload_n 0, 1) := by decide +kernel
theorem dj68_2_26 : decode jdk_68_method_2_code 26 = .ok (.iload_n 1, 1) := by decide +kernel
theorem dj68_2_27 : decode jdk_68_method_2_code 27 = .ok (.invokestatic 26, 3) := by decide +kernel
theorem dj68_2_30 : decode jdk_68_method_2_code 30 = .ok (.putfield 15, 3) := by decide +kernel
theorem dj68_2_33 : decode jdk_68_method_2_code 33 = .ok (.aload_n 0, 1) := by decide +kernel
theorem dj68_2_34 : decode jdk_68_method_2_code 34 = .ok (.iconst 1, 1) := by decide +kernel
theorem dj68_2_35 : decode jdk_68_method_2_code 35 = .ok (.putfield 22, 3) := by decide +kernel
theorem dj68_2_38 : decode jdk_68_method_2_code 38 = .ok (.return_, 1) := by decide +kernel
theorem dj67_6_0 : decode jdk_67_method_6_code 0 = .ok (.aload_n 0, 1) := by decide +kernel
theorem dj67_6_1 : decode jdk_67_method_6_code 1 = .ok (.aload_n 1, 1) := by decide +kernel
theorem dj67_6_2 : decode jdk_67_method_6_code 2 = .ok (.invokestatic 17, 3) := by decide +kernel
theorem dj67_6_5 : decode jdk_67_method_6_code 5 = .ok (.invokevirtual 23, 3) := by decide +kernel
theorem dj67_6_8 : decode jdk_67_method_6_code 8 = .ok (.areturn, 1) := by decide +kernel
theorem dj42_133_0 : decode jdk_42_method_133_code 0 = .ok (.aload_n 0, 1) := by decide +kernel
theorem dj42_133_1 : decode jdk_42_method_133_code 1 = .ok (.ifnonnull 9, 3) := by decide +kernel
theorem dj42_133_4 : decode jdk_42_method_133_code 4 = .ok (.ldc_w 1005, 3) := by decide +kernel
theorem dj42_133_7 : decode jdk_42_method_133_code 7 = .ok (.goto 7, 3) := by decide +kernel
theorem dj42_133_10 : decode jdk_42_method_133_code 10 = .ok (.aload_n 0, 1) := by decide +kernel
theorem dj42_133_11 : decode jdk_42_method_133_code 11 = .ok (.invokevirtual 1007, 3) := by decide +kernel
theorem dj42_133_14 : decode jdk_42_method_133_code 14 = .ok (.areturn, 1) := by decide +kernel
theorem dj22_16_0 : decode jdk_22_method_16_code 0 = .ok (.aload_n 0, 1) := by decide +kernel
theorem dj22_16_1 : decode jdk_22_method_16_code 1 = .ok (.invokevirtual 13, 3) := by decide +kernel
theorem dj22_16_4 : decode jdk_22_method_16_code 4 = .ok (.astore_n 1, 1) := by decide +kernel
theorem dj22_16_5 : decode jdk_22_method_16_code 5 = .ok (.aload_n 1, 1) := by decide +kernel
theorem dj22_16_6 : decode jdk_22_method_16_code 6 = .ok (.invokeinterface 17 1, 5) := by decide +kernel
theorem dj22_16_11 : decode jdk_22_method_16_code 11 = .ok (.ifCond .ne 6, 3) := by decide +kernel
theorem dj22_16_14 : decode jdk_22_method_16_code 14 = .ok (.ldc 92, 2) := by decide +kernel
theorem dj22_16_16 : decode jdk_22_method_16_code 16 = .ok (.areturn, 1) := by decide +kernel
theorem dj22_16_17 : decode jdk_22_method_16_code 17 = .ok (.new 94, 3) := by decide +kernel
theorem dj22_16_20 : decode jdk_22_method_16_code 20 = .ok (.dup, 1) := by decide +kernel
theorem dj22_16_21 : decode jdk_22_method_16_code 21 = .ok (.invokespecial 96, 3) := by decide +kernel
theorem dj22_16_24 : decode jdk_22_method_16_code 24 = .ok (.astore_n 2, 1) := by decide +kernel
theorem dj22_16_25 : decode jdk_22_method_16_code 25 = .ok (.aload_n 2, 1) := by decide +kernel
theorem dj22_16_26 : decode jdk_22_method_16_code 26 = .ok (.bipush 91, 2) := by decide +kernel
theorem dj22_16_28 : decode jdk_22_method_16_code 28 = .ok (.invokevirtual 97, 3) := by decide +kernel
theorem dj22_16_31 : decode jdk_22_method_16_code 31 = .ok (.pop, 1) := by decide +kernel
theorem dj22_16_32 : decode jdk_22_method_16_code 32 = .ok (.aload_n 1, 1) := by decide +kernel
theorem dj22_16_33 : decode jdk_22_method_16_code 33 = .ok (.invokeinterface 23 1, 5) := by decide +kernel
theorem dj22_16_38 : decode jdk_22_method_16_code 38 = .ok (.astore_n 3, 1) := by decide +kernel
theorem dj22_16_39 : decode jdk_22_method_16_code 39 = .ok (.aload_n 2, 1) := by decide +kernel
theorem dj22_16_40 : decode jdk_22_method_16_code 40 = .ok (.aload_n 3, 1) := by decide +kernel
theorem dj22_16_41 : decode jdk_22_method_16_code 41 = .ok (.aload_n 0, 1) := by decide +kernel
theorem dj22_16_42 : decode jdk_22_method_16_code 42 = .ok (.if_acmp .ne 8, 3) := by decide +kernel
theorem dj22_16_45 : decode jdk_22_method_16_code 45 = .ok (.ldc 101, 2) := by decide +kernel
theorem dj22_16_47 : decode jdk_22_method_16_code 47 = .ok (.goto 4, 3) := by decide +kernel
theorem dj22_16_50 : decode jdk_22_method_16_code 50 = .ok (.aload_n 3, 1) := by decide +kernel
theorem dj22_16_51 : decode jdk_22_method_16_code 51 = .ok (.invokevirtual 103, 3) := by decide +kernel
theorem dj22_16_54 : decode jdk_22_method_16_code 54 = .ok (.pop, 1) := by decide +kernel
theorem dj22_16_55 : decode jdk_22_method_16_code 55 = .ok (.aload_n 1, 1) := by decide +kernel
theorem dj22_16_56 : decode jdk_22_method_16_code 56 = .ok (.invokeinterface 17 1, 5) := by decide +kernel
theorem dj22_16_61 : decode jdk_22_method_16_code 61 = .ok (.ifCond .ne 13, 3) := by decide +kernel
theorem dj22_16_64 : decode jdk_22_method_16_code 64 = .ok (.aload_n 2, 1) := by decide +kernel
theorem dj22_16_65 : decode jdk_22_method_16_code 65 = .ok (.bipush 93, 2) := by decide +kernel
theorem dj22_16_67 : decode jdk_22_method_16_code 67 = .ok (.invokevirtual 97, 3) := by decide +kernel
theorem dj22_16_70 : decode jdk_22_method_16_code 70 = .ok (.invokevirtual 106, 3) := by decide +kernel
theorem dj22_16_73 : decode jdk_22_method_16_code 73 = .ok (.areturn, 1) := by decide +kernel
theorem dj22_16_74 : decode jdk_22_method_16_code 74 = .ok (.aload_n 2, 1) := by decide +kernel
theorem dj22_16_75 : decode jdk_22_method_16_code 75 = .ok (.bipush 44, 2) := by decide +kernel
theorem dj22_16_77 : decode jdk_22_method_16_code 77 = .ok (.invokevirtual 97, 3) := by decide +kernel
theorem dj22_16_80 : decode jdk_22_method_16_code 80 = .ok (.bipush 32, 2) := by decide +kernel
theorem dj22_16_82 : decode jdk_22_method_16_code 82 = .ok (.invokevirtual 97, 3) := by decide +kernel
theorem dj22_16_85 : decode jdk_22_method_16_code 85 = .ok (.pop, 1) := by decide +kernel
theorem dj22_16_86 : decode jdk_22_method_16_code 86 = .ok (.goto (-54), 3) := by decide +kernel
theorem dj46_10_0 : decode jdk_46_method_10_code 0 = .ok (.new 61, 3) := by decide +kernel
theorem dj46_10_3 : decode jdk_46_method_10_code 3 = .ok (.dup, 1) := by decide +kernel
theorem dj46_10_4 : decode jdk_46_method_10_code 4 = .ok (.aload_n 0, 1) := by decide +kernel
theorem dj46_10_5 : decode jdk_46_method_10_code 5 = .ok (.aload_n 0, 1) := by decide +kernel
theorem dj46_10_6 : decode jdk_46_method_10_code 6 = .ok (.invokevirtual 13, 3) := by decide +kernel
theorem dj46_10_9 : decode jdk_46_method_10_code 9 = .ok (.invokespecial 63, 3) := by decide +kernel
theorem dj46_10_12 : decode jdk_46_method_10_code 12 = .ok (.areturn, 1) := by decide +kernel
theorem dj45_3_0 : decode jdk_45_method_3_code 0 = .ok (.aload_n 0, 1) := by decide +kernel
theorem dj45_3_1 : decode jdk_45_method_3_code 1 = .ok (.getfield 7, 3) := by decide +kernel
theorem dj45_3_4 : decode jdk_45_method_3_code 4 = .ok (.arraylength, 1) := by decide +kernel
theorem dj45_3_5 : decode jdk_45_method_3_code 5 = .ok (.ireturn, 1) := by decide +kernel
theorem dj53_1_0 : decode jdk_53_method_1_code 0 = .ok (.aload_n 0, 1) := by decide +kernel
theorem dj53_1_1 : decode jdk_53_method_1_code 1 = .ok (.invokespecial 1, 3) := by decide +kernel
theorem dj53_1_4 : decode jdk_53_method_1_code 4 = .ok (.aload_n 0, 1) := by decide +kernel
theorem dj53_1_5 : decode jdk_53_method_1_code 5 = .ok (.aload_n 1, 1) := by decide +kernel
theorem dj53_1_6 : decode jdk_53_method_1_code 6 = .ok (.putfield 7, 3) := by decide +kernel
theorem dj53_1_9 : decode jdk_53_method_1_code 9 = .ok (.aload_n 0, 1) := by decide +kernel
theorem dj53_1_10 : decode jdk_53_method_1_code 10 = .ok (.iload_n 2, 1) := by decide +kernel
theorem dj53_1_11 : decode jdk_53_method_1_code 11 = .ok (.putfield 13, 3) := by decide +kernel
theorem dj53_1_14 : decode jdk_53_method_1_code 14 = .ok (.aload_n 0, 1) := by decide +kernel
theorem dj53_1_15 : decode jdk_53_method_1_code 15 = .ok (.iconst 0, 1) := by decide +kernel
theorem dj53_1_16 : decode jdk_53_method_1_code 16 = .ok (.putfield 17, 3) := by decide +kernel
theorem dj53_1_19 : decode jdk_53_method_1_code 19 = .ok (.aload_n 0, 1) := by decide +kernel
theorem dj53_1_20 : decode jdk_53_method_1_code 20 = .ok (.iconst 0, 1) := by decide +kernel
theorem dj53_1_21 : decode jdk_53_method_1_code 21 = .ok (.putfield 20, 3) := by decide +kernel
theorem dj53_1_24 : decode jdk_53_method_1_code 24 = .ok (.return_, 1) := by decide +kernel
theorem dj53_3_0 : decode jdk_53_method_3_code 0 = .ok (.aload_n 0, 1) := by decide +kernel
theorem dj53_3_1 : decode jdk_53_method_3_code 1 = .ok (.getfield 17, 3) := by decide +kernel
theorem dj53_3_4 : decode jdk_53_method_3_code 4 = .ok (.aload_n 0, 1) := by decide +kernel
theorem dj53_3_5 : decode jdk_53_method_3_code 5 = .ok (.getfield 13, 3) := by decide +kernel
theorem dj53_3_8 : decode jdk_53_method_3_code 8 = .ok (.if_icmp .eq 7, 3) := by decide +kernel
theorem dj53_3_11 : decode jdk_53_method_3_code 11 = .ok (.iconst 1, 1) := by decide +kernel
theorem dj53_3_12 : decode jdk_53_method_3_code 12 = .ok (.goto 4, 3) := by decide +kernel
theorem dj53_3_15 : decode jdk_53_method_3_code 15 = .ok (.iconst 0, 1) := by decide +kernel
theorem dj53_3_16 : decode jdk_53_method_3_code 16 = .ok (.ireturn, 1) := by decide +kernel
theorem dj67_7_0 : decode jdk_67_method_7_code 0 = .ok (.aload_n 0, 1) := by decide +kernel
theorem dj67_7_1 : decode jdk_67_method_7_code 1 = .ok (.aload_n 1, 1) := by decide +kernel
theorem dj67_7_2 : decode jdk_67_method_7_code 2 = .ok (.invokespecial 29, 3) := by decide +kernel
theorem dj67_7_5 : decode jdk_67_method_7_code 5 = .ok (.pop, 1) := by decide +kernel
theorem dj67_7_6 : decode jdk_67_method_7_code 6 = .ok (.aload_n 0, 1) := by decide +kernel
theorem dj67_7_7 : decode jdk_67_method_7_code 7 = .ok (.areturn, 1) := by decide +kernel
theorem dj68_22_0 : decode jdk_68_method_22_code 0 = .ok (.aload_n 1, 1) := by decide +kernel
theorem dj68_22_1 : decode jdk_68_method_22_code 1 = .ok (.ifnonnull 8, 3) := by decide +kernel
theorem dj68_22_4 : decode jdk_68_method_22_code 4 = .ok (.aload_n 0, 1) := by decide +kernel
theorem dj68_22_5 : decode jdk_68_method_22_code 5 = .ok (.invokevirtual 204, 3) := by decide +kernel
theorem dj68_22_8 : decode jdk_68_method_22_code 8 = .ok (.areturn, 1) := by decide +kernel
theorem dj68_22_9 : decode jdk_68_method_22_code 9 = .ok (.aload_n 1, 1) := by decide +kernel
theorem dj68_22_10 : decode jdk_68_method_22_code 10 = .ok (.invokevirtual 32, 3) := by decide +kernel
theorem dj68_22_13 : decode jdk_68_method_22_code 13 = .ok (.istore_n 2, 1) := by decide +kernel
theorem dj68_22_14 : decode jdk_68_method_22_code 14 = .ok (.aload_n 0, 1) := by decide +kernel
theorem dj68_22_15 : decode jdk_68_method_22_code 15 = .ok (.aload_n 0, 1) := by decide +kernel
theorem dj68_22_16 : decode jdk_68_method_22_code 16 = .ok (.getfield 79, 3) := by decide +kernel
theorem dj68_22_19 : decode jdk_68_method_22_code 19 = .ok (.iload_n 2, 1) := by decide +kernel
theorem dj68_22_20 : decode jdk_68_method_22_code 20 = .ok (.iadd, 1) := by decide +kernel
theorem dj68_22_21 : decode jdk_68_method_22_code 21 = .ok (.invokevirtual 100, 3) := by decide +kernel
theorem dj68_22_24 : decode jdk_68_method_22_code 24 = .ok (.aload_n 0, 1) := by decide +kernel
theorem dj68_22_25 : decode jdk_68_method_22_code 25 = .ok (.aload_n 0, 1) := by decide +kernel
theorem dj68_22_26 : decode jdk_68_method_22_code 26 = .ok (.getfield 79, 3) := by decide +kernel
theorem dj68_22_29 : decode jdk_68_method_22_code 29 = .ok (.aload_n 1, 1) := by decide +kernel
theorem dj68_22_30 : decode jdk_68_method_22_code 30 = .ok (.invokevirtual 208, 3) := by decide +kernel
theorem dj68_22_33 : decode jdk_68_method_22_code 33 = .ok (.aload_n 0, 1) := by decide +kernel
theorem dj68_22_34 : decode jdk_68_method_22_code 34 = .ok (.dup, 1) := by decide +kernel
theorem dj68_22_35 : decode jdk_68_method_22_code 35 = .ok (.getfield 79, 3) := by decide +kernel
theorem dj68_22_38 : decode jdk_68_method_22_code 38 = .ok (.iload_n 2, 1) := by decide +kernel
theorem dj68_22_39 : decode jdk_68_method_22_code 39 = .ok (.iadd, 1) := by decide +kernel
theorem dj68_22_40 : decode jdk_68_method_22_code 40 = .ok (.putfield 79, 3) := by decide +kernel
theorem dj68_22_43 : decode jdk_68_method_22_code 43 = .ok (.aload_n 0, 1) := by decide +kernel
theorem dj68_22_44 : decode jdk_68_method_22_code 44 = .ok (.areturn, 1) := by decide +kernel
theorem dj42_54_0 : decode jdk_42_method_54_code 0 = .ok (.aload_n 0, 1) := by decide +kernel
theorem dj42_54_1 : decode jdk_42_method_54_code 1 = .ok (.getfield 9, 3) := by decide +kernel
theorem dj42_54_4 : decode jdk_42_method_54_code 4 = .ok (.arraylength, 1) := by decide +kernel
theorem dj42_54_5 : decode jdk_42_method_54_code 5 = .ok (.aload_n 0, 1) := by decide +kernel
theorem dj42_54_6 : decode jdk_42_method_54_code 6 = .ok (.invokevirtual 335, 3) := by decide +kernel
theorem dj42_54_9 : decode jdk_42_method_54_code 9 = .ok (.ishr, 1) := by decide +kernel
theorem dj42_54_10 : decode jdk_42_method_54_code 10 = .ok (.ireturn, 1) := by decide +kernel
theorem dj42_152_0 : decode jdk_42_method_152_code 0 = .ok (.getstatic 38, 3) := by decide +kernel
theorem dj42_152_3 : decode jdk_42_method_152_code 3 = .ok (.ifCond .eq 10, 3) := by decide +kernel
theorem dj42_152_6 : decode jdk_42_method_152_code 6 = .ok (.aload_n 0, 1) := by decide +kernel
theorem dj42_152_7 : decode jdk_42_method_152_code 7 = .ok (.getfield 15, 3) := by decide +kernel
theorem dj42_152_10 : decode jdk_42_method_152_code 10 = .ok (.goto 4, 3) := by decide +kernel
theorem dj42_152_13 : decode jdk_42_method_152_code 13 = .ok (.iconst 1, 1) := by decide +kernel
theorem dj42_152_14 : decode jdk_42_method_152_code 14 = .ok (.ireturn, 1) := by decide +kernel
theorem dj68_9_0 : decode jdk_68_method_9_code 0 = .ok (.aload_n 0, 1) := by decide +kernel
theorem dj68_9_1 : decode jdk_68_method_9_code 1 = .ok (.getfield 15, 3) := by decide +kernel
theorem dj68_9_4 : decode jdk_68_method_9_code 4 = .ok (.arraylength, 1) := by decide +kernel
theorem dj68_9_5 : decode jdk_68_method_9_code 5 = .ok (.aload_n 0, 1) := by decide +kernel
theorem dj68_9_6 : decode jdk_68_method_9_code 6 = .ok (.getfield 22, 3) := by decide +kernel
theorem dj68_9_9 : decode jdk_68_method_9_code 9 = .ok (.ishr, 1) := by decide +kernel
theorem dj68_9_10 : decode jdk_68_method_9_code 10 = .ok (.istore_n 2, 1) := by decide +kernel
theorem dj68_9_11 : decode jdk_68_method_9_code 11 = .ok (.iload_n 1, 1) := by decide +kernel
theorem dj68_9_12 : decode jdk_68_method_9_code 12 = .ok (.iload_n 2, 1) := by decide +kernel
theorem dj68_9_13 : decode jdk_68_method_9_code 13 = .ok (.isub, 1) := by decide +kernel
theorem dj68_9_14 : decode jdk_68_method_9_code 14 = .ok (.ifCond .le 24, 3) := by decide +kernel
theorem dj68_9_17 : decode jdk_68_method_9_code 17 = .ok (.aload_n 0, 1) := by decide +kernel
theorem dj68_9_18 : decode jdk_68_method_9_code 18 = .ok (.aload_n 0, 1) := by decide +kernel
theorem dj68_9_19 : decode jdk_68_method_9_code 19 = .ok (.getfield 15, 3) := by decide +kernel
theorem dj68_9_22 : decode jdk_68_method_9_code 22 = .ok (.aload_n 0, 1) := by decide +kernel
theorem dj68_9_23 : decode jdk_68_method_9_code 23 = .ok (.iload_n 1, 1) := by decide +kernel
theorem dj68_9_24 : decode jdk_68_method_9_code 24 = .ok (.invokevirtual 104, 3) := by decide +kernel
theorem dj68_9_27 : decode jdk_68_method_9_code 27 = .ok (.aload_n 0, 1) := by decide +kernel
theorem dj68_9_28 : decode jdk_68_method_9_code 28 = .ok (.getfield 22, 3) := by decide +kernel
theorem dj68_9_31 : decode jdk_68_method_9_code 31 = .ok (.ishl, 1) := by decide +kernel
theorem dj68_9_32 : decode jdk_68_method_9_code 32 = .ok (.invokestatic 108, 3) := by decide +kernel
theorem dj68_9_35 : decode jdk_68_method_9_code 35 = .ok (.putfield 15, 3) := by decide +kernel
theorem dj68_9_38 : decode jdk_68_method_9_code 38 = .ok (.return_, 1) := by decide +kernel
theorem dj68_73_0 : decode jdk_68_method_73_code 0 = .ok (.aload_n 0, 1) := by decide +kernel
theorem dj68_73_1 : decode jdk_68_method_73_code 1 = .ok (.aload_n 2, 1) := by decide +kernel
theorem dj68_73_2 : decode jdk_68_method_73_code 2 = .ok (.invokevirtual 397, 3) := by decide +kernel
theorem dj68_73_5 : decode jdk_68_method_73_code 5 = .ok (.aload_n 2, 1) := by decide +kernel
theorem dj68_73_6 : decode jdk_68_method_73_code 6 = .ok (.aload_n 0, 1) := by decide +kernel
theorem dj68_73_7 : decode jdk_68_method_73_code 7 = .ok (.getfield 15, 3) := by decide +kernel
theorem dj68_73_10 : decode jdk_68_method_73_code 10 = .ok (.iload_n 1, 1) := by decide +kernel
theorem dj68_73_11 : decode jdk_68_method_73_code 11 = .ok (.aload_n 0, 1) := by decide +kernel
theorem dj68_73_12 : decode jdk_68_method_73_code 12 = .ok (.getfield 22, 3) := by decide +kernel
theorem dj68_73_15 : decode jdk_68_method_73_code 15 = .ok (.invokevirtual 399, 3) := by decide +kernel
theorem dj68_73_18 : decode jdk_68_method_73_code 18 = .ok (.return_, 1) := by decide +kernel
theorem dj68_71_0 : decode jdk_68_method_71_code 0 = .ok (.getstatic 18, 3) := by decide +kernel
theorem dj68_71_3 : decode jdk_68_method_71_code 3 = .ok (.ifCond .eq 18, 3) := by decide +kernel
theorem dj68_71_6 : decode jdk_68_method_71_code 6 = .ok (.aload_n 0, 1) := by decide +kernel
theorem dj68_71_7 : decode jdk_68_method_71_code 7 = .ok (.getfield 22, 3) := by decide +kernel
theorem dj68_71_10 : decode jdk_68_method_71_code 10 = .ok (.aload_n 1, 1) := by decide +kernel
theorem dj68_71_11 : decode jdk_68_method_71_code 11 = .ok (.invokevirtual 40, 3) := by decide +kernel
theorem dj68_71_14 : decode jdk_68_method_71_code 14 = .ok (.if_icmp .eq 7, 3) := by decide +kernel
theorem dj68_71_17 : decode jdk_68_method_71_code 17 = .ok (.aload_n 0, 1) := by decide +kernel
theorem dj68_71_18 : decode jdk_68_method_71_code 18 = .ok (.invokevirtual 195, 3) := by decide +kernel
theorem dj68_71_21 : decode jdk_68_method_71_code 21 = .ok (.return_, 1) := by decide +kernel
theorem dj42_147_0 : decode jdk_42_method_147_code 0 = .ok (.aload_n 0, 1) := by decide +kernel
theorem dj42_147_1 : decode jdk_42_method_147_code 1 = .ok (.invokevirtual 335, 3) := by decide +kernel
theorem dj42_147_4 : decode jdk_42_method_147_code 4 = .ok (.iload_n 3, 1) := by decide +kernel
theorem dj42_147_5 : decode jdk_42_method_147_code 5 = .ok (.if_icmp .ne 23, 3) := by decide +kernel
theorem dj42_147_8 : decode jdk_42_method_147_code 8 = .ok (.aload_n 0, 1) := by decide +kernel
theorem dj42_147_9 : decode jdk_42_method_147_code 9 = .ok (.getfield 9, 3) := by decide +kernel
theorem dj42_147_12 : decode jdk_42_method_147_code 12 = .ok (.iconst 0, 1) := by decide +kernel
theorem dj42_147_13 : decode jdk_42_method_147_code 13 = .ok (.aload_n 1, 1) := by decide +kernel
theorem dj42_147_14 : decode jdk_42_method_147_code 14 = .ok (.iload_n 2, 1) := by decide +kernel
theorem dj42_147_15 : decode jdk_42_method_147_code 15 = .ok (.iload_n 3, 1) := by decide +kernel
theorem dj42_147_16 : decode jdk_42_method_147_code 16 = .ok (.ishl, 1) := by decide +kernel
theorem dj42_147_17 : decode jdk_42_method_147_code 17 = .ok (.aload_n 0, 1) := by decide +kernel
theorem dj42_147_18 : decode jdk_42_method_147_code 18 = .ok (.getfield 9, 3) := by decide +kernel
theorem dj42_147_21 : decode jdk_42_method_147_code 21 = .ok (.arraylength, 1) := by decide +kernel
theorem dj42_147_22 : decode jdk_42_method_147_code 22 = .ok (.invokestatic 212, 3) := by decide +kernel
theorem dj42_147_25 : decode jdk_42_method_147_code 25 = .ok (.goto 18, 3) := by decide +kernel
theorem dj42_147_28 : decode jdk_42_method_147_code 28 = .ok (.aload_n 0, 1) := by decide +kernel
theorem dj42_147_29 : decode jdk_42_method_147_code 29 = .ok (.getfield 9, 3) := by decide +kernel
theorem dj42_147_32 : decode jdk_42_method_147_code 32 = .ok (.iconst 0, 1) := by decide +kernel
theorem dj42_147_33 : decode jdk_42_method_147_code 33 = .ok (.aload_n 1, 1) := by decide +kernel
theorem dj42_147_34 : decode jdk_42_method_147_code 34 = .ok (.iload_n 2, 1) := by decide +kernel
theorem dj42_147_35 : decode jdk_42_method_147_code 35 = .ok (.aload_n 0, 1) := by decide +kernel
theorem dj42_147_36 : decode jdk_42_method_147_code 36 = .ok (.getfield 9, 3) := by decide +kernel
theorem dj42_147_39 : decode jdk_42_method_147_code 39 = .ok (.arraylength, 1) := by decide +kernel
theorem dj42_147_40 : decode jdk_42_method_147_code 40 = .ok (.invokestatic 106, 3) := by decide +kernel
theorem dj42_147_43 : decode jdk_42_method_147_code 43 = .ok (.return_, 1) := by decide +kernel
theorem dj67_42_0 : decode jdk_67_method_42_code 0 = .ok (.new 18, 3) := by decide +kernel
theorem dj67_42_3 : decode jdk_67_method_42_code 3 = .ok (.dup, 1) := by decide +kernel
theorem dj67_42_4 : decode jdk_67_method_42_code 4 = .ok (.aload_n 0, 1) := by decide +kernel
theorem dj67_42_5 : decode jdk_67_method_42_code 5 = .ok (.invokespecial 137, 3) := by decide +kernel
theorem dj67_42_8 : decode jdk_67_method_42_code 8 = .ok (.areturn, 1) := by decide +kernel
theorem dj42_53_0 : decode jdk_42_method_53_code 0 = .ok (.aload_n 0, 1) := by decide +kernel
theorem dj42_53_1 : decode jdk_42_method_53_code 1 = .ok (.aload_n 1, 1) := by decide +kernel
theorem dj42_53_2 : decode jdk_42_method_53_code 2 = .ok (.aconst_null, 1) := by decide +kernel
theorem dj42_53_3 : decode jdk_42_method_53_code 3 = .ok (.invokespecial 489, 3) := by decide +kernel
theorem dj42_53_6 : decode jdk_42_method_53_code 6 = .ok (.return_, 1) := by decide +kernel
theorem dj42_150_0 : decode jdk_42_method_150_code 0 = .ok (.aload_n 0, 1) := by decide +kernel
theorem dj42_150_1 : decode jdk_42_method_150_code 1 = .ok (.invokespecial 1, 3) := by decide +kernel
theorem dj42_150_4 : decode jdk_42_method_150_code 4 = .ok (.aload_n 1, 1) := by decide +kernel
theorem dj42_150_5 : decode jdk_42_method_150_code 5 = .ok (.invokevirtual 552, 3) := by decide +kernel
theorem dj42_150_8 : decode jdk_42_method_150_code 8 = .ok (.astore_n 3, 1) := by decide +kernel
theorem dj42_150_9 : decode jdk_42_method_150_code 9 = .ok (.aload_n 1, 1) := by decide +kernel
theorem dj42_150_10 : decode jdk_42_method_150_code 10 = .ok (.invokevirtual 549, 3) := by decide +kernel
theorem dj42_150_13 : decode jdk_42_method_150_code 13 = .ok (.istore 4, 2) := by decide +kernel
theorem dj42_150_15 : decode jdk_42_method_150_code 15 = .ok (.aload_n 1, 1) := by decide +kernel
theorem dj42_150_16 : decode jdk_42_method_150_code 16 = .ok (.invokevirtual 1047, 3) := by decide +kernel
theorem dj42_150_19 : decode jdk_42_method_150_code 19 = .ok (.ifCond .eq 22, 3) := by decide +kernel
theorem dj42_150_22 : decode jdk_42_method_150_code 22 = .ok (.aload_n 0, 1) := by decide +kernel
theorem dj42_150_23 : decode jdk_42_method_150_code 23 = .ok (.iconst 0, 1) := by decide +kernel
theorem dj42_150_24 : decode jdk_42_method_150_code 24 = .ok (.putfield 15, 3) := by decide +kernel
theorem dj42_150_27 : decode jdk_42_method_150_code 27 = .ok (.aload_n 0, 1) := by decide +kernel
theorem dj42_150_28 : decode jdk_42_method_150_code 28 = .ok (.aload_n 3, 1) := by decide +kernel
theorem dj42_150_29 : decode jdk_42_method_150_code 29 = .ok (.iconst 0, 1) := by decide +kernel
theorem dj42_150_30 : decode jdk_42_method_150_code 30 = .ok (.iload 4, 2) := by decide +kernel
theorem dj42_150_32 : decode jdk_42_method_150_code 32 = .ok (.invokestatic 54, 3) := by decide +kernel
theorem dj42_150_35 : decode jdk_42_method_150_code 35 = .ok (.putfield 9, 3) := by decide +kernel
theorem dj42_150_38 : decode jdk_42_method_150_code 38 = .ok (.goto 59, 3) := by decide +kernel
theorem dj42_150_41 : decode jdk_42_method_150_code 41 = .ok (.getstatic 38, 3) := by decide +kernel
theorem dj42_150_44 : decode jdk_42_method_150_code 44 = .ok (.ifCond .eq 35, 3) := by decide +kernel
theorem dj42_150_47 : decode jdk_42_method_150_code 47 = .ok (.aload_n 1, 1) := by decide +kernel
theorem dj42_150_48 : decode jdk_42_method_150_code 48 = .ok (.getfield 1048, 3) := by decide +kernel
theorem dj42_150_51 : decode jdk_42_method_150_code 51 = .ok (.ifCond .eq 28, 3) := by decide +kernel
theorem dj42_150_54 : decode jdk_42_method_150_code 54 = .ok (.aload_n 0, 1) := by decide +kernel
theorem dj42_150_55 : decode jdk_42_method_150_code 55 = .ok (.aload_n 3, 1) := by decide +kernel
theorem dj42_150_56 : decode jdk_42_method_150_code 56 = .ok (.iconst 0, 1) := by decide +kernel
theorem dj42_150_57 : decode jdk_42_method_150_code 57 = .ok (.iload 4, 2) := by decide +kernel
theorem dj42_150_59 : decode jdk_42_method_150_code 59 = .ok (.invokestatic 1051, 3) := by decide +kernel
theorem dj42_150_62 : decode jdk_42_method_150_code 62 = .ok (.putfield 9, 3) := by decide +kernel
theorem dj42_150_65 : decode jdk_42_method_150_code 65 = .ok (.aload_n 0, 1) := by decide +kernel
theorem dj42_150_66 : decode jdk_42_method_150_code 66 = .ok (.aload_n 0, 1) := by decide +kernel
theorem dj42_150_67 : decode jdk_42_method_150_code 67 = .ok (.getfield 9, 3) := by decide +kernel
theorem dj42_150_70 : decode jdk_42_method_150_code 70 = .ok (.iload 4, 2) := by decide +kernel
theorem dj42_150_72 : decode jdk_42_method_150_code 72 = .ok (.invokestatic 47, 3) := by decide +kernel
theorem dj42_150_75 : decode jdk_42_method_150_code 75 = .ok (.putfield 15, 3) := by decide +kernel
theorem dj42_150_78 : decode jdk_42_method_150_code 78 = .ok (.return_, 1) := by decide +kernel
theorem dj42_150_79 : decode jdk_42_method_150_code 79 = .ok (.aload_n 0, 1) := by decide +kernel
theorem dj42_150_80 : decode jdk_42_method_150_code 80 = .ok (.iconst 1, 1) := by decide +kernel
theorem dj42_150_81 : decode jdk_42_method_150_code 81 = .ok (.putfield 15, 3) := by decide +kernel
theorem dj42_150_84 : decode jdk_42_method_150_code 84 = .ok (.aload_n 0, 1) := by decide +kernel
theorem dj42_150_85 : decode jdk_42_method_150_code 85 = .ok (.aload_n 3, 1) := by decide +kernel
theorem dj42_150_86 : decode jdk_42_method_150_code 86 = .ok (.iconst 0, 1) := by decide +kernel
theorem dj42_150_87 : decode jdk_42_method_150_code 87 = .ok (.iload 4, 2) := by decide +kernel
theorem dj42_150_89 : decode jdk_42_method_150_code 89 = .ok (.iconst 1, 1) := by decide +kernel
theorem dj42_150_90 : decode jdk_42_method_150_code 90 = .ok (.ishl, 1) := by decide +kernel
theorem dj42_150_91 : decode jdk_42_method_150_code 91 = .ok (.invokestatic 54, 3) := by decide +kernel
theorem dj42_150_94 : decode jdk_42_method_150_code 94 = .ok (.putfield 9, 3) := by decide +kernel
theorem dj42_150_97 : decode jdk_42_method_150_code 97 = .ok (.return_, 1) := by decide +kernel
theorem dj68_64_0 : decode jdk_68_method_64_code 0 = .ok (.aload_n 0, 1) := by decide +kernel
theorem dj68_64_1 : decode jdk_68_method_64_code 1 = .ok (.getfield 15, 3) := by decide +kernel
theorem dj68_64_4 : decode jdk_68_method_64_code 4 = .ok (.areturn, 1) := by decide +kernel
theorem dj67_93_0 : decode jdk_67_method_93_code 0 = .ok (.aload_n 0, 1) := by decide +kernel
theorem dj67_93_1 : decode jdk_67_method_93_code 1 = .ok (.invokespecial 343, 3) := by decide +kernel
theorem dj67_93_4 : decode jdk_67_method_93_code 4 = .ok (.ireturn, 1) := by decide +kernel
theorem dj68_6_0 : decode jdk_68_method_6_code 0 = .ok (.aload_n 0, 1) := by decide +kernel
theorem dj68_6_1 : decode jdk_68_method_6_code 1 = .ok (.getfield 79, 3) := by decide +kernel
theorem dj68_6_4 : decode jdk_68_method_6_code 4 = .ok (.ireturn, 1) := by decide +kernel
theorem dj68_68_0 : decode jdk_68_method_68_code 0 = .ok (.getstatic 18, 3) := by decide +kernel
theorem dj68_68_3 : decode jdk_68_method_68_code 3 = .ok (.ifCond .eq 14, 3) := by decide +kernel
theorem dj68_68_6 : decode jdk_68_method_68_code 6 = .ok (.aload_n 0, 1) := by decide +kernel
theorem dj68_68_7 : decode jdk_68_method_68_code 7 = .ok (.getfield 22, 3) := by decide +kernel
theorem dj68_68_10 : decode jdk_68_method_68_code 10 = .ok (.ifCond .ne 7, 3) := by decide +kernel
theorem dj68_68_13 : decode jdk_68_method_68_code 13 = .ok (.iconst 1, 1) := by decide +kernel
theorem dj68_68_14 : decode jdk_68_method_68_code 14 = .ok (.goto 4, 3) := by decide +kernel
theorem dj68_68_17 : decode jdk_68_method_68_code 17 = .ok (.iconst 0, 1) := by decide +kernel
theorem dj68_68_18 : decode jdk_68_method_68_code 18 = .ok (.ireturn, 1) := by decide +kernel
theorem dj65_132_0 : decode jdk_65_method_132_code 0 = .ok (.iload_n 1, 1) := by decide +kernel
theorem dj65_132_1 : decode jdk_65_method_132_code 1 = .ok (.ifCond .ne 9, 3) := by decide +kernel
theorem dj65_132_4 : decode jdk_65_method_132_code 4 = .ok (.iload_n 2, 1) := by decide +kernel
theorem dj65_132_5 : decode jdk_65_method_132_code 5 = .ok (.aload_n 0, 1) := by decide +kernel
theorem dj65_132_6 : decode jdk_65_method_132_code 6 = .ok (.arraylength, 1) := by decide +kernel
theorem dj65_132_7 : decode jdk_65_method_132_code 7 = .ok (.if_icmp .eq 10, 3) := by decide +kernel
theorem dj65_132_10 : decode jdk_65_method_132_code 10 = .ok (.aload_n 0, 1) := by decide +kernel
theorem dj65_132_11 : decode jdk_65_method_132_code 11 = .ok (.iload_n 1, 1) := by decide +kernel
theorem dj65_132_12 : decode jdk_65_method_132_code 12 = .ok (.iload_n 2, 1) := by decide +kernel
theorem dj65_132_13 : decode jdk_65_method_132_code 13 = .ok (.invokestatic 339, 3) := by decide +kernel
theorem dj65_132_16 : decode jdk_65_method_132_code 16 = .ok (.areturn, 1) := by decide +kernel
theorem dj65_132_17 : decode jdk_65_method_132_code 17 = .ok (.aload_n 0, 1) := by decide +kernel
theorem dj65_132_18 : decode jdk_65_method_132_code 18 = .ok (.invokevirtual 310, 3) := by decide +kernel
theorem dj65_132_21 : decode jdk_65_method_132_code 21 = .ok (.checkcast 311, 3) := by decide +kernel
theorem dj65_132_24 : decode jdk_65_method_132_code 24 = .ok (.areturn, 1) := by decide +kernel
theorem dj65_133_0 : decode jdk_65_method_133_code 0 = .ok (.iload_n 1, 1) := by decide +kernel
theorem dj65_133_1 : decode jdk_65_method_133_code 1 = .ok (.iload_n 2, 1) := by decide +kernel
theorem dj65_133_2 : decode jdk_65_method_133_code 2 = .ok (.invokestatic 343, 3) := by decide +kernel
theorem dj65_133_5 : decode jdk_65_method_133_code 5 = .ok (.iload_n 2, 1) := by decide +kernel
theorem dj65_133_6 : decode jdk_65_method_133_code 6 = .ok (.iload_n 1, 1) := by decide +kernel
theorem dj65_133_7 : decode jdk_65_method_133_code 7 = .ok (.isub, 1) := by decide +kernel
theorem dj65_133_8 : decode jdk_65_method_133_code 8 = .ok (.istore_n 3, 1) := by decide +kernel
theorem dj65_133_9 : decode jdk_65_method_133_code 9 = .ok (.iload_n 3, 1) := by decide +kernel
theorem dj65_133_10 : decode jdk_65_method_133_code 10 = .ok (.newarray .byte, 2) := by decide +kernel
theorem dj65_133_12 : decode jdk_65_method_133_code 12 = .ok (.astore 4, 2) := by decide +kernel
theorem dj65_133_14 : decode jdk_65_method_133_code 14 = .ok (.aload_n 0, 1) := by decide +kernel
theorem dj65_133_15 : decode jdk_65_method_133_code 15 = .ok (.iload_n 1, 1) := by decide +kernel
theorem dj65_133_16 : decode jdk_65_method_133_code 16 = .ok (.aload 4, 2) := by decide +kernel
theorem dj65_133_18 : decode jdk_65_method_133_code 18 = .ok (.iconst 0, 1) := by decide +kernel
theorem dj65_133_19 : decode jdk_65_method_133_code 19 = .ok (.aload_n 0, 1) := by decide +kernel
theorem dj65_133_20 : decode jdk_65_method_133_code 20 = .ok (.arraylength, 1) := by decide +kernel
theorem dj65_133_21 : decode jdk_65_method_133_code 21 = .ok (.iload_n 1, 1) := by decide +kernel
theorem dj65_133_22 : decode jdk_65_method_133_code 22 = .ok (.isub, 1) := by decide +kernel
theorem dj65_133_23 : decode jdk_65_method_133_code 23 = .ok (.iload_n 3, 1) := by decide +kernel
theorem dj65_133_24 : decode jdk_65_method_133_code 24 = .ok (.invokestatic 304, 3) := by decide +kernel
theorem dj65_133_27 : decode jdk_65_method_133_code 27 = .ok (.invokestatic 150, 3) := by decide +kernel
theorem dj65_133_30 : decode jdk_65_method_133_code 30 = .ok (.aload 4, 2) := by decide +kernel
theorem dj65_133_32 : decode jdk_65_method_133_code 32 = .ok (.areturn, 1) := by decide +kernel
theorem dj65_131_0 : decode jdk_65_method_131_code 0 = .ok (.iload_n 1, 1) := by decide +kernel
theorem dj65_131_1 : decode jdk_65_method_131_code 1 = .ok (.iload_n 0, 1) := by decide +kernel
theorem dj65_131_2 : decode jdk_65_method_131_code 2 = .ok (.if_icmp .ge 35, 3) := by decide +kernel
theorem dj65_131_5 : decode jdk_65_method_131_code 5 = .ok (.new 43, 3) := by decide +kernel
theorem dj65_131_8 : decode jdk_65_method_131_code 8 = .ok (.dup, 1) := by decide +kernel
theorem dj65_131_9 : decode jdk_65_method_131_code 9 = .ok (.new 45, 3) := by decide +kernel
theorem dj65_131_12 : decode jdk_65_method_131_code 12 = .ok (.dup, 1) := by decide +kernel
theorem dj65_131_13 : decode jdk_65_method_131_code 13 = .ok (.invokespecial 47, 3) := by decide +kernel
theorem dj65_131_16 : decode jdk_65_method_131_code 16 = .ok (.iload_n 0, 1) := by decide +kernel
theorem dj65_131_17 : decode jdk_65_method_131_code 17 = .ok (.invokevirtual 54, 3) := by decide +kernel
theorem dj65_131_20 : decode jdk_65_method_131_code 20 = .ok (.ldc_w 337, 3) := by decide +kernel
theorem dj65_131_23 : decode jdk_65_method_131_code 23 = .ok (.invokevirtual 50, 3) := by decide +kernel
theorem dj65_131_26 : decode jdk_65_method_131_code 26 = .ok (.iload_n 1, 1) := by decide +kernel
theorem dj65_131_27 : decode jdk_65_method_131_code 27 = .ok (.invokevirtual 54, 3) := by decide +kernel
theorem dj65_131_30 : decode jdk_65_method_131_code 30 = .ok (.invokevirtual 61, 3) := by decide +kernel
theorem dj65_131_33 : decode jdk_65_method_131_code 33 = .ok (.invokespecial 65, 3) := by decide +kernel
theorem dj65_131_36 : decode jdk_65_method_131_code 36 = .ok (.athrow, 1) := by decide +kernel
theorem dj65_131_37 : decode jdk_65_method_131_code 37 = .ok (.return_, 1) := by decide +kernel
theorem dj29_69_0 : decode jdk_29_method_69_code 0 = .ok (.iload_n 0, 1) := by decide +kernel
theorem dj29_69_1 : decode jdk_29_method_69_code 1 = .ok (.iload_n 1, 1) := by decide +kernel
theorem dj29_69_2 : decode jdk_29_method_69_code 2 = .ok (.if_icmp .gt 7, 3) := by decide +kernel
theorem dj29_69_5 : decode jdk_29_method_69_code 5 = .ok (.iload_n 0, 1) := by decide +kernel
theorem dj29_69_6 : decode jdk_29_method_69_code 6 = .ok (.goto 4, 3) := by decide +kernel
theorem dj29_69_9 : decode jdk_29_method_69_code 9 = .ok (.iload_n 1, 1) := by decide +kernel
theorem dj29_69_10 : decode jdk_29_method_69_code 10 = .ok (.ireturn, 1) := by decide +kernel
theorem dm4_0 : decode method_4_code 0 = .ok (.aload_n 0, 1) := by decide +kernel
theorem dm4_1 : decode method_4_code 1 = .ok (.iload_n 1, 1) := by decide +kernel
theorem dm4_2 : decode method_4_code 2 = .ok (.iload_n 2, 1) := by decide +kernel
theorem dm4_3 : decode method_4_code 3 = .ok (.castore, 1) := by decide +kernel
theorem dm4_4 : decode method_4_code 4 = .ok (.iload_n 1, 1) := by decide +kernel
theorem dm4_5 : decode method_4_code 5 = .ok (.iconst 1, 1) := by decide +kernel
theorem dm4_6 : decode method_4_code 6 = .ok (.iadd, 1) := by decide +kernel
theorem dm4_7 : decode method_4_code 7 = .ok (.ireturn, 1) := by decide +kernel
theorem dm5_0 : decode method_5_code 0 = .ok (.iload_n 1, 1) := by decide +kernel
theorem dm5_1 : decode method_5_code 1 = .ok (.istore 6, 2) := by decide +kernel
theorem dm5_3 : decode method_5_code 3 = .ok (.iload_n 2, 1) := by decide +kernel
theorem dm5_4 : decode method_5_code 4 = .ok (.ifCond .le 12, 3) := by decide +kernel
theorem dm5_7 : decode method_5_code 7 = .ok (.aload_n 0, 1) := by decide +kernel
theorem dm5_8 : decode method_5_code 8 = .ok (.iload 6, 2) := by decide +kernel
theorem dm5_10 : decode method_5_code 10 = .ok (.iload_n 3, 1) := by decide +kernel
theorem dm5_11 : decode method_5_code 11 = .ok (.invokestatic 14, 3) := by decide +kernel
theorem dm5_14 : decode method_5_code 14 = .ok (.istore 6, 2) := by decide +kernel
theorem dm5_16 : decode method_5_code 16 = .ok (.iload_n 2, 1) := by decide +kernel
theorem dm5_17 : decode method_5_code 17 = .ok (.iconst 1, 1) := by decide +kernel
theorem dm5_18 : decode method_5_code 18 = .ok (.if_icmp .le 13, 3) := by decide +kernel
theorem dm5_21 : decode method_5_code 21 = .ok (.aload_n 0, 1) := by decide +kernel
theorem dm5_22 : decode method_5_code 22 = .ok (.iload 6, 2) := by decide +kernel
theorem dm5_24 : decode method_5_code 24 = .ok (.iload 4, 2) := by decide +kernel
theorem dm5_26 : decode method_5_code 26 = .ok (.invokestatic 14, 3) := by decide +kernel
theorem dm5_29 : decode method_5_code 29 = .ok (.istore 6, 2) := by decide +kernel
theorem dm5_31 : decode method_5_code 31 = .ok (.iload_n 2, 1) := by decide +kernel
theorem dm5_32 : decode method_5_code 32 = .ok (.iconst 2, 1) := by decide +kernel
theorem dm5_33 : decode method_5_code 33 = .ok (.if_icmp .le 13, 3) := by decide +kernel
theorem dm5_36 : decode method_5_code 36 = .ok (.aload_n 0, 1) := by decide +kernel
theorem dm5_37 : decode method_5_code 37 = .ok (.iload 6, 2) := by decide +kernel
theorem dm5_39 : decode method_5_code 39 = .ok (.iload 5, 2) := by decide +kernel
theorem dm5_41 : decode method_5_code 41 = .ok (.invokestatic 14, 3) := by decide +kernel
theorem dm5_44 : decode method_5_code 44 = .ok (.istore 6, 2) := by decide +kernel
theorem dm5_46 : decode method_5_code 46 = .ok (.iload 6, 2) := by decide +kernel
theorem dm5_48 : decode method_5_code 48 = .ok (.ireturn, 1) := by decide +kernel
theorem dm6_0 : decode method_6_code 0 = .ok (.iload_n 3, 1) := by decide +kernel
theorem dm6_1 : decode method_6_code 1 = .ok (.iload_n 2, 1) := by decide +kernel
theorem dm6_2 : decode method_6_code 2 = .ok (.if_icmp .ge 14, 3) := by decide +kernel
theorem dm6_5 : decode method_6_code 5 = .ok (.aload_n 0, 1) := by decide +kernel
theorem dm6_6 : decode method_6_code 6 = .ok (.iload_n 3, 1) := by decide +kernel
theorem dm6_7 : decode method_6_code 7 = .ok (.invokevirtual 20, 3) := by decide +kernel
theorem dm6_10 : decode method_6_code 10 = .ok (.aload_n 1, 1) := by decide +kernel
theorem dm6_11 : decode method_6_code 11 = .ok (.iload_n 3, 1) := by decide +kernel
theorem dm6_12 : decode method_6_code 12 = .ok (.caload, 1) := by decide +kernel
theorem dm6_13 : decode method_6_code 13 = .ok (.if_icmp .ne 7, 3) := by decide +kernel
theorem dm6_16 : decode method_6_code 16 = .ok (.iconst 1, 1) := by decide +kernel
theorem dm6_17 : decode method_6_code 17 = .ok (.goto 4, 3) := by decide +kernel
theorem dm6_20 : decode method_6_code 20 = .ok (.iconst 0, 1) := by decide +kernel
theorem dm6_21 : decode method_6_code 21 = .ok (.ireturn, 1) := by decide +kernel
theorem dj42_56_0 : decode jdk_42_method_56_code 0 = .ok (.aload_n 0, 1) := by decide +kernel
theorem dj42_56_1 : decode jdk_42_method_56_code 1 = .ok (.invokevirtual 492, 3) := by decide +kernel
theorem dj42_56_4 : decode jdk_42_method_56_code 4 = .ok (.ifCond .eq 12, 3) := by decide +kernel
theorem dj42_56_7 : decode jdk_42_method_56_code 7 = .ok (.aload_n 0, 1) := by decide +kernel
theorem dj42_56_8 : decode jdk_42_method_56_code 8 = .ok (.getfield 9, 3) := by decide +kernel
theorem dj42_56_11 : decode jdk_42_method_56_code 11 = .ok (.iload_n 1, 1) := by decide +kernel
theorem dj42_56_12 : decode jdk_42_method_56_code 12 = .ok (.invokestatic 495, 3) := by decide +kernel
theorem dj42_56_15 : decode jdk_42_method_56_code 15 = .ok (.ireturn, 1) := by decide +kernel
theorem dj42_56_16 : decode jdk_42_method_56_code 16 = .ok (.aload_n 0, 1) := by decide +kernel
theorem dj42_56_17 : decode jdk_42_method_56_code 17 = .ok (.getfield 9, 3) := by decide +kernel
theorem dj42_56_20 : decode jdk_42_method_56_code 20 = .ok (.iload_n 1, 1) := by decide +kernel
theorem dj42_56_21 : decode jdk_42_method_56_code 21 = .ok (.invokestatic 498, 3) := by decide +kernel
theorem dj42_56_24 : decode jdk_42_method_56_code 24 = .ok (.ireturn, 1) := by decide +kernel
theorem dj42_154_0 : decode jdk_42_method_154_code 0 = .ok (.getstatic 38, 3) := by decide +kernel
theorem dj42_154_3 : decode jdk_42_method_154_code 3 = .ok (.ifCond .eq 14, 3) := by decide +kernel
theorem dj42_154_6 : decode jdk_42_method_154_code 6 = .ok (.aload_n 0, 1) := by decide +kernel
theorem dj42_154_7 : decode jdk_42_method_154_code 7 = .ok (.getfield 15, 3) := by decide +kernel
theorem dj42_154_10 : decode jdk_42_method_154_code 10 = .ok (.ifCond .ne 7, 3) := by decide +kernel
theorem dj42_154_13 : decode jdk_42_method_154_code 13 = .ok (.iconst 1, 1) := by decide +kernel
theorem dj42_154_14 : decode jdk_42_method_154_code 14 = .ok (.goto 4, 3) := by decide +kernel
theorem dj42_154_17 : decode jdk_42_method_154_code 17 = .ok (.iconst 0, 1) := by decide +kernel
theorem dj42_154_18 : decode jdk_42_method_154_code 18 = .ok (.ireturn, 1) := by decide +kernel
theorem dj43_2_0 : decode jdk_43_method_2_code 0 = .ok (.iload_n 1, 1) := by decide +kernel
theorem dj43_2_1 : decode jdk_43_method_2_code 1 = .ok (.aload_n 0, 1) := by decide +kernel
theorem dj43_2_2 : decode jdk_43_method_2_code 2 = .ok (.arraylength, 1) := by decide +kernel
theorem dj43_2_3 : decode jdk_43_method_2_code 3 = .ok (.invokestatic 9, 3) := by decide +kernel
theorem dj43_2_6 : decode jdk_43_method_2_code 6 = .ok (.aload_n 0, 1) := by decide +kernel
theorem dj43_2_7 : decode jdk_43_method_2_code 7 = .ok (.iload_n 1, 1) := by decide +kernel
theorem dj43_2_8 : decode jdk_43_method_2_code 8 = .ok (.baload, 1) := by decide +kernel
theorem dj43_2_9 : decode jdk_43_method_2_code 9 = .ok (.sipush 255, 3) := by decide +kernel
theorem dj43_2_12 : decode jdk_43_method_2_code 12 = .ok (.iand, 1) := by decide +kernel
theorem dj43_2_13 : decode jdk_43_method_2_code 13 = .ok (.i2c, 1) := by decide +kernel
theorem dj43_2_14 : decode jdk_43_method_2_code 14 = .ok (.ireturn, 1) := by decide +kernel
theorem dj42_155_0 : decode jdk_42_method_155_code 0 = .ok (.iload_n 0, 1) := by decide +kernel
theorem dj42_155_1 : decode jdk_42_method_155_code 1 = .ok (.iload_n 1, 1) := by decide +kernel
theorem dj42_155_2 : decode jdk_42_method_155_code 2 = .ok (.getstatic 1053, 3) := by decide +kernel
theorem dj42_155_5 : decode jdk_42_method_155_code 5 = .ok (.invokestatic 1059, 3) := by decide +kernel
theorem dj42_155_8 : decode jdk_42_method_155_code 8 = .ok (.pop, 1) := by decide +kernel
theorem dj42_155_9 : decode jdk_42_method_155_code 9 = .ok (.return_, 1) := by decide +kernel
theorem dj41_11_0 : decode jdk_41_method_11_code 0 = .ok (.iload_n 0, 1) := by decide +kernel
theorem dj41_11_1 : decode jdk_41_method_11_code 1 = .ok (.ifCond .lt 8, 3) := by decide +kernel
theorem dj41_11_4 : decode jdk_41_method_11_code 4 = .ok (.iload_n 0, 1) := by decide +kernel
theorem dj41_11_5 : decode jdk_41_method_11_code 5 = .ok (.iload_n 1, 1) := by decide +kernel
theorem dj41_11_6 : decode jdk_41_method_11_code 6 = .ok (.if_icmp .lt 10, 3) := by decide +kernel
theorem dj41_11_9 : decode jdk_41_method_11_code 9 = .ok (.aload_n 2, 1) := by decide +kernel
theorem dj41_11_10 : decode jdk_41_method_11_code 10 = .ok (.iload_n 0, 1) := by decide +kernel
theorem dj41_11_11 : decode jdk_41_method_11_code 11 = .ok (.iload_n 1, 1) := by decide +kernel
theorem dj41_11_12 : decode jdk_41_method_11_code 12 = .ok (.invokestatic 95, 3) := by decide +kernel
theorem dj41_11_15 : decode jdk_41_method_11_code 15 = .ok (.athrow, 1) := by decide +kernel
theorem dj41_11_16 : decode jdk_41_method_11_code 16 = .ok (.iload_n 0, 1) := by decide +kernel
theorem dj41_11_17 : decode jdk_41_method_11_code 17 = .ok (.ireturn, 1) := by decide +kernel
theorem dj52_16_0 : decode jdk_52_method_16_code 0 = .ok (.iload_n 2, 1) := by decide +kernel
theorem dj52_16_1 : decode jdk_52_method_16_code 1 = .ok (.newarray .byte, 2) := by decide +kernel
theorem dj52_16_3 : decode jdk_52_method_16_code 3 = .ok (.astore_n 3, 1) := by decide +kernel
theorem dj52_16_4 : decode jdk_52_method_16_code 4 = .ok (.aload_n 0, 1) := by decide +kernel
theorem dj52_16_5 : decode jdk_52_method_16_code 5 = .ok (.iload_n 1, 1) := by decide +kernel
theorem dj52_16_6 : decode jdk_52_method_16_code 6 = .ok (.aload_n 3, 1) := by decide +kernel
theorem dj52_16_7 : decode jdk_52_method_16_code 7 = .ok (.iconst 0, 1) := by decide +kernel
theorem dj52_16_8 : decode jdk_52_method_16_code 8 = .ok (.iload_n 2, 1) := by decide +kernel
theorem dj52_16_9 : decode jdk_52_method_16_code 9 = .ok (.invokestatic 115, 3) := by decide +kernel
theorem dj52_16_12 : decode jdk_52_method_16_code 12 = .ok (.istore 4, 2) := by decide +kernel
theorem dj52_16_14 : decode jdk_52_method_16_code 14 = .ok (.iload 4, 2) := by decide +kernel
theorem dj52_16_16 : decode jdk_52_method_16_code 16 = .ok (.iload_n 2, 1) := by decide +kernel
theorem dj52_16_17 : decode jdk_52_method_16_code 17 = .ok (.if_icmp .eq 40, 3) := by decide +kernel
theorem dj52_16_20 : decode jdk_52_method_16_code 20 = .ok (.aload_n 0, 1) := by decide +kernel
theorem dj52_16_21 : decode jdk_52_method_16_code 21 = .ok (.iload_n 1, 1) := by decide +kernel
theorem dj52_16_22 : decode jdk_52_method_16_code 22 = .ok (.iload_n 2, 1) := by decide +kernel
theorem dj52_16_23 : decode jdk_52_method_16_code 23 = .ok (.invokestatic 119, 3) := by decide +kernel
theorem dj52_16_26 : decode jdk_52_method_16_code 26 = .ok (.astore 5, 2) := by decide +kernel
theorem dj52_16_28 : decode jdk_52_method_16_code 28 = .ok (.aload 5, 2) := by decide +kernel
theorem dj52_16_30 : decode jdk_52_method_16_code 30 = .ok (.iload 4, 2) := by decide +kernel
theorem dj52_16_32 : decode jdk_52_method_16_code 32 = .ok (.invokestatic 71, 3) := by decide +kernel
theorem dj52_16_35 : decode jdk_52_method_16_code 35 = .ok (.sipush 255, 3) := by decide +kernel
theorem dj52_16_38 : decode jdk_52_method_16_code 38 = .ok (.if_icmp .gt 16, 3) := by decide +kernel
theorem dj52_16_41 : decode jdk_52_method_16_code 41 = .ok (.aload 5, 2) := by decide +kernel
theorem dj52_16_43 : decode jdk_52_method_16_code 43 = .ok (.iconst 0, 1) := by decide +kernel
theorem dj52_16_44 : decode jdk_52_method_16_code 44 = .ok (.aload_n 3, 1) := by decide +kernel
theorem dj52_16_45 : decode jdk_52_method_16_code 45 = .ok (.iconst 0, 1) := by decide +kernel
theorem dj52_16_46 : decode jdk_52_method_16_code 46 = .ok (.iload_n 2, 1) := by decide +kernel
theorem dj52_16_47 : decode jdk_52_method_16_code 47 = .ok (.invokestatic 123, 3) := by decide +kernel
theorem dj52_16_50 : decode jdk_52_method_16_code 50 = .ok (.iload_n 2, 1) := by decide +kernel
theorem dj52_16_51 : decode jdk_52_method_16_code 51 = .ok (.if_icmp .eq 6, 3) := by decide +kernel
theorem dj52_16_54 : decode jdk_52_method_16_code 54 = .ok (.aload 5, 2) := by decide +kernel
theorem dj52_16_56 : decode jdk_52_method_16_code 56 = .ok (.areturn, 1) := by decide +kernel
theorem dj52_16_57 : decode jdk_52_method_16_code 57 = .ok (.aload_n 3, 1) := by decide +kernel
theorem dj52_16_58 : decode jdk_52_method_16_code 58 = .ok (.areturn, 1) := by decide +kernel
theorem dj52_21_0 : decode jdk_52_method_21_code 0 = .ok (.iconst 0, 1) := by decide +kernel
theorem dj52_21_1 : decode jdk_52_method_21_code 1 = .ok (.istore 5, 2) := by decide +kernel
theorem dj52_21_3 : decode jdk_52_method_21_code 3 = .ok (.iload 5, 2) := by decide +kernel
theorem dj52_21_5 : decode jdk_52_method_21_code 5 = .ok (.iload 4, 2) := by decide +kernel
theorem dj52_21_7 : decode jdk_52_method_21_code 7 = .ok (.if_icmp .ge 37, 3) := by decide +kernel
theorem dj52_21_10 : decode jdk_52_method_21_code 10 = .ok (.aload_n 0, 1) := by decide +kernel
theorem dj52_21_11 : decode jdk_52_method_21_code 11 = .ok (.iload_n 1, 1) := by decide +kernel
theorem dj52_21_12 : decode jdk_52_method_21_code 12 = .ok (.caload, 1) := by decide +kernel
theorem dj52_21_13 : decode jdk_52_method_21_code 13 = .ok (.istore 6, 2) := by decide +kernel
theorem dj52_21_15 : decode jdk_52_method_21_code 15 = .ok (.iload 6, 2) := by decide +kernel
theorem dj52_21_17 : decode jdk_52_method_21_code 17 = .ok (.sipush 255, 3) := by decide +kernel
theorem dj52_21_20 : decode jdk_52_method_21_code 20 = .ok (.if_icmp .le 6, 3) := by decide +kernel
theorem dj52_21_23 : decode jdk_52_method_21_code 23 = .ok (.iload 5, 2) := by decide +kernel
theorem dj52_21_25 : decode jdk_52_method_21_code 25 = .ok (.ireturn, 1) := by decide +kernel
theorem dj52_21_26 : decode jdk_52_method_21_code 26 = .ok (.aload_n 2, 1) := by decide +kernel
theorem dj52_21_27 : decode jdk_52_method_21_code 27 = .ok (.iload_n 3, 1) := by decide +kernel
theorem dj52_21_28 : decode jdk_52_method_21_code 28 = .ok (.iload 6, 2) := by decide +kernel
theorem dj52_21_30 : decode jdk_52_method_21_code 30 = .ok (.i2b, 1) := by decide +kernel
theorem dj52_21_31 : decode jdk_52_method_21_code 31 = .ok (.bastore, 1) := by decide +kernel
theorem dj52_21_32 : decode jdk_52_method_21_code 32 = .ok (.iinc 1 1, 3) := by decide +kernel
theorem dj52_21_35 : decode jdk_52_method_21_code 35 = .ok (.iinc 3 1, 3) := by decide +kernel
theorem dj52_21_38 : decode jdk_52_method_21_code 38 = .ok (.iinc 5 1, 3) := by decide +kernel
theorem dj52_21_41 : decode jdk_52_method_21_code 41 = .ok (.goto (-38), 3) := by decide +kernel
theorem dj52_21_44 : decode jdk_52_method_21_code 44 = .ok (.iload 4, 2) := by decide +kernel
theorem dj52_21_46 : decode jdk_52_method_21_code 46 = .ok (.ireturn, 1) := by decide +kernel
theorem dj52_15_0 : decode jdk_52_method_15_code 0 = .ok (.iload_n 1, 1) := by decide +kernel
theorem dj52_15_1 : decode jdk_52_method_15_code 1 = .ok (.aload_n 0, 1) := by decide +kernel
theorem dj52_15_2 : decode jdk_52_method_15_code 2 = .ok (.arraylength, 1) := by decide +kernel
theorem dj52_15_3 : decode jdk_52_method_15_code 3 = .ok (.isub, 1) := by decide +kernel
theorem dj52_15_4 : decode jdk_52_method_15_code 4 = .ok (.bipush 31, 2) := by decide +kernel
theorem dj52_15_6 : decode jdk_52_method_15_code 6 = .ok (.iushr, 1) := by decide +kernel
theorem dj52_15_7 : decode jdk_52_method_15_code 7 = .ok (.i2b, 1) := by decide +kernel
theorem dj52_15_8 : decode jdk_52_method_15_code 8 = .ok (.ireturn, 1) := by decide +kernel
theorem dj38_25_0 : decode jdk_38_method_25_code 0 = .ok (.aload_n 0, 1) := by decide +kernel
theorem dj38_25_1 : decode jdk_38_method_25_code 1 = .ok (.dup, 1) := by decide +kernel
theorem dj38_25_2 : decode jdk_38_method_25_code 2 = .ok (.getfield 63, 3) := by decide +kernel
theorem dj38_25_5 : decode jdk_38_method_25_code 5 = .ok (.iconst 1, 1) := by decide +kernel
theorem dj38_25_6 : decode jdk_38_method_25_code 6 = .ok (.iadd, 1) := by decide +kernel
theorem dj38_25_7 : decode jdk_38_method_25_code 7 = .ok (.putfield 63, 3) := by decide +kernel
theorem dj38_25_10 : decode jdk_38_method_25_code 10 = .ok (.aload_n 0, 1) := by decide +kernel
theorem dj38_25_11 : decode jdk_38_method_25_code 11 = .ok (.aload_n 1, 1) := by decide +kernel
theorem dj38_25_12 : decode jdk_38_method_25_code 12 = .ok (.aload_n 0, 1) := by decide +kernel
theorem dj38_25_13 : decode jdk_38_method_25_code 13 = .ok (.getfield 9, 3) := by decide +kernel
theorem dj38_25_16 : decode jdk_38_method_25_code 16 = .ok (.aload_n 0, 1) := by decide +kernel
theorem dj38_25_17 : decode jdk_38_method_25_code 17 = .ok (.getfield 48, 3) := by decide +kernel
theorem dj38_25_20 : decode jdk_38_method_25_code 20 = .ok (.invokevirtual 131, 3) := by decide +kernel
theorem dj38_25_23 : decode jdk_38_method_25_code 23 = .ok (.iconst 1, 1) := by decide +kernel
theorem dj38_25_24 : decode jdk_38_method_25_code 24 = .ok (.ireturn, 1) := by decide +kernel
theorem dj38_24_0 : decode jdk_38_method_24_code 0 = .ok (.iload_n 3, 1) := by decide +kernel
theorem dj38_24_1 : decode jdk_38_method_24_code 1 = .ok (.aload_n 2, 1) := by decide +kernel
theorem dj38_24_2 : decode jdk_38_method_24_code 2 = .ok (.arraylength, 1) := by decide +kernel
theorem dj38_24_3 : decode jdk_38_method_24_code 3 = .ok (.if_icmp .ne 8, 3) := by decide +kernel
theorem dj38_24_6 : decode jdk_38_method_24_code 6 = .ok (.aload_n 0, 1) := by decide +kernel
theorem dj38_24_7 : decode jdk_38_method_24_code 7 = .ok (.invokevirtual 129, 3) := by decide +kernel
theorem dj38_24_10 : decode jdk_38_method_24_code 10 = .ok (.astore_n 2, 1) := by decide +kernel
theorem dj38_24_11 : decode jdk_38_method_24_code 11 = .ok (.aload_n 2, 1) := by decide +kernel
theorem dj38_24_12 : decode jdk_38_method_24_code 12 = .ok (.iload_n 3, 1) := by decide +kernel
theorem dj38_24_13 : decode jdk_38_method_24_code 13 = .ok (.aload_n 1, 1) := by decide +kernel
theorem dj38_24_14 : decode jdk_38_method_24_code 14 = .ok (.aastore, 1) := by decide +kernel
theorem dj38_24_15 : decode jdk_38_method_24_code 15 = .ok (.aload_n 0, 1) := by decide +kernel
theorem dj38_24_16 : decode jdk_38_method_24_code 16 = .ok (.iload_n 3, 1) := by decide +kernel
theorem dj38_24_17 : decode jdk_38_method_24_code 17 = .ok (.iconst 1, 1) := by decide +kernel
theorem dj38_24_18 : decode jdk_38_method_24_code 18 = .ok (.iadd, 1) := by decide +kernel
theorem dj38_24_19 : decode jdk_38_method_24_code 19 = .ok (.putfield 48, 3) := by decide +kernel
theorem dj38_24_22 : decode jdk_38_method_24_code 22 = .ok (.return_, 1) := by decide +kernel
theorem dj38_7_0 : decode jdk_38_method_7_code 0 = .ok (.aload_n 0, 1) := by decide +kernel
theorem dj38_7_1 : decode jdk_38_method_7_code 1 = .ok (.aload_n 0, 1) := by decide +kernel
theorem dj38_7_2 : decode jdk_38_method_7_code 2 = .ok (.getfield 48, 3) := by decide +kernel
theorem dj38_7_5 : decode jdk_38_method_7_code 5 = .ok (.iconst 1, 1) := by decide +kernel
theorem dj38_7_6 : decode jdk_38_method_7_code 6 = .ok (.iadd, 1) := by decide +kernel
theorem dj38_7_7 : decode jdk_38_method_7_code 7 = .ok (.invokevirtual 69, 3) := by decide +kernel
theorem dj38_7_10 : decode jdk_38_method_7_code 10 = .ok (.areturn, 1) := by decide +kernel
theorem dj38_6_0 : decode jdk_38_method_6_code 0 = .ok (.aload_n 0, 1) := by decide +kernel
theorem dj38_6_1 : decode jdk_38_method_6_code 1 = .ok (.getfield 9, 3) := by decide +kernel
theorem dj38_6_4 : decode jdk_38_method_6_code 4 = .ok (.arraylength, 1) := by decide +kernel
theorem dj38_6_5 : decode jdk_38_method_6_code 5 = .ok (.istore_n 2, 1) := by decide +kernel
theorem dj38_6_6 : decode jdk_38_method_6_code 6 = .ok (.iload_n 2, 1) := by decide +kernel
theorem dj38_6_7 : decode jdk_38_method_6_code 7 = .ok (.ifCond .gt 13, 3) := by decide +kernel
theorem dj38_6_10 : decode jdk_38_method_6_code 10 = .ok (.aload_n 0, 1) := by decide +kernel
theorem dj38_6_11 : decode jdk_38_method_6_code 11 = .ok (.getfield 9, 3) := by decide +kernel
theorem dj38_6_14 : decode jdk_38_method_6_code 14 = .ok (.getstatic 39, 3) := by decide +kernel
theorem dj38_6_17 : decode jdk_38_method_6_code 17 = .ok (.if_acmp .eq 28, 3) := by decide +kernel
theorem dj38_6_20 : decode jdk_38_method_6_code 20 = .ok (.iload_n 2, 1) := by decide +kernel
theorem dj38_6_21 : decode jdk_38_method_6_code 21 = .ok (.iload_n 1, 1) := by decide +kernel
theorem dj38_6_22 : decode jdk_38_method_6_code 22 = .ok (.iload_n 2, 1) := by decide +kernel
theorem dj38_6_23 : decode jdk_38_method_6_code 23 = .ok (.isub, 1) := by decide +kernel
theorem dj38_6_24 : decode jdk_38_method_6_code 24 = .ok (.iload_n 2, 1) := by decide +kernel
theorem dj38_6_25 : decode jdk_38_method_6_code 25 = .ok (.iconst 1, 1) := by decide +kernel
theorem dj38_6_26 : decode jdk_38_method_6_code 26 = .ok (.ishr, 1) := by decide +kernel
theorem dj38_6_27 : decode jdk_38_method_6_code 27 = .ok (.invokestatic 73, 3) := by decide +kernel
theorem dj38_6_30 : decode jdk_38_method_6_code 30 = .ok (.istore_n 3, 1) := by decide +kernel
theorem dj38_6_31 : decode jdk_38_method_6_code 31 = .ok (.aload_n 0, 1) := by decide +kernel
theorem dj38_6_32 : decode jdk_38_method_6_code 32 = .ok (.aload_n 0, 1) := by decide +kernel
theorem dj38_6_33 : decode jdk_38_method_6_code 33 = .ok (.getfield 9, 3) := by decide +kernel
theorem dj38_6_36 : decode jdk_38_method_6_code 36 = .ok (.iload_n 3, 1) := by decide +kernel
theorem dj38_6_37 : decode jdk_38_method_6_code 37 = .ok (.invokestatic 66, 3) := by decide +kernel
theorem dj38_6_40 : decode jdk_38_method_6_code 40 = .ok (.dup_x1, 1) := by decide +kernel
theorem dj38_6_41 : decode jdk_38_method_6_code 41 = .ok (.putfield 9, 3) := by decide +kernel
theorem dj38_6_44 : decode jdk_38_method_6_code 44 = .ok (.areturn, 1) := by decide +kernel
theorem dj38_6_45 : decode jdk_38_method_6_code 45 = .ok (.aload_n 0, 1) := by decide +kernel
theorem dj38_6_46 : decode jdk_38_method_6_code 46 = .ok (.bipush 10, 2) := by decide +kernel
theorem dj38_6_48 : decode jdk_38_method_6_code 48 = .ok (.iload_n 1, 1) := by decide +kernel
theorem dj38_6_49 : decode jdk_38_method_6_code 49 = .ok (.invokestatic 79, 3) := by decide +kernel
theorem dj38_6_52 : decode jdk_38_method_6_code 52 = .ok (.anewarray 7, 3) := by decide +kernel
theorem dj38_6_55 : decode jdk_38_method_6_code 55 = .ok (.dup_x1, 1) := by decide +kernel
theorem dj38_6_56 : decode jdk_38_method_6_code 56 = .ok (.putfield 9, 3) := by decide +kernel
theorem dj38_6_59 : decode jdk_38_method_6_code 59 = .ok (.areturn, 1) := by decide +kernel
theorem dj29_65_0 : decode jdk_29_method_65_code 0 = .ok (.iload_n 0, 1) := by decide +kernel
theorem dj29_65_1 : decode jdk_29_method_65_code 1 = .ok (.iload_n 1, 1) := by decide +kernel
theorem dj29_65_2 : decode jdk_29_method_65_code 2 = .ok (.if_icmp .lt 7, 3) := by decide +kernel
theorem dj29_65_5 : decode jdk_29_method_65_code 5 = .ok (.iload_n 0, 1) := by decide +kernel
theorem dj29_65_6 : decode jdk_29_method_65_code 6 = .ok (.goto 4, 3) := by decide +kernel
theorem dj29_65_9 : decode jdk_29_method_65_code 9 = .ok (.iload_n 1, 1) := by decide +kernel
theorem dj29_65_10 : decode jdk_29_method_65_code 10 = .ok (.ireturn, 1) := by decide +kernel
theorem dj38_16_0 : decode jdk_38_method_16_code 0 = .ok (.aload_n 0, 1) := by decide +kernel
theorem dj38_16_1 : decode jdk_38_method_16_code 1 = .ok (.getfield 9, 3) := by decide +kernel
theorem dj38_16_4 : decode jdk_38_method_16_code 4 = .ok (.aload_n 0, 1) := by decide +kernel
theorem dj38_16_5 : decode jdk_38_method_16_code 5 = .ok (.getfield 48, 3) := by decide +kernel
theorem dj38_16_8 : decode jdk_38_method_16_code 8 = .ok (.invokestatic 66, 3) := by decide +kernel
theorem dj38_16_11 : decode jdk_38_method_16_code 11 = .ok (.areturn, 1) := by decide +kernel
theorem dj65_119_0 : decode jdk_65_method_119_code 0 = .ok (.aload_n 0, 1) := by decide +kernel
theorem dj65_119_1 : decode jdk_65_method_119_code 1 = .ok (.iload_n 1, 1) := by decide +kernel
theorem dj65_119_2 : decode jdk_65_method_119_code 2 = .ok (.aload_n 0, 1) := by decide +kernel
theorem dj65_119_3 : decode jdk_65_method_119_code 3 = .ok (.invokevirtual 86, 3) := by decide +kernel
theorem dj65_119_6 : decode jdk_65_method_119_code 6 = .ok (.invokestatic 300, 3) := by decide +kernel
theorem dj65_119_9 : decode jdk_65_method_119_code 9 = .ok (.areturn, 1) := by decide +kernel
theorem dj65_120_0 : decode jdk_65_method_120_code 0 = .ok (.aload_n 2, 1) := by decide +kernel
theorem dj65_120_1 : decode jdk_65_method_120_code 1 = .ok (.ldc 110, 2) := by decide +kernel
theorem dj65_120_3 : decode jdk_65_method_120_code 3 = .ok (.if_acmp .ne 10, 3) := by decide +kernel
theorem dj65_120_6 : decode jdk_65_method_120_code 6 = .ok (.iload_n 1, 1) := by decide +kernel
theorem dj65_120_7 : decode jdk_65_method_120_code 7 = .ok (.anewarray 2, 3) := by decide +kernel
theorem dj65_120_10 : decode jdk_65_method_120_code 10 = .ok (.goto 14, 3) := by decide +kernel
theorem dj65_120_13 : decode jdk_65_method_120_code 13 = .ok (.aload_n 2, 1) := by decide +kernel
theorem dj65_120_14 : decode jdk_65_method_120_code 14 = .ok (.invokevirtual 90, 3) := by decide +kernel
theorem dj65_120_17 : decode jdk_65_method_120_code 17 = .ok (.iload_n 1, 1) := by decide +kernel
theorem dj65_120_18 : decode jdk_65_method_120_code 18 = .ok (.invokestatic 95, 3) := by decide +kernel
theorem dj65_120_21 : decode jdk_65_method_120_code 21 = .ok (.checkcast 110, 3) := by decide +kernel
theorem dj65_120_24 : decode jdk_65_method_120_code 24 = .ok (.astore_n 3, 1) := by decide +kernel
theorem dj65_120_25 : decode jdk_65_method_120_code 25 = .ok (.aload_n 0, 1) := by decide +kernel
theorem dj65_120_26 : decode jdk_65_method_120_code 26 = .ok (.iconst 0, 1) := by decide +kernel
theorem dj65_120_27 : decode jdk_65_method_120_code 27 = .ok (.aload_n 3, 1) := by decide +kernel
theorem dj65_120_28 : decode jdk_65_method_120_code 28 = .ok (.iconst 0, 1) := by decide +kernel
theorem dj65_120_29 : decode jdk_65_method_120_code 29 = .ok (.aload_n 0, 1) := by decide +kernel
theorem dj65_120_30 : decode jdk_65_method_120_code 30 = .ok (.arraylength, 1) := by decide +kernel
theorem dj65_120_31 : decode jdk_65_method_120_code 31 = .ok (.iload_n 1, 1) := by decide +kernel
theorem dj65_120_32 : decode jdk_65_method_120_code 32 = .ok (.invokestatic 304, 3) := by decide +kernel
theorem dj65_120_35 : decode jdk_65_method_120_code 35 = .ok (.invokestatic 150, 3) := by decide +kernel
theorem dj65_120_38 : decode jdk_65_method_120_code 38 = .ok (.aload_n 3, 1) := by decide +kernel
theorem dj65_120_39 : decode jdk_65_method_120_code 39 = .ok (.areturn, 1) := by decide +kernel
theorem dj40_47_0 : decode jdk_40_method_47_code 0 = .ok (.aload_n 0, 1) := by decide +kernel
theorem dj40_47_1 : decode jdk_40_method_47_code 1 = .ok (.arraylength, 1) := by decide +kernel
theorem dj40_47_2 : decode jdk_40_method_47_code 2 = .ok (.tableswitch 57 0 2 #[26, 32, 43], 26) := by decide +kernel
theorem dj40_47_28 : decode jdk_40_method_47_code 28 = .ok (.getstatic 90, 3) := by decide +kernel
theorem dj40_47_31 : decode jdk_40_method_47_code 31 = .ok (.astore_n 1, 1) := by decide +kernel
theorem dj40_47_32 : decode jdk_40_method_47_code 32 = .ok (.aload_n 1, 1) := by decide +kernel
theorem dj40_47_33 : decode jdk_40_method_47_code 33 = .ok (.areturn, 1) := by decide +kernel
theorem dj40_47_34 : decode jdk_40_method_47_code 34 = .ok (.new 96, 3) := by decide +kernel
theorem dj40_47_37 : decode jdk_40_method_47_code 37 = .ok (.dup, 1) := by decide +kernel
theorem dj40_47_38 : decode jdk_40_method_47_code 38 = .ok (.aload_n 0, 1) := by decide +kernel
theorem dj40_47_39 : decode jdk_40_method_47_code 39 = .ok (.iconst 0, 1) := by decide +kernel
theorem dj40_47_40 : decode jdk_40_method_47_code 40 = .ok (.aaload, 1) := by decide +kernel
theorem dj40_47_41 : decode jdk_40_method_47_code 41 = .ok (.invokespecial 98, 3) := by decide +kernel
theorem dj40_47_44 : decode jdk_40_method_47_code 44 = .ok (.areturn, 1) := by decide +kernel
theorem dj40_47_45 : decode jdk_40_method_47_code 45 = .ok (.new 96, 3) := by decide +kernel
theorem dj40_47_48 : decode jdk_40_method_47_code 48 = .ok (.dup, 1) := by decide +kernel
theorem dj40_47_49 : decode jdk_40_method_47_code 49 = .ok (.aload_n 0, 1) := by decide +kernel
theorem dj40_47_50 : decode jdk_40_method_47_code 50 = .ok (.iconst 0, 1) := by decide +kernel
theorem dj40_47_51 : decode jdk_40_method_47_code 51 = .ok (.aaload, 1) := by decide +kernel
theorem dj40_47_52 : decode jdk_40_method_47_code 52 = .ok (.aload_n 0, 1) := by decide +kernel
theorem dj40_47_53 : decode jdk_40_method_47_code 53 = .ok (.iconst 1, 1) := by decide +kernel
theorem dj40_47_54 : decode jdk_40_method_47_code 54 = .ok (.aaload, 1) := by decide +kernel
theorem dj40_47_55 : decode jdk_40_method_47_code 55 = .ok (.invokespecial 100, 3) := by decide +kernel
theorem dj40_47_58 : decode jdk_40_method_47_code 58 = .ok (.areturn, 1) := by decide +kernel
theorem dj40_47_59 : decode jdk_40_method_47_code 59 = .ok (.aload_n 0, 1) := by decide +kernel
theorem dj40_47_60 : decode jdk_40_method_47_code 60 = .ok (.invokestatic 109, 3) := by decide +kernel
theorem dj40_47_63 : decode jdk_40_method_47_code 63 = .ok (.areturn, 1) := by decide +kernel
theorem dj44_1_0 : decode jdk_44_method_1_code 0 = .ok (.aload_n 0, 1) := by decide +kernel
theorem dj44_1_1 : decode jdk_44_method_1_code 1 = .ok (.invokespecial 1, 3) := by decide +kernel
theorem dj44_1_4 : decode jdk_44_method_1_code 4 = .ok (.aload_n 0, 1) := by decide +kernel
theorem dj44_1_5 : decode jdk_44_method_1_code 5 = .ok (.aload_n 1, 1) := by decide +kernel
theorem dj44_1_6 : decode jdk_44_method_1_code 6 = .ok (.invokestatic 7, 3) := by decide +kernel
theorem dj44_1_9 : decode jdk_44_method_1_code 9 = .ok (.putfield 13, 3) := by decide +kernel
theorem dj44_1_12 : decode jdk_44_method_1_code 12 = .ok (.aload_n 0, 1) := by decide +kernel
theorem dj44_1_13 : decode jdk_44_method_1_code 13 = .ok (.getstatic 19, 3) := by decide +kernel
theorem dj44_1_16 : decode jdk_44_method_1_code 16 = .ok (.putfield 24, 3) := by decide +kernel
theorem dj44_1_19 : decode jdk_44_method_1_code 19 = .ok (.return_, 1) := by decide +kernel
theorem dj46_1_0 : decode jdk_46_method_1_code 0 = .ok (.aload_n 0, 1) := by decide +kernel
theorem dj46_1_1 : decode jdk_46_method_1_code 1 = .ok (.invokespecial 1, 3) := by decide +kernel
theorem dj46_1_4 : decode jdk_46_method_1_code 4 = .ok (.return_, 1) := by decide +kernel
theorem dj47_1_0 : decode jdk_47_method_1_code 0 = .ok (.aload_n 0, 1) := by decide +kernel
theorem dj47_1_1 : decode jdk_47_method_1_code 1 = .ok (.invokespecial 1, 3) := by decide +kernel
theorem dj47_1_4 : decode jdk_47_method_1_code 4 = .ok (.return_, 1) := by decide +kernel
theorem dj31_10_0 : decode jdk_31_method_10_code 0 = .ok (.aload_n 0, 1) := by decide +kernel
theorem dj31_10_1 : decode jdk_31_method_10_code 1 = .ok (.ifnonnull 11, 3) := by decide +kernel
theorem dj31_10_4 : decode jdk_31_method_10_code 4 = .ok (.new 84, 3) := by decide +kernel
theorem dj31_10_7 : decode jdk_31_method_10_code 7 = .ok (.dup, 1) := by decide +kernel
theorem dj31_10_8 : decode jdk_31_method_10_code 8 = .ok (.invokespecial 86, 3) := by decide +kernel
theorem dj31_10_11 : decode jdk_31_method_10_code 11 = .ok (.athrow, 1) := by decide +kernel
theorem dj31_10_12 : decode jdk_31_method_10_code 12 = .ok (.aload_n 0, 1) := by decide +kernel
theorem dj31_10_13 : decode jdk_31_method_10_code 13 = .ok (.areturn, 1) := by decide +kernel
theorem dj44_3_0 : decode jdk_44_method_3_code 0 = .ok (.aload_n 0, 1) := by decide +kernel
theorem dj44_3_1 : decode jdk_44_method_3_code 1 = .ok (.getfield 24, 3) := by decide +kernel
theorem dj44_3_4 : decode jdk_44_method_3_code 4 = .ok (.getstatic 19, 3) := by decide +kernel
theorem dj44_3_7 : decode jdk_44_method_3_code 7 = .ok (.if_acmp .eq 7, 3) := by decide +kernel
theorem dj44_3_10 : decode jdk_44_method_3_code 10 = .ok (.iconst 2, 1) := by decide +kernel
theorem dj44_3_11 : decode jdk_44_method_3_code 11 = .ok (.goto 4, 3) := by decide +kernel
theorem dj44_3_14 : decode jdk_44_method_3_code 14 = .ok (.iconst 1, 1) := by decide +kernel
theorem dj44_3_15 : decode jdk_44_method_3_code 15 = .ok (.ireturn, 1) := by decide +kernel
theorem dj67_14_0 : decode jdk_67_method_14_code 0 = .ok (.aload_n 0, 1) := by decide +kernel
theorem dj67_14_1 : decode jdk_67_method_14_code 1 = .ok (.iload_n 1, 1) := by decide +kernel
theorem dj67_14_2 : decode jdk_67_method_14_code 2 = .ok (.invokespecial 50, 3) := by decide +kernel
theorem dj67_14_5 : decode jdk_67_method_14_code 5 = .ok (.pop, 1) := by decide +kernel
theorem dj67_14_6 : decode jdk_67_method_14_code 6 = .ok (.aload_n 0, 1) := by decide +kernel
theorem dj67_14_7 : decode jdk_67_method_14_code 7 = .ok (.areturn, 1) := by decide +kernel
theorem dj68_31_0 : decode jdk_68_method_31_code 0 = .ok (.aload_n 0, 1) := by decide +kernel
theorem dj68_31_1 : decode jdk_68_method_31_code 1 = .ok (.aload_n 0, 1) := by decide +kernel
theorem dj68_31_2 : decode jdk_68_method_31_code 2 = .ok (.getfield 79, 3) := by decide +kernel
theorem dj68_31_5 : decode jdk_68_method_31_code 5 = .ok (.iconst 1, 1) := by decide +kernel
theorem dj68_31_6 : decode jdk_68_method_31_code 6 = .ok (.iadd, 1) := by decide +kernel
theorem dj68_31_7 : decode jdk_68_method_31_code 7 = .ok (.invokevirtual 100, 3) := by decide +kernel
theorem dj68_31_10 : decode jdk_68_method_31_code 10 = .ok (.aload_n 0, 1) := by decide +kernel
theorem dj68_31_11 : decode jdk_68_method_31_code 11 = .ok (.invokevirtual 83, 3) := by decide +kernel
theorem dj68_31_14 : decode jdk_68_method_31_code 14 = .ok (.ifCond .eq 31, 3) := by decide +kernel
theorem dj68_31_17 : decode jdk_68_method_31_code 17 = .ok (.iload_n 1, 1) := by decide +kernel
theorem dj68_31_18 : decode jdk_68_method_31_code 18 = .ok (.invokestatic 191, 3) := by decide +kernel
theorem dj68_31_21 : decode jdk_68_method_31_code 21 = .ok (.ifCond .eq 24, 3) := by decide +kernel
theorem dj68_31_24 : decode jdk_68_method_31_code 24 = .ok (.aload_n 0, 1) := by decide +kernel
theorem dj68_31_25 : decode jdk_68_method_31_code 25 = .ok (.getfield 15, 3) := by decide +kernel
theorem dj68_31_28 : decode jdk_68_method_31_code 28 = .ok (.aload_n 0, 1) := by decide +kernel
theorem dj68_31_29 : decode jdk_68_method_31_code 29 = .ok (.dup, 1) := by decide +kernel
theorem dj68_31_30 : decode jdk_68_method_31_code 30 = .ok (.getfield 79, 3) := by decide +kernel
theorem dj68_31_33 : decode jdk_68_method_31_code 33 = .ok (.dup_x1, 1) := by decide +kernel
theorem dj68_31_34 : decode jdk_68_method_31_code 34 = .ok (.iconst 1, 1) := by decide +kernel
theorem dj68_31_35 : decode jdk_68_method_31_code 35 = .ok (.iadd, 1) := by decide +kernel
theorem dj68_31_36 : decode jdk_68_method_31_code 36 = .ok (.putfield 79, 3) := by decide +kernel
theorem dj68_31_39 : decode jdk_68_method_31_code 39 = .ok (.iload_n 1, 1) := by decide +kernel
theorem dj68_31_40 : decode jdk_68_method_31_code 40 = .ok (.i2b, 1) := by decide +kernel
theorem dj68_31_41 : decode jdk_68_method_31_code 41 = .ok (.bastore, 1) := by decide +kernel
theorem dj68_31_42 : decode jdk_68_method_31_code 42 = .ok (.goto 33, 3) := by decide +kernel
theorem dj68_31_45 : decode jdk_68_method_31_code 45 = .ok (.aload_n 0, 1) := by decide +kernel
theorem dj68_31_46 : decode jdk_68_method_31_code 46 = .ok (.invokevirtual 83, 3) := by decide +kernel
theorem dj68_31_49 : decode jdk_68_method_31_code 49 = .ok (.ifCond .eq 7, 3) := by decide +kernel
theorem dj68_31_52 : decode jdk_68_method_31_code 52 = .ok (.aload_n 0, 1) := by decide +kernel
theorem dj68_31_53 : decode jdk_68_method_31_code 53 = .ok (.invokevirtual 195, 3) := by decide +kernel
theorem dj68_31_56 : decode jdk_68_method_31_code 56 = .ok (.aload_n 0, 1) := by decide +kernel
theorem dj68_31_57 : decode jdk_68_method_31_code 57 = .ok (.getfield 15, 3) := by decide +kernel
theorem dj68_31_60 : decode jdk_68_method_31_code 60 = .ok (.aload_n 0, 1) := by decide +kernel
theorem dj68_31_61 : decode jdk_68_method_31_code 61 = .ok (.dup, 1) := by decide +kernel
theorem dj68_31_62 : decode jdk_68_method_31_code 62 = .ok (.getfield 79, 3) := by decide +kernel
theorem dj68_31_65 : decode jdk_68_method_31_code 65 = .ok (.dup_x1, 1) := by decide +kernel
theorem dj68_31_66 : decode jdk_68_method_31_code 66 = .ok (.iconst 1, 1) := by decide +kernel
theorem dj68_31_67 : decode jdk_68_method_31_code 67 = .ok (.iadd, 1) := by decide +kernel
theorem dj68_31_68 : decode jdk_68_method_31_code 68 = .ok (.putfield 79, 3) := by decide +kernel
theorem dj68_31_71 : decode jdk_68_method_31_code 71 = .ok (.iload_n 1, 1) := by decide +kernel
theorem dj68_31_72 : decode jdk_68_method_31_code 72 = .ok (.invokestatic 197, 3) := by decide +kernel
theorem dj68_31_75 : decode jdk_68_method_31_code 75 = .ok (.aload_n 0, 1) := by decide +kernel
theorem dj68_31_76 : decode jdk_68_method_31_code 76 = .ok (.areturn, 1) := by decide +kernel
theorem dj43_3_0 : decode jdk_43_method_3_code 0 = .ok (.iload_n 0, 1) := by decide +kernel
theorem dj43_3_1 : decode jdk_43_method_3_code 1 = .ok (.sipush 255, 3) := by decide +kernel
theorem dj43_3_4 : decode jdk_43_method_3_code 4 = .ok (.if_icmp .gt 7, 3) := by decide +kernel
theorem dj43_3_7 : decode jdk_43_method_3_code 7 = .ok (.iconst 1, 1) := by decide +kernel
theorem dj43_3_8 : decode jdk_43_method_3_code 8 = .ok (.goto 4, 3) := by decide +kernel
theorem dj43_3_11 : decode jdk_43_method_3_code 11 = .ok (.iconst 0, 1) := by decide +kernel
theorem dj43_3_12 : decode jdk_43_method_3_code 12 = .ok (.ireturn, 1) := by decide +kernel
theorem dj53_4_0 : decode jdk_53_method_4_code 0 = .ok (.aload_n 0, 1) := by decide +kernel
theorem dj53_4_1 : decode jdk_53_method_4_code 1 = .ok (.getfield 17, 3) := by decide +kernel
theorem dj53_4_4 : decode jdk_53_method_4_code 4 = .ok (.istore_n 1, 1) := by decide +kernel
theorem dj53_4_5 : decode jdk_53_method_4_code 5 = .ok (.aload_n 0, 1) := by decide +kernel
theorem dj53_4_6 : decode jdk_53_method_4_code 6 = .ok (.getfield 7, 3) := by decide +kernel
theorem dj53_4_9 : decode jdk_53_method_4_code 9 = .ok (.iload_n 1, 1) := by decide +kernel
theorem dj53_4_10 : decode jdk_53_method_4_code 10 = .ok (.invokeinterface 24 2, 5) := by decide +kernel
theorem dj53_4_15 : decode jdk_53_method_4_code 15 = .ok (.astore_n 2, 1) := by decide +kernel
theorem dj53_4_16 : decode jdk_53_method_4_code 16 = .ok (.aload_n 0, 1) := by decide +kernel
theorem dj53_4_17 : decode jdk_53_method_4_code 17 = .ok (.iload_n 1, 1) := by decide +kernel
theorem dj53_4_18 : decode jdk_53_method_4_code 18 = .ok (.iconst 1, 1) := by decide +kernel
theorem dj53_4_19 : decode jdk_53_method_4_code 19 = .ok (.iadd, 1) := by decide +kernel
theorem dj53_4_20 : decode jdk_53_method_4_code 20 = .ok (.putfield 17, 3) := by decide +kernel
theorem dj53_4_23 : decode jdk_53_method_4_code 23 = .ok (.aload_n 2, 1) := by decide +kernel
theorem dj53_4_24 : decode jdk_53_method_4_code 24 = .ok (.areturn, 1) := by decide +kernel
theorem dj53_4_25 : decode jdk_53_method_4_code 25 = .ok (.astore_n 1, 1) := by decide +kernel
theorem dj53_4_26 : decode jdk_53_method_4_code 26 = .ok (.new 32, 3) := by decide +kernel
theorem dj53_4_29 : decode jdk_53_method_4_code 29 = .ok (.dup, 1) := by decide +kernel
theorem dj53_4_30 : decode jdk_53_method_4_code 30 = .ok (.invokespecial 34, 3) := by decide +kernel
theorem dj53_4_33 : decode jdk_53_method_4_code 33 = .ok (.athrow, 1) := by decide +kernel
theorem dj44_5_0 : decode jdk_44_method_5_code 0 = .ok (.iload_n 1, 1) := by decide +kernel
theorem dj44_5_1 : decode jdk_44_method_5_code 1 = .ok (.ifCond .ne 8, 3) := by decide +kernel
theorem dj44_5_4 : decode jdk_44_method_5_code 4 = .ok (.aload_n 0, 1) := by decide +kernel
theorem dj44_5_5 : decode jdk_44_method_5_code 5 = .ok (.getfield 13, 3) := by decide +kernel
theorem dj44_5_8 : decode jdk_44_method_5_code 8 = .ok (.areturn, 1) := by decide +kernel
theorem dj44_5_9 : decode jdk_44_method_5_code 9 = .ok (.iload_n 1, 1) := by decide +kernel
theorem dj44_5_10 : decode jdk_44_method_5_code 10 = .ok (.iconst 1, 1) := by decide +kernel
theorem dj44_5_11 : decode jdk_44_method_5_code 11 = .ok (.if_icmp .ne 18, 3) := by decide +kernel
theorem dj44_5_14 : decode jdk_44_method_5_code 14 = .ok (.aload_n 0, 1) := by decide +kernel
theorem dj44_5_15 : decode jdk_44_method_5_code 15 = .ok (.getfield 24, 3) := by decide +kernel
theorem dj44_5_18 : decode jdk_44_method_5_code 18 = .ok (.getstatic 19, 3) := by decide +kernel
theorem dj44_5_21 : decode jdk_44_method_5_code 21 = .ok (.if_acmp .eq 8, 3) := by decide +kernel
theorem dj44_5_24 : decode jdk_44_method_5_code 24 = .ok (.aload_n 0, 1) := by decide +kernel
theorem dj44_5_25 : decode jdk_44_method_5_code 25 = .ok (.getfield 24, 3) := by decide +kernel
theorem dj44_5_28 : decode jdk_44_method_5_code 28 = .ok (.areturn, 1) := by decide +kernel
theorem dj44_5_29 : decode jdk_44_method_5_code 29 = .ok (.aload_n 0, 1) := by decide +kernel
theorem dj44_5_30 : decode jdk_44_method_5_code 30 = .ok (.iload_n 1, 1) := by decide +kernel
theorem dj44_5_31 : decode jdk_44_method_5_code 31 = .ok (.invokevirtual 27, 3) := by decide +kernel
theorem dj44_5_34 : decode jdk_44_method_5_code 34 = .ok (.athrow, 1) := by decide +kernel
theorem dj42_126_0 : decode jdk_42_method_126_code 0 = .ok (.aload_n 0, 1) := by decide +kernel
theorem dj42_126_1 : decode jdk_42_method_126_code 1 = .ok (.areturn, 1) := by decide +kernel
theorem dj44_2_0 : decode jdk_44_method_2_code 0 = .ok (.aload_n 0, 1) := by decide +kernel
theorem dj44_2_1 : decode jdk_44_method_2_code 1 = .ok (.invokespecial 1, 3) := by decide +kernel
theorem dj44_2_4 : decode jdk_44_method_2_code 4 = .ok (.aload_n 0, 1) := by decide +kernel
theorem dj44_2_5 : decode jdk_44_method_2_code 5 = .ok (.aload_n 1, 1) := by decide +kernel
theorem dj44_2_6 : decode jdk_44_method_2_code 6 = .ok (.invokestatic 7, 3) := by decide +kernel
theorem dj44_2_9 : decode jdk_44_method_2_code 9 = .ok (.putfield 13, 3) := by decide +kernel
theorem dj44_2_12 : decode jdk_44_method_2_code 12 = .ok (.aload_n 0, 1) := by decide +kernel
theorem dj44_2_13 : decode jdk_44_method_2_code 13 = .ok (.aload_n 2, 1) := by decide +kernel
theorem dj44_2_14 : decode jdk_44_method_2_code 14 = .ok (.invokestatic 7, 3) := by decide +kernel
theorem dj44_2_17 : decode jdk_44_method_2_code 17 = .ok (.putfield 24, 3) := by decide +kernel
theorem dj44_2_20 : decode jdk_44_method_2_code 20 = .ok (.return_, 1) := by decide +kernel
theorem pd_lJIrC : parseMethodDescriptor "(JI)C" = some ⟨[.long, .int], some .char⟩ := by decide +kernel
theorem pd_lICCCrLjavalangString : parseMethodDescriptor "(ICCC)Ljava/lang/String;" = some ⟨[.int, .char, .char, .char], some (.object "java/lang/String")⟩ := by decide +kernel
theorem pd_lACrV : parseMethodDescriptor "([C)V" = some ⟨[(.array .char)], none⟩ := by decide +kernel
theorem pd_lACIILjavalangVoidrV : parseMethodDescriptor "([CIILjava/lang/Void;)V" = some ⟨[(.array .char), .int, .int, (.object "java/lang/Void")], none⟩ := by decide +kernel
theorem pd_lrV : parseMethodDescriptor "()V" = some ⟨[], none⟩ := by decide +kernel
theorem pd_lLjavalangStringLjavautilListrV : parseMethodDescriptor "(Ljava/lang/String;Ljava/util/List;)V" = some ⟨[(.object "java/lang/String"), (.object "java/util/List")], none⟩ := by decide +kernel
theorem pd_lLjavautilCollectionrLjavautilList : parseMethodDescriptor "(Ljava/util/Collection;)Ljava/util/List;" = some ⟨[(.object "java/util/Collection")], some (.object "java/util/List")⟩ := by decide +kernel
theorem pd_lrZ : parseMethodDescriptor "()Z" = some ⟨[], some .boolean⟩ := by decide +kernel
theorem pd_lrLjavautilList : parseMethodDescriptor "()Ljava/util/List;" = some ⟨[], some (.object "java/util/List")⟩ := by decide +kernel
theorem pd_lrLjavalangString : parseMethodDescriptor "()Ljava/lang/String;" = some ⟨[], some (.object "java/lang/String")⟩ := by decide +kernel
theorem pd_lIrV : parseMethodDescriptor "(I)V" = some ⟨[.int], none⟩ := by decide +kernel
theorem pd_lLjavalangObjectrLjavalangStringBuilder : parseMethodDescriptor "(Ljava/lang/Object;)Ljava/lang/StringBuilder;" = some ⟨[(.object "java/lang/Object")], some (.object "java/lang/StringBuilder")⟩ := by decide +kernel
theorem pd_lLjavalangObjectrLjavalangString : parseMethodDescriptor "(Ljava/lang/Object;)Ljava/lang/String;" = some ⟨[(.object "java/lang/Object")], some (.object "java/lang/String")⟩ := by decide +kernel
theorem pd_lrLjavautilIterator : parseMethodDescriptor "()Ljava/util/Iterator;" = some ⟨[], some (.object "java/util/Iterator")⟩ := by decide +kernel
theorem pd_lrI : parseMethodDescriptor "()I" = some ⟨[], some .int⟩ := by decide +kernel
theorem pd_lLjavautilListIrV : parseMethodDescriptor "(Ljava/util/List;I)V" = some ⟨[(.object "java/util/List"), .int], none⟩ := by decide +kernel
theorem pd_lLjavalangStringrLjavalangStringBuilder : parseMethodDescriptor "(Ljava/lang/String;)Ljava/lang/StringBuilder;" = some ⟨[(.object "java/lang/String")], some (.object "java/lang/StringBuilder")⟩ := by decide +kernel
theorem pd_lLjavalangStringrLjavalangAbstractStringBuilder : parseMethodDescriptor "(Ljava/lang/String;)Ljava/lang/AbstractStringBuilder;" = some ⟨[(.object "java/lang/String")], some (.object "java/lang/AbstractStringBuilder")⟩ := by decide +kernel
theorem pd_lrB : parseMethodDescriptor "()B" = some ⟨[], some .byte⟩ := by decide +kernel
theorem pd_lILjavalangStringrV : parseMethodDescriptor "(ILjava/lang/String;)V" = some ⟨[.int, (.object "java/lang/String")], none⟩ := by decide +kernel
theorem pd_lLjavalangStringrV : parseMethodDescriptor "(Ljava/lang/String;)V" = some ⟨[(.object "java/lang/String")], none⟩ := by decide +kernel
theorem pd_lABIBrV : parseMethodDescriptor "([BIB)V" = some ⟨[(.array .byte), .int, .byte], none⟩ := by decide +kernel
theorem pd_lLjavalangObjectILjavalangObjectIIrV : parseMethodDescriptor "(Ljava/lang/Object;ILjava/lang/Object;II)V" = some ⟨[(.object "java/lang/Object"), .int, (.object "java/lang/Object"), .int, .int], none⟩ := by decide +kernel
theorem pd_lLjavalangStringBuilderrV : parseMethodDescriptor "(Ljava/lang/StringBuilder;)V" = some ⟨[(.object "java/lang/StringBuilder")], none⟩ := by decide +kernel
theorem pd_lLjavalangAbstractStringBuilderLjavalangVoidrV : parseMethodDescriptor "(Ljava/lang/AbstractStringBuilder;Ljava/lang/Void;)V" = some ⟨[(.object "java/lang/AbstractStringBuilder"), (.object "java/lang/Void")], none⟩ := by decide +kernel
theorem pd_lrAB : parseMethodDescriptor "()[B" = some ⟨[], some (.array .byte)⟩ := by decide +kernel
theorem pd_lABIIrAB : parseMethodDescriptor "([BII)[B" = some ⟨[(.array .byte), .int, .int], some (.array .byte)⟩ := by decide +kernel
theorem pd_lIIrV : parseMethodDescriptor "(II)V" = some ⟨[.int, .int], none⟩ := by decide +kernel
theorem pd_lIIrI : parseMethodDescriptor "(II)I" = some ⟨[.int, .int], some .int⟩ := by decide +kernel
theorem pd_lACICrI : parseMethodDescriptor "([CIC)I" = some ⟨[(.array .char), .int, .char], some .int⟩ := by decide +kernel
theorem pd_lACIICCCrI : parseMethodDescriptor "([CIICCC)I" = some ⟨[(.array .char), .int, .int, .char, .char, .char], some .int⟩ := by decide +kernel
theorem pd_lLjavalangStringACIIrZ : parseMethodDescriptor "(Ljava/lang/String;[CII)Z" = some ⟨[(.object "java/lang/String"), (.array .char), .int, .int], some .boolean⟩ := by decide +kernel
theorem pd_lIrC : parseMethodDescriptor "(I)C" = some ⟨[.int], some .char⟩ := by decide +kernel
theorem pd_lABIrC : parseMethodDescriptor "([BI)C" = some ⟨[(.array .byte), .int], some .char⟩ := by decide +kernel
theorem pd_lIILjavautilfunctionBiFunctionrI : parseMethodDescriptor "(IILjava/util/function/BiFunction;)I" = some ⟨[.int, .int, (.object "java/util/function/BiFunction")], some .int⟩ := by decide +kernel
theorem pd_lACIIrAB : parseMethodDescriptor "([CII)[B" = some ⟨[(.array .char), .int, .int], some (.array .byte)⟩ := by decide +kernel
theorem pd_lACIABIIrI : parseMethodDescriptor "([CI[BII)I" = some ⟨[(.array .char), .int, (.array .byte), .int, .int], some .int⟩ := by decide +kernel
theorem pd_lABIrB : parseMethodDescriptor "([BI)B" = some ⟨[(.array .byte), .int], some .byte⟩ := by decide +kernel
theorem pd_lLjavalangObjectrZ : parseMethodDescriptor "(Ljava/lang/Object;)Z" = some ⟨[(.object "java/lang/Object")], some .boolean⟩ := by decide +kernel
theorem pd_lLjavalangObjectALjavalangObjectIrV : parseMethodDescriptor "(Ljava/lang/Object;[Ljava/lang/Object;I)V" = some ⟨[(.object "java/lang/Object"), (.array (.object "java/lang/Object")), .int], none⟩ := by decide +kernel
theorem pd_lrALjavalangObject : parseMethodDescriptor "()[Ljava/lang/Object;" = some ⟨[], some (.array (.object "java/lang/Object"))⟩ := by decide +kernel
theorem pd_lIrALjavalangObject : parseMethodDescriptor "(I)[Ljava/lang/Object;" = some ⟨[.int], some (.array (.object "java/lang/Object"))⟩ := by decide +kernel
theorem pd_lALjavalangObjectIrALjavalangObject : parseMethodDescriptor "([Ljava/lang/Object;I)[Ljava/lang/Object;" = some ⟨[(.array (.object "java/lang/Object")), .int], some (.array (.object "java/lang/Object"))⟩ := by decide +kernel
theorem pd_lrLjavalangClass : parseMethodDescriptor "()Ljava/lang/Class;" = some ⟨[], some (.object "java/lang/Class")⟩ := by decide +kernel
theorem pd_lALjavalangObjectILjavalangClassrALjavalangObject : parseMethodDescriptor "([Ljava/lang/Object;ILjava/lang/Class;)[Ljava/lang/Object;" = some ⟨[(.array (.object "java/lang/Object")), .int, (.object "java/lang/Class")], some (.array (.object "java/lang/Object"))⟩ := by decide +kernel
theorem pd_lALjavalangObjectrLjavautilList : parseMethodDescriptor "([Ljava/lang/Object;)Ljava/util/List;" = some ⟨[(.array (.object "java/lang/Object"))], some (.object "java/util/List")⟩ := by decide +kernel
theorem pd_lLjavalangObjectrV : parseMethodDescriptor "(Ljava/lang/Object;)V" = some ⟨[(.object "java/lang/Object")], none⟩ := by decide +kernel
theorem pd_lLjavalangObjectrLjavalangObject : parseMethodDescriptor "(Ljava/lang/Object;)Ljava/lang/Object;" = some ⟨[(.object "java/lang/Object")], some (.object "java/lang/Object")⟩ := by decide +kernel
theorem pd_lCrLjavalangStringBuilder : parseMethodDescriptor "(C)Ljava/lang/StringBuilder;" = some ⟨[.char], some (.object "java/lang/StringBuilder")⟩ := by decide +kernel
theorem pd_lCrLjavalangAbstractStringBuilder : parseMethodDescriptor "(C)Ljava/lang/AbstractStringBuilder;" = some ⟨[.char], some (.object "java/lang/AbstractStringBuilder")⟩ := by decide +kernel
theorem pd_lCrZ : parseMethodDescriptor "(C)Z" = some ⟨[.char], some .boolean⟩ := by decide +kernel
theorem pd_lrLjavalangObject : parseMethodDescriptor "()Ljava/lang/Object;" = some ⟨[], some (.object "java/lang/Object")⟩ := by decide +kernel
theorem pd_lIrLjavalangObject : parseMethodDescriptor "(I)Ljava/lang/Object;" = some ⟨[.int], some (.object "java/lang/Object")⟩ := by decide +kernel
theorem pd_lLjavalangObjectLjavalangObjectrV : parseMethodDescriptor "(Ljava/lang/Object;Ljava/lang/Object;)V" = some ⟨[(.object "java/lang/Object"), (.object "java/lang/Object")], none⟩ := by decide +kernel
open Own
set_option maxHeartbeats 40000000
set_option maxRecDepth 65536
theorem own_new {a0 : Array Value} {Z : State} (hw : ∀ d ∈ tables_1, d.before a0 Z = true) : ∀ d ∈ StrChars.Road.words, d.before a0 Z = true := fun d hd => hw d ((by decide +kernel : ∀ d ∈ StrChars.Road.words, d ∈ tables_1) d hd)
theorem own_len {a0 : Array Value} {Z : State} (hw : ∀ d ∈ tables_1, d.before a0 Z = true) : ∀ d ∈ StrChars.Road.wordsLen, d.before a0 Z = true := fun d hd => hw d ((by decide +kernel : ∀ d ∈ StrChars.Road.wordsLen, d ∈ tables_1) d hd)
theorem own_ch {a0 : Array Value} {Z : State} (hw : ∀ d ∈ tables_1, d.before a0 Z = true) : ∀ d ∈ StrChars.Road.wordsChN, d.before a0 Z = true := fun d hd => hw d ((by decide +kernel : ∀ d ∈ StrChars.Road.wordsChN, d ∈ tables_1) d hd)
/-! new String(new char[0]), walked: the constant "" is loaded twice -/
section New0
variable {l : Launch} {R : Room} {Z : State} {a0 : Array Value} {EL : List (String × Nat)} {h : Heap} {W : Nat}
abbrev yI4 : MethodName := ⟨"java/lang/String", "<init>", "([CIILjava/lang/Void;)V"⟩
abbrev yI1 : MethodName := ⟨"java/lang/String", "<init>", "([C)V"⟩
theorem own_atoms (hw : ∀ d ∈ tables_1, d.before a0 Z = true) : ∀ a ∈ Bundle.stringAtoms, a.before a0 Z = true := fun d hd => hw d ((by decide +kernel : ∀ d ∈ Bundle.stringAtoms, d ∈ tables_1) d hd)
theorem met_I4z (hw : ∀ d ∈ tables_1, d.before a0 Z = true) (hm : ("java/lang/String", 7) ∈ EL) {x b : Addr} {v0 c0 : Value} (hx : Z.heap.size ≤ x) (E : Exa Z h x "java/lang/String") (V : Fld Z h x "java/lang/String" "value" "[B" v0) (C : Fld Z h x "java/lang/String" "coder" "B" c0) :
    MetW [] l yI4 jdk_42_method_149_code 6 none (Rm 1 4 8 12) #[.ref x, .ref b, .int 0, .int 0, .null] Z a0 EL false [x] h (fun v h' => v = none ∧ Keep h h' [x] ∧ Str Z h' x []) := by
  refine MetW.of (plainFor_of_name (by first | (simp [plainName, overriddenIn]; done) | decide +kernel)) fun X hX => ?_
  show Go X _ _ _ _ _ _ _ _ _ _ _ _ _ _ _ _ (mkF X.m 0 #[.val (.ref x), .val (.ref b), .val (.int 0), .val (.int 0), .val .null, .unset] [])
  have ne : RoadKit.slotOf Z "java/lang/String" "coder" "B" ≠ RoadKit.slotOf Z "java/lang/String" "value" "[B" := slot_ne (Or.inr (wy_String_String_coder hw)) (Or.inr (wy_String_String_value hw)) (by decide) (t := .byte) (t' := .array .byte) (by decide) (by decide)
  refine g_aloadN (pc' := 1) dj42_149_0 rfl rfl rfl ?_
  refine g_objinit (pc' := 4) dj42_149_1 rfl (wl_String_1 hw) (wm_Object_init_lrV hw) (wb_Object_init_lrV hw) rfl rfl rfl ?_
  refine g_iloadN (pc' := 5) dj42_149_4 rfl rfl ?_
  refine g_ifne (pc' := 8) (pc2 := 27) dj42_149_5 rfl (by decide) rfl (fun c5 => ?_) (fun c5 => absurd rfl c5)
  refine g_aloadN (pc' := 9) dj42_149_8 rfl rfl rfl ?_
  refine g_lit (pc' := 11) rfl [] 0 dj42_149_9 rfl (wt_String_7 hw) (own_atoms hw) hm ⟨by decide, rfl⟩ (by decide) (by decide) (by decide) rfl rfl rfl rfl rfl fun h9 a9 E9 T9 n9 => ?_
  have hxa9 : x ≠ a9 := n9 x (List.mem_cons_self ..)
  obtain ⟨t, kb, N2, vs, V9, C9, A9, hcod, -, -⟩ := T9.lat (fun c hc => nomatch hc)
  refine g_getfield (pc' := 14) dj42_149_11 rfl (wf_String_9 hw) V9 ?_
  refine g_putfield (pc' := 17) dj42_149_14 rfl (wf_String_9 hw) (V.ext E9) (E.ext E9) (Or.inr ⟨wy_String_String_value hw, rfl, rfl⟩) (wn_String hw) (ty := .array .byte) (by decide) rfl rfl hx (List.mem_cons_self ..) fun h14 W14 => ?_
  refine g_aloadN (pc' := 18) dj42_149_17 rfl rfl rfl ?_
  refine g_lit (pc' := 20) rfl [] 0 dj42_149_18 rfl (wt_String_7 hw) (own_atoms hw) hm ⟨by decide, rfl⟩ (by decide) (by decide) (by decide) rfl rfl rfl rfl rfl fun h18 a18 E18 T18 n18 => ?_
  obtain ⟨t', kb', N2', vs', V18, C18, A18, -, -, -⟩ := T18.lat (fun c hc => nomatch hc)
  refine g_getfield (pc' := 23) dj42_149_20 rfl (wf_String_15 hw) C18 ?_
  refine g_putfield (pc' := 26) dj42_149_23 rfl (wf_String_15 hw) (((C.ext E9).other W14 (Or.inr ne)).ext E18) (((E.ext E9).wr W14).ext E18) (Or.inr ⟨wy_String_String_coder hw, rfl, rfl⟩) (wn_String hw) (ty := .byte) (by decide) rfl rfl hx (List.mem_cons_self ..) fun h23 W23 => ?_
  have hxt : x ≠ t := (E.ext E9).neArv A9 (wn_String hw)
  have Ex : Exa Z h23 x "java/lang/String" := (((E.ext E9).wr W14).ext E18).wr W23
  have Vx : Fld Z h23 x "java/lang/String" "value" "[B" (.ref t) := (((V.ext E9).same W14).ext E18).other W23 (Or.inr ne.symm)
  have Cx : Fld Z h23 x "java/lang/String" "coder" "B" (.int 0) := (((C.ext E9).other W14 (Or.inr ne)).ext E18).same W23
  have Ax : Arv Z h23 t kb .byte N2 vs (.int 0) := (((A9.other W14 hxt.symm).ext E18).other W23 hxt.symm)
  exact g_return dj42_149_26 rfl rfl rfl ⟨rfl, ((((Keep.refl h [x]).ext E9).wr W14 (Or.inl (List.mem_cons_self ..))).ext E18).wr W23 (Or.inl (List.mem_cons_self ..)), Ex, t, kb, 0, N2, vs, Vx, Cx, Ax, hcod, (fun c hc => nomatch hc), Nat.zero_le _⟩
theorem met_I1z (hw : ∀ d ∈ tables_1, d.before a0 Z = true) (hm : ("java/lang/String", 7) ∈ EL) {x b : Addr} {kC : ClassId} {d v0 c0 : Value} {vs : List Value} (hx : Z.heap.size ≤ x) (E : Exa Z h x "java/lang/String") (V : Fld Z h x "java/lang/String" "value" "[B" v0) (C : Fld Z h x "java/lang/String" "coder" "B" c0) (K : Arv Z h b kC .char 0 vs d) :
    MetW [] l yI1 jdk_42_method_3_code 2 none (Rm 2 4 8 29) #[.ref x, .ref b] Z a0 EL false [x] h (fun v h' => v = none ∧ Keep h h' [x] ∧ Str Z h' x []) := by
  refine MetW.of (plainFor_of_name (by first | (simp [plainName, overriddenIn]; done) | decide +kernel)) fun X hX => ?_
  show Go X _ _ _ _ _ _ _ _ _ _ _ _ _ _ _ _ (mkF X.m 0 #[.val (.ref x), .val (.ref b)] [])
  refine g_aloadN (pc' := 1) dj42_3_0 rfl rfl rfl ?_
  refine g_aloadN (pc' := 2) dj42_3_1 rfl rfl rfl ?_
  refine g_iconst (pc' := 3) (w := 0) dj42_3_2 rfl (by decide) ?_
  refine g_aloadN (pc' := 4) dj42_3_3 rfl rfl rfl ?_
  refine g_arraylength (pc' := 5) dj42_3_4 rfl K ?_
  refine g_aconst_null (pc' := 6) dj42_3_5 rfl ?_
  refine g_invokespecial (pc' := 9) [x] [_, _, _, _] dj42_3_6 rfl rfl (wl_String_27 hw) (wm_String_init_lACIILjavalangVoidrV hw) (wb_String_init_lACIILjavalangVoidrV hw) (by decide) (Pay.of_met (met_I4z hw hm (b := b) hx E V C) (wb_String_init_lACIILjavalangVoidrV hw) (wi_String hw) rfl rfl) pd_lACIILjavalangVoidrV rfl rfl rfl rfl rfl (fun _ q => q) fun v6 h6 q6 l6 => ?_
  obtain ⟨rfl, K6, T6⟩ := q6
  exact g_return dj42_3_9 rfl rfl rfl ⟨rfl, K6, T6⟩
theorem pay_new0 (hw : ∀ d ∈ tables_1, d.before a0 Z = true) (hm : ("java/lang/String", 7) ∈ EL) {x b : Addr} {kC : ClassId} {d v0 c0 : Value} {vs : List Value} (hx : Z.heap.size ≤ x) (E : Exa Z h x "java/lang/String") (V : Fld Z h x "java/lang/String" "value" "[B" v0) (C : Fld Z h x "java/lang/String" "coder" "B" c0) (K : Arv Z h b kC .char 0 vs d) (hf : Nat.ble 3 R.frames = true) (hl : Nat.ble (W + 42) R.locals = true) :
    Pay l R yI1 W #[.ref x, .ref b] Z a0 EL false [x] h 4 8 (fun v h' => v = none ∧ Keep h h' [x] ∧ Str Z h' x []) := Pay.of_met (met_I1z hw hm hx E V C K) (wb_String_init_lACrV hw) (wi_String hw) hf (by exact hl)
end New0
theorem Go.sub {X : Cx} {R : Room} {Z : State} {a0 : Array Value} {EL : List (String × Nat)} {nw : Bool} {y : MethodName} {bs : ByteArray} {ml : Nat} {rt : Option FieldType} {Q : Option Value → Heap → Prop} {kc ks : Nat} {sf : List Addr} (sf' : List Addr) {h : Heap} {k n : Nat} {g : JFrame} (q : ∀ x ∈ sf', x ∈ sf) (G : Go X R Z a0 EL nw y bs ml rt Q kc ks sf' h k n g) : Go X R Z a0 EL nw y bs ml rt Q kc ks sf h k n g := fun T S => by
  obtain ⟨F, vm0, L, X1, eT, hS, hZ, hown, hC, hF, hE, hs, hN⟩ := S
  exact G T ⟨F, vm0, L, X1, eT, hS, hZ, hown, hC, hF, hE, fun x hx => hs x (q x hx), hN⟩
/-! StringBuilder over Latin-1 text: its constructor, append(String), toString, walked -/
section SBs
variable {l : Launch} {R : Room} {Z : State} {a0 : Array Value} {EL : List (String × Nat)} {nw : Bool} {h : Heap} {W : Nat} {z : Int32}
abbrev ASB : String := "java/lang/AbstractStringBuilder"
abbrev SBN : String := "java/lang/StringBuilder"
abbrev l8 (c : Int32) : Int32 := StrChars.lo8 c
abbrev bys (cs : List Int32) : List Value := cs.map fun c => Value.int (StrChars.lo8 c)
/-- at b a StringBuilder that holds cs, in the array t of cap bytes -/
def SBd (Z : State) (h : Heap) (b t : Addr) (cs : List Int32) (cap : Nat) : Prop :=
  Exa Z h b SBN ∧ Fld Z h b ASB "value" "[B" (.ref t) ∧ Fld Z h b ASB "coder" "B" (.int 0) ∧ Fld Z h b ASB "count" "I" (.int (Int32.ofNat cs.length)) ∧ ∃ (kb : ClassId) (vs : List Value), Z.vm.findClass "[B" = some kb ∧ Arv Z h t kb .byte (Int32.ofNat cap) vs (.int 0) ∧ vs.length = cap ∧ vs.take cs.length = bys cs ∧ cs.length ≤ cap ∧ cap ≤ 4000
theorem SBd.ext {h' : Heap} {b t : Addr} {cs : List Int32} {cap : Nat} (S : SBd Z h b t cs cap) (E : Ext h h') : SBd Z h' b t cs cap := by
  obtain ⟨h1, h2, h3, h4, kb, vs, hc, h5, r⟩ := S
  exact ⟨h1.ext E, h2.ext E, h3.ext E, h4.ext E, kb, vs, hc, h5.ext E, r⟩
abbrev yASBi : MethodName := ⟨"java/lang/AbstractStringBuilder", "<init>", "(I)V"⟩
abbrev ySBi : MethodName := ⟨"java/lang/StringBuilder", "<init>", "()V"⟩
abbrev yCod : MethodName := ⟨"java/lang/String", "coder", "()B"⟩
abbrev yInf : MethodName := ⟨"java/lang/AbstractStringBuilder", "inflateIfNeededFor", "(Ljava/lang/String;)V"⟩
abbrev yGBy : MethodName := ⟨"java/lang/String", "getBytes", "([BIB)V"⟩
abbrev yPSA : MethodName := ⟨"java/lang/AbstractStringBuilder", "putStringAt", "(ILjava/lang/String;)V"⟩
theorem sb_ne1 (hw : ∀ d ∈ tables_1, d.before a0 Z = true) : RoadKit.slotOf Z ASB "coder" "B" ≠ RoadKit.slotOf Z ASB "value" "[B" := slot_ne (Or.inl (wy_StringBuilder_AbstractStringBuilder_coder hw)) (Or.inl (wy_StringBuilder_AbstractStringBuilder_value hw)) (by decide) (t := .byte) (t' := .array .byte) (by decide) (by decide)
theorem sb_ne2 (hw : ∀ d ∈ tables_1, d.before a0 Z = true) : RoadKit.slotOf Z ASB "count" "I" ≠ RoadKit.slotOf Z ASB "value" "[B" := slot_ne (Or.inl (wy_StringBuilder_AbstractStringBuilder_count hw)) (Or.inl (wy_StringBuilder_AbstractStringBuilder_value hw)) (by decide) (t := .int) (t' := .array .byte) (by decide) (by decide)
theorem sb_ne3 (hw : ∀ d ∈ tables_1, d.before a0 Z = true) : RoadKit.slotOf Z ASB "count" "I" ≠ RoadKit.slotOf Z ASB "coder" "B" := slot_ne (Or.inl (wy_StringBuilder_AbstractStringBuilder_count hw)) (Or.inl (wy_StringBuilder_AbstractStringBuilder_coder hw)) (by decide) (t := .int) (t' := .byte) (by decide) (by decide)
theorem met_ASBi (hw : ∀ d ∈ tables_1, d.before a0 Z = true) (S : Sta Z Z.heap "java/lang/String" "COMPACT_STRINGS" "Z" (.int z)) (hz : ¬ z = 0) {b : Addr} {v0 c0 : Value} (hb : Z.heap.size ≤ b) (E : Exa Z h b SBN) (Fv : Fld Z h b ASB "value" "[B" v0) (Fc : Fld Z h b ASB "coder" "B" c0) (Fn : Fld Z h b ASB "count" "I" (.int 0)) :
    MetW [] l yASBi jdk_68_method_2_code 2 none (Rm 1 1 16 12) #[.ref b, .int 16] Z a0 EL nw [b] h (fun v h' => v = none ∧ Keep h h' [b] ∧ ∃ t, h.size ≤ t ∧ t < h'.size ∧ SBd Z h' b t [] 16) := by
  refine MetW.of (by first | exact plainFor_of_name (by first | (simp [plainName, overriddenIn]; done) | decide +kernel) | decide +kernel) fun X hX => Go.old fun EZ => ?_
  show Go X _ _ _ _ _ _ _ _ _ _ _ _ _ _ _ _ (mkF X.m 0 #[.val (.ref b), .val (.int 16)] [])
  refine g_aloadN (pc' := 1) dj68_2_0 rfl rfl rfl ?_
  refine g_objinit (pc' := 4) dj68_2_1 rfl (wl_AbstractStringBuilder_3 hw) (wm_Object_init_lrV hw) (wb_Object_init_lrV hw) rfl rfl rfl ?_
  refine g_getstatic (pc' := 7) dj68_2_4 rfl (wf_AbstractStringBuilder_18 hw) (S) ?_
  refine g_ifeq (pc' := 10) (pc2 := 25) dj68_2_7 rfl (by decide) rfl (fun c7 => ?_) (fun c7 => False.elim (hz c7))
  refine g_aloadN (pc' := 11) dj68_2_10 rfl rfl rfl ?_
  refine g_iloadN (pc' := 12) dj68_2_11 rfl rfl ?_
  refine g_newarrayX (pc' := 14) (cap := 16) dj68_2_12 rfl (wa_byte hw) (by decide) (by decide) rfl rfl rfl fun h12 a12 k12 e12 E12 c12 A12 => ?_
  refine g_putfield (pc' := 17) dj68_2_14 rfl (wf_AbstractStringBuilder_15 hw) (Fv.ext E12) (E.ext E12) (Or.inl (wy_StringBuilder_AbstractStringBuilder_value hw)) (wn_StringBuilder hw) (ty := (.array .byte)) (by decide) rfl rfl (hb) (by simp) fun h14 W14 => ?_
  refine g_aloadN (pc' := 18) dj68_2_17 rfl rfl rfl ?_
  refine g_iconst (pc' := 19) (w := 0) dj68_2_18 rfl (by decide) ?_
  refine g_putfield (pc' := 22) dj68_2_19 rfl (wf_AbstractStringBuilder_22 hw) ((Fc.ext E12).other W14 (Or.inr (sb_ne1 hw))) ((E.ext E12).wr W14) (Or.inl (wy_StringBuilder_AbstractStringBuilder_coder hw)) (wn_StringBuilder hw) (ty := .byte) (by decide) rfl rfl (hb) (by simp) fun h19 W19 => ?_
  refine g_goto (pc' := 38) dj68_2_22 (by decide) rfl ?_
  have hne : a12 ≠ b := Nat.ne_of_gt (by rw [e12]; exact E.lt)
  have A : Arv Z h19 a12 k12 .byte 16 (List.replicate 16 (Value.int 0)) (.int 0) := (Arv.other (Arv.other A12 W14 hne) W19 hne)
  refine g_return dj68_2_38 rfl rfl rfl ⟨rfl, (((Keep.refl h [b]).ext E12).wr W14 (Or.inl (List.mem_cons_self ..))).wr W19 (Or.inl (List.mem_cons_self ..)), a12, Nat.le_of_eq e12.symm, A.lt, ((E.ext E12).wr W14).wr W19, ((Fv.ext E12).same W14).other W19 (Or.inr (sb_ne1 hw).symm), ((Fc.ext E12).other W14 (Or.inr (sb_ne1 hw))).same W19, ((Fn.ext E12).other W14 (Or.inr (sb_ne2 hw))).other W19 (Or.inr (sb_ne3 hw)), k12, _, c12, A, rfl, rfl, Nat.zero_le _, by decide⟩
theorem met_SBi (hw : ∀ d ∈ tables_1, d.before a0 Z = true) (S : Sta Z Z.heap "java/lang/String" "COMPACT_STRINGS" "Z" (.int z)) (hz : ¬ z = 0) {b : Addr} {v0 c0 : Value} (hb : Z.heap.size ≤ b) (E : Exa Z h b SBN) (Fv : Fld Z h b ASB "value" "[B" v0) (Fc : Fld Z h b ASB "coder" "B" c0) (Fn : Fld Z h b ASB "count" "I" (.int 0)) :
    MetW [] l ySBi jdk_67_method_1_code 1 none (Rm 2 1 16 30) #[.ref b] Z a0 EL nw [b] h (fun v h' => v = none ∧ Keep h h' [b] ∧ ∃ t, h.size ≤ t ∧ t < h'.size ∧ SBd Z h' b t [] 16) := by
  refine MetW.of (by first | exact plainFor_of_name (by first | (simp [plainName, overriddenIn]; done) | decide +kernel) | decide +kernel) fun X hX => Go.old fun EZ => ?_
  show Go X _ _ _ _ _ _ _ _ _ _ _ _ _ _ _ _ (mkF X.m 0 #[.val (.ref b)] [])
  refine g_aloadN (pc' := 1) dj67_1_0 rfl rfl rfl ?_
  refine g_bipush (pc' := 3) (w := 16) dj67_1_1 rfl (by decide) ?_
  refine g_invokespecial (pc' := 6) [b] [_] dj67_1_3 rfl rfl (wl_StringBuilder_1 hw) (wm_AbstractStringBuilder_init_lIrV hw) (wb_AbstractStringBuilder_init_lIrV hw) (by decide) (Pay.of_met (met_ASBi hw S hz hb E Fv Fc Fn) (wb_AbstractStringBuilder_init_lIrV hw) (wi_AbstractStringBuilder hw) rfl rfl) pd_lIrV rfl rfl rfl rfl rfl (fun _ q => q) fun v3 h3 q3 l3 => ?_
  obtain ⟨rfl, q⟩ := q3
  refine g_return dj67_1_6 rfl rfl rfl (⟨rfl, q⟩)
theorem met_cod (hw : ∀ d ∈ tables_1, d.before a0 Z = true) (S : Sta Z Z.heap "java/lang/String" "COMPACT_STRINGS" "Z" (.int z)) (hz : ¬ z = 0) {x : Addr} {cd : Int32} (hcd : narrow .byte (.int cd) = .int cd) (C : Fld Z h x "java/lang/String" "coder" "B" (.int cd)) : MetW [] l yCod jdk_42_method_152_code 1 (some .byte) (Rm 0 0 0 0) #[.ref x] Z a0 EL nw [] h (fun v h' => v = some (.int cd) ∧ h' = h) := by
  refine MetW.of (by first | exact plainFor_of_name (by first | (simp [plainName, overriddenIn]; done) | decide +kernel) | decide +kernel) fun X hX => Go.old fun EZ => ?_
  show Go X _ _ _ _ _ _ _ _ _ _ _ _ _ _ _ _ (mkF X.m 0 #[.val (.ref x)] [])
  refine g_getstatic (pc' := 3) dj42_152_0 rfl (wf_String_38 hw) (S) ?_
  refine g_ifeq (pc' := 6) (pc2 := 13) dj42_152_3 rfl (by decide) rfl (fun c3 => ?_) (fun c3 => False.elim (hz c3))
  refine g_aloadN (pc' := 7) dj42_152_6 rfl rfl rfl ?_
  refine g_getfield (pc' := 10) dj42_152_7 rfl (wf_String_15 hw) (C) ?_
  refine g_goto (pc' := 14) dj42_152_10 (by decide) rfl ?_
  refine g_ireturn (t := .byte) dj42_152_14 rfl (by simp) (hcd) rfl rfl (⟨rfl, rfl⟩)
theorem met_inf (hw : ∀ d ∈ tables_1, d.before a0 Z = true) (S : Sta Z Z.heap "java/lang/String" "COMPACT_STRINGS" "Z" (.int z)) (hz : ¬ z = 0) {b x : Addr} {cd : Int32} (hcd : narrow .byte (.int cd) = .int cd) (Fc : Fld Z h b ASB "coder" "B" (.int cd)) (E : Exa Z h x "java/lang/String") (C : Fld Z h x "java/lang/String" "coder" "B" (.int cd)) :
    MetW [] l yInf jdk_68_method_71_code 2 none (Rm 1 0 0 13) #[.ref b, .ref x] Z a0 EL nw [] h (fun v h' => v = none ∧ h' = h) := by
  refine MetW.of (by first | exact plainFor_of_name (by first | (simp [plainName, overriddenIn]; done) | decide +kernel) | decide +kernel) fun X hX => Go.old fun EZ => ?_
  show Go X _ _ _ _ _ _ _ _ _ _ _ _ _ _ _ _ (mkF X.m 0 #[.val (.ref b), .val (.ref x)] [])
  refine g_getstatic (pc' := 3) dj68_71_0 rfl (wf_AbstractStringBuilder_18 hw) (S) ?_
  refine g_ifeq (pc' := 6) (pc2 := 21) dj68_71_3 rfl (by decide) rfl (fun c3 => ?_) (fun c3 => False.elim (hz c3))
  refine g_aloadN (pc' := 7) dj68_71_6 rfl rfl rfl ?_
  refine g_getfield (pc' := 10) dj68_71_7 rfl (wf_AbstractStringBuilder_22 hw) (Fc) ?_
  refine g_aloadN (pc' := 11) dj68_71_10 rfl rfl rfl ?_
  refine g_invokevirtual (pc' := 14) [] [] dj68_71_11 rfl (wl_AbstractStringBuilder_40 hw) (wd_String_coder_lrB hw) (wv_String_String_coder_lrB hw) (wm_String_coder_lrB hw) (by decide) (E) (Pay.of_met (met_cod hw S hz hcd C) (wb_String_coder_lrB hw) (wi_String hw) rfl rfl) pd_lrB rfl rfl rfl rfl rfl (fun _ q => nomatch q) fun v11 h11 q11 l11 => ?_
  obtain ⟨rfl, rfl⟩ := q11
  refine g_icmpeq (pc' := 17) (pc2 := 21) dj68_71_14 rfl (by decide) rfl (fun c14 => False.elim (c14 rfl)) (fun c14 => ?_)
  refine g_return dj68_71_21 rfl rfl rfl (⟨rfl, rfl⟩)
theorem shl0 (x : Int32) : x <<< ((0 : Int32) &&& 31) = x := by
  apply Int32.toBitVec_inj.mp
  rw [Int32.toBitVec_shiftLeft]
  have : (((0 : Int32) &&& 31).toBitVec.smod 32) = 0#32 := by decide
  rw [this]
  simp
theorem own_us {ds : List Int32} {vs : List Value} {d : Value} (hv : vs = bys ds) : ((List.range ds.length).map fun i => vs.getD (0 + i) d) = bys ds := by
  subst hv
  apply List.ext_getElem
  · simp
  · intro i h1 h2
    simp at h1 h2
    simp [List.getD_eq_getElem?_getD, h1]
theorem met_GBy (hw : ∀ d ∈ tables_1, d.before a0 Z = true) (S : Sta Z Z.heap "java/lang/String" "COMPACT_STRINGS" "Z" (.int z)) (hz : ¬ z = 0) {x dst : Addr} {kb : ClassId} {vd : List Value} {cap off : Nat} {ds : List Int32} (T : Str Z h x ds) (hds : ∀ c ∈ ds, ¬ (255 : Int32) < c) (hdst : Z.heap.size ≤ dst) (B : Arv Z h dst kb .byte (Int32.ofNat cap) vd (.int 0)) (hcap : cap ≤ 4000) (hvd : vd.length = cap) (hoff : off + ds.length ≤ cap) :
    MetW [] l yGBy jdk_42_method_147_code 4 none (Rm 1 0 0 40) #[.ref x, .ref dst, .int (Int32.ofNat off), .int 0] Z a0 EL nw [dst] h (fun v h' => v = none ∧ Keep h h' [dst] ∧ Arv Z h' dst kb .byte (Int32.ofNat cap) (vd.take off ++ bys ds ++ vd.drop (off + ds.length)) (.int 0)) := by
  obtain ⟨t, kx, N2, vs, V, C, A, hcod, -, hl⟩ := T.lat hds
  obtain ⟨rfl, rfl⟩ : N2 = Int32.ofNat ds.length ∧ vs = bys ds := by
    rcases hcod with ⟨-, q1, q2, -⟩ | ⟨q, -⟩
    · exact ⟨q1, q2⟩
    · exact absurd q (by decide)
  refine MetW.of (by first | exact plainFor_of_name (by first | (simp [plainName, overriddenIn]; done) | decide +kernel) | decide +kernel) fun X hX => Go.old fun EZ => ?_
  show Go X _ _ _ _ _ _ _ _ _ _ _ _ _ _ _ _ (mkF X.m 0 #[.val (.ref x), .val (.ref dst), .val (.int (Int32.ofNat off)), .val (.int 0)] [])
  refine g_aloadN (pc' := 1) dj42_147_0 rfl rfl rfl ?_
  refine g_invokevirtual (pc' := 4) [] [] dj42_147_1 rfl (wl_String_335 hw) (wd_String_coder_lrB hw) (wv_String_String_coder_lrB hw) (wm_String_coder_lrB hw) (by decide) (T.exa) (Pay.of_met (met_cod hw S hz rfl C) (wb_String_coder_lrB hw) (wi_String hw) rfl rfl) pd_lrB rfl rfl rfl rfl rfl (fun _ q => nomatch q) fun v1 h1 q1 l1 => ?_
  obtain ⟨rfl, rfl⟩ := q1
  refine g_iloadN (pc' := 5) dj42_147_4 rfl rfl ?_
  refine g_icmpne (pc' := 8) (pc2 := 28) dj42_147_5 rfl (by decide) rfl (fun c5 => ?_) (fun c5 => False.elim (c5 rfl))
  refine g_aloadN (pc' := 9) dj42_147_8 rfl rfl rfl ?_
  refine g_getfield (pc' := 12) dj42_147_9 rfl (wf_String_9 hw) (V) ?_
  refine g_iconst (pc' := 13) (w := 0) dj42_147_12 rfl (by decide) ?_
  refine g_aloadN (pc' := 14) dj42_147_13 rfl rfl rfl ?_
  refine g_iloadN (pc' := 15) dj42_147_14 rfl rfl ?_
  refine g_iloadN (pc' := 16) dj42_147_15 rfl rfl ?_
  refine g_ishl (pc' := 17) dj42_147_16 rfl ?_
  rw [shl0]
  refine g_aloadN (pc' := 18) dj42_147_17 rfl rfl rfl ?_
  refine g_getfield (pc' := 21) dj42_147_18 rfl (wf_String_9 hw) (V) ?_
  refine g_arraylength (pc' := 22) dj42_147_21 rfl (A) ?_
  refine g_arraycopy (pc' := 25) dj42_147_22 rfl (wl_String_212 hw) (wn_System_arraycopy_lLjavalangObjectILjavalangObjectIIrV hw) (ws_System_arraycopy_lLjavalangObjectILjavalangObjectIIrV hw) (wi_System hw) A B (by decide) (ofNat_nn (by omega)) (ofNat_nn (by omega)) (by rw [ofNat_clamp (by omega)]; show 0 + ds.length ≤ _; omega) (by rw [ofNat_clamp (by omega), ofNat_clamp (by omega), ofNat_clamp (by omega)]; omega) rfl (by rw [ofNat_clamp (by omega), ofNat_clamp (by omega)]; omega) hdst (List.mem_cons_self ..) rfl rfl rfl fun h22 K22 A22 => ?_
  rw [ofNat_clamp (a := off) (by omega), ofNat_clamp (a := ds.length) (by omega)] at A22
  have e0 : (0 : Int32).toNatClampNeg = 0 := rfl
  rw [e0, own_us rfl] at A22
  refine g_goto (pc' := 43) dj42_147_25 (by decide) rfl ?_
  refine g_return dj42_147_43 rfl rfl rfl (⟨rfl, K22, A22⟩)
theorem met_PSA (hw : ∀ d ∈ tables_1, d.before a0 Z = true) (S : Sta Z Z.heap "java/lang/String" "COMPACT_STRINGS" "Z" (.int z)) (hz : ¬ z = 0) {b t x : Addr} {kb : ClassId} {vd : List Value} {cap off : Nat} {ds : List Int32} (E : Exa Z h b SBN) (Fv : Fld Z h b ASB "value" "[B" (.ref t)) (Fc : Fld Z h b ASB "coder" "B" (.int 0)) (T : Str Z h x ds) (hds : ∀ c ∈ ds, ¬ (255 : Int32) < c) (ht : Z.heap.size ≤ t) (B : Arv Z h t kb .byte (Int32.ofNat cap) vd (.int 0)) (hcap : cap ≤ 4000) (hvd : vd.length = cap) (hoff : off + ds.length ≤ cap) :
    MetW [] l yPSA jdk_68_method_73_code 3 none (Rm 2 0 0 60) #[.ref b, .int (Int32.ofNat off), .ref x] Z a0 EL nw [t] h (fun v h' => v = none ∧ Keep h h' [t] ∧ Arv Z h' t kb .byte (Int32.ofNat cap) (vd.take off ++ bys ds ++ vd.drop (off + ds.length)) (.int 0)) := by
  obtain ⟨tx, kx, N2, vs, V, C, A, hcod, -, hl⟩ := T.lat hds
  refine MetW.of (by first | exact plainFor_of_name (by first | (simp [plainName, overriddenIn]; done) | decide +kernel) | decide +kernel) fun X hX => Go.old fun EZ => ?_
  show Go X _ _ _ _ _ _ _ _ _ _ _ _ _ _ _ _ (mkF X.m 0 #[.val (.ref b), .val (.int (Int32.ofNat off)), .val (.ref x)] [])
  refine g_aloadN (pc' := 1) dj68_73_0 rfl rfl rfl ?_
  refine g_aloadN (pc' := 2) dj68_73_1 rfl rfl rfl ?_
  refine g_private (pc' := 5) [] [_] dj68_73_2 rfl (wl_AbstractStringBuilder_397 hw) (wq_AbstractStringBuilder_inflateIfNeededFor_lLjavalangStringrV hw) (wv_StringBuilder_AbstractStringBuilder_inflateIfNeededFor_lLjavalangStringrV hw) (wm_AbstractStringBuilder_inflateIfNeededFor_lLjavalangStringrV hw) (by decide) (wb_AbstractStringBuilder_inflateIfNeededFor_lLjavalangStringrV hw) (E) (Pay.of_met (met_inf hw S hz rfl Fc T.exa C) (wb_AbstractStringBuilder_inflateIfNeededFor_lLjavalangStringrV hw) (wi_AbstractStringBuilder hw) rfl rfl) pd_lLjavalangStringrV rfl rfl rfl rfl rfl (fun _ q => nomatch q) fun v2 h2 q2 l2 => ?_
  obtain ⟨rfl, rfl⟩ := q2
  refine g_aloadN (pc' := 6) dj68_73_5 rfl rfl rfl ?_
  refine g_aloadN (pc' := 7) dj68_73_6 rfl rfl rfl ?_
  refine g_getfield (pc' := 10) dj68_73_7 rfl (wf_AbstractStringBuilder_15 hw) (Fv) ?_
  refine g_iloadN (pc' := 11) dj68_73_10 rfl rfl ?_
  refine g_aloadN (pc' := 12) dj68_73_11 rfl rfl rfl ?_
  refine g_getfield (pc' := 15) dj68_73_12 rfl (wf_AbstractStringBuilder_22 hw) (Fc) ?_
  refine g_invokevirtual (pc' := 18) [t] [_, _, _] dj68_73_15 rfl (wl_AbstractStringBuilder_399 hw) (wd_String_getBytes_lABIBrV hw) (wv_String_String_getBytes_lABIBrV hw) (wm_String_getBytes_lABIBrV hw) (by decide) (T.exa) (Pay.of_met (met_GBy hw S hz T hds ht B hcap hvd hoff) (wb_String_getBytes_lABIBrV hw) (wi_String hw) rfl rfl) pd_lABIBrV rfl rfl rfl rfl rfl (fun _ q => q) fun v15 h15 q15 l15 => ?_
  obtain ⟨rfl, K15, A15⟩ := q15
  refine g_return dj68_73_18 rfl rfl rfl (⟨rfl, K15, A15⟩)
theorem shr0 (x : Int32) : x >>> ((0 : Int32) &&& 31) = x := by
  apply Int32.toBitVec_inj.mp
  rw [Int32.toBitVec_shiftRight]
  have : (((0 : Int32) &&& 31).toBitVec.smod 32) = 0#32 := by decide
  rw [this]
  simp
theorem ofNat_sub {a b : Nat} (q : b ≤ a) : Int32.ofNat a - Int32.ofNat b = Int32.ofNat (a - b) := by
  have : a = (a - b) + b := by omega
  rw [this, Int32.ofNat_add]
  simp
theorem ofNat_add2 (a b : Nat) : Int32.ofNat a + Int32.ofNat b = Int32.ofNat (a + b) := (Int32.ofNat_add ..).symm
abbrev yMax : MethodName := ⟨"java/lang/Math", "max", "(II)I"⟩
abbrev yMin : MethodName := ⟨"java/lang/Math", "min", "(II)I"⟩
abbrev yNL : MethodName := ⟨"jdk/internal/util/ArraysSupport", "newLength", "(III)I"⟩
abbrev yNC : MethodName := ⟨"java/lang/AbstractStringBuilder", "newCapacity", "(I)I"⟩
abbrev yCO : MethodName := ⟨"java/util/Arrays", "copyOf", "([BI)[B"⟩
abbrev yECI : MethodName := ⟨"java/lang/AbstractStringBuilder", "ensureCapacityInternal", "(I)V"⟩
abbrev yApS : MethodName := ⟨"java/lang/AbstractStringBuilder", "append", "(Ljava/lang/String;)Ljava/lang/AbstractStringBuilder;"⟩
abbrev ySApS : MethodName := ⟨"java/lang/StringBuilder", "append", "(Ljava/lang/String;)Ljava/lang/StringBuilder;"⟩
theorem met_max (hw : ∀ d ∈ tables_1, d.before a0 Z = true) {a b : Nat} (ha : a < 100000) (hb : b < 100000) : MetW [] l yMax jdk_29_method_65_code 2 (some .int) (Rm 0 0 0 0) #[.int (Int32.ofNat a), .int (Int32.ofNat b)] Z a0 EL nw [] h (fun v h' => v = some (.int (Int32.ofNat (max a b))) ∧ h' = h) := by
  refine MetW.of (by first | exact plainFor_of_name (by first | (simp [plainName, overriddenIn]; done) | decide +kernel) | decide +kernel) fun X hX => Go.old fun EZ => ?_
  show Go X _ _ _ _ _ _ _ _ _ _ _ _ _ _ _ _ (mkF X.m 0 #[.val (.int (Int32.ofNat a)), .val (.int (Int32.ofNat b))] [])
  refine g_iloadN (pc' := 1) dj29_65_0 rfl rfl ?_
  refine g_iloadN (pc' := 2) dj29_65_1 rfl rfl ?_
  refine g_icmplt (pc' := 5) (pc2 := 9) dj29_65_2 rfl (by decide) rfl (fun c2 => ?_) (fun c2 => ?_)
  · refine g_iloadN (pc' := 6) dj29_65_5 rfl rfl ?_
    refine g_goto (pc' := 10) dj29_65_6 (by decide) rfl ?_
    rw [ofNat_lt (by omega) (by omega)] at c2
    refine g_ireturn (t := .int) dj29_65_10 rfl (by simp) rfl rfl rfl (⟨by rw [Nat.max_eq_left (by omega)], rfl⟩)
  · refine g_iloadN (pc' := 10) dj29_65_9 rfl rfl ?_
    rw [ofNat_lt (by omega) (by omega)] at c2
    refine g_ireturn (t := .int) dj29_65_10 rfl (by simp) rfl rfl rfl (⟨by rw [Nat.max_eq_right (by omega)], rfl⟩)
theorem met_min (hw : ∀ d ∈ tables_1, d.before a0 Z = true) {a b : Nat} (ha : a < 100000) (hb : b < 100000) : MetW [] l yMin jdk_29_method_69_code 2 (some .int) (Rm 0 0 0 0) #[.int (Int32.ofNat a), .int (Int32.ofNat b)] Z a0 EL nw [] h (fun v h' => v = some (.int (Int32.ofNat (min a b))) ∧ h' = h) := by
  refine MetW.of (by first | exact plainFor_of_name (by first | (simp [plainName, overriddenIn]; done) | decide +kernel) | decide +kernel) fun X hX => Go.old fun EZ => ?_
  show Go X _ _ _ _ _ _ _ _ _ _ _ _ _ _ _ _ (mkF X.m 0 #[.val (.int (Int32.ofNat a)), .val (.int (Int32.ofNat b))] [])
  refine g_iloadN (pc' := 1) dj29_69_0 rfl rfl ?_
  refine g_iloadN (pc' := 2) dj29_69_1 rfl rfl ?_
  refine g_icmpgt (pc' := 5) (pc2 := 9) dj29_69_2 rfl (by decide) rfl (fun c2 => ?_) (fun c2 => ?_)
  · refine g_iloadN (pc' := 6) dj29_69_5 rfl rfl ?_
    refine g_goto (pc' := 10) dj29_69_6 (by decide) rfl ?_
    rw [ofNat_lt (by omega) (by omega)] at c2
    refine g_ireturn (t := .int) dj29_69_10 rfl (by simp) rfl rfl rfl (⟨by rw [Nat.min_eq_left (by omega)], rfl⟩)
  · refine g_iloadN (pc' := 10) dj29_69_9 rfl rfl ?_
    rw [ofNat_lt (by omega) (by omega)] at c2
    refine g_ireturn (t := .int) dj29_69_10 rfl (by simp) rfl rfl rfl (⟨by rw [Nat.min_eq_right (by omega)], rfl⟩)
theorem us_all {vs : List Value} {n : Nat} {d : Value} (hv : vs.length = n) : ((List.range n).map fun i => vs.getD (0 + i) d) = vs := by
  subst hv
  apply List.ext_getElem
  · simp
  · intro i h1 h2
    simp at h1 h2
    simp [List.getD_eq_getElem?_getD, h2]
theorem sub_le {a c : Nat} (q : a ≤ c) (hc : c < 100000) : ¬ (0 : Int32) < Int32.ofNat a - Int32.ofNat c := by
  rw [Int32.lt_iff_toInt_lt, Int32.toInt_sub, toInt_ofNat (by omega), toInt_ofNat (by omega)]
  have z : (0 : Int32).toInt = 0 := rfl
  rw [z]
  have : ((a : Int) - c).bmod (2 ^ 32) = (a : Int) - c := by rw [Int.bmod_def]; omega
  omega
theorem sub_gt {a c : Nat} (q : c < a) (hc : a < 100000) : (0 : Int32) < Int32.ofNat a - Int32.ofNat c := by
  rw [ofNat_sub (by omega)]
  exact (ofNat_lt (a := 0) (by omega) (by omega)).mpr (by omega)
abbrev capOf (N cap : Nat) : Nat := if N ≤ cap then cap else max N (2 * cap + 2)
theorem met_ECI0 (hw : ∀ d ∈ tables_1, d.before a0 Z = true) {b t : Addr} {cs : List Int32} {cap N : Nat} (B : SBd Z h b t cs cap) (hN : N ≤ cap) : MetW [] l yECI jdk_68_method_9_code 3 none (Rm 0 0 0 0) #[.ref b, .int (Int32.ofNat N)] Z a0 EL nw [] h (fun v h' => v = none ∧ h' = h) := by
  obtain ⟨E, Fv, Fc, Fn, kb, vs, hc, A, hvs, htk, hle, h4⟩ := B
  refine MetW.of (by first | exact plainFor_of_name (by first | (simp [plainName, overriddenIn]; done) | decide +kernel) | decide +kernel) fun X hX => Go.old fun EZ => ?_
  show Go X _ _ _ _ _ _ _ _ _ _ _ _ _ _ _ _ (mkF X.m 0 #[.val (.ref b), .val (.int (Int32.ofNat N)), .unset] [])
  refine g_aloadN (pc' := 1) dj68_9_0 rfl rfl rfl ?_
  refine g_getfield (pc' := 4) dj68_9_1 rfl (wf_AbstractStringBuilder_15 hw) (Fv) ?_
  refine g_arraylength (pc' := 5) dj68_9_4 rfl (A) ?_
  refine g_aloadN (pc' := 6) dj68_9_5 rfl rfl rfl ?_
  refine g_getfield (pc' := 9) dj68_9_6 rfl (wf_AbstractStringBuilder_22 hw) (Fc) ?_
  refine g_ishr (pc' := 10) dj68_9_9 rfl ?_
  rw [shr0]
  refine g_istoreN (pc' := 11) (Ls' := #[_, _, _]) dj68_9_10 rfl rfl ?_
  refine g_iloadN (pc' := 12) dj68_9_11 rfl rfl ?_
  refine g_iloadN (pc' := 13) dj68_9_12 rfl rfl ?_
  refine g_isub (pc' := 14) dj68_9_13 rfl ?_
  refine g_ifle (pc' := 17) (pc2 := 38) dj68_9_14 rfl (by decide) rfl (fun c14 => False.elim (sub_le hN (by omega) c14)) (fun c14 => ?_)
  refine g_return dj68_9_38 rfl rfl rfl (⟨rfl, rfl⟩)
theorem asb_ni (hw : ∀ d ∈ tables_1, d.before a0 Z = true) : NI Z ASB := NI.sel (wv_StringBuilder_AbstractStringBuilder_ensureCapacityInternal_lIrV hw)
theorem nf_ni {y : MethodName} (q : NI Z y.cls) : NF Z y := fun s hZ r0 h0 => by
  obtain ⟨c, k, q1, q2, q3⟩ := q
  have e := findClass_of_methodNamed h0
  rw [hZ.alike.findClass] at e
  cases q1.symm.trans e
  obtain ⟨k', z2, z3⟩ := hZ.alike.2.2 _ _ q2
  exact ⟨k', z2, by rw [← q3, z3]; rfl⟩
theorem str_keepW {b x : Addr} {h' : Heap} {C : String} {nI : Nat} {ds : List Int32} (T : Str Z h x ds) (E : Exa Z h b C) (w : (Jvm.Cond.instantiable C nI).before a0 Z = true) (hC : C ≠ "java/lang/String") (K : Keep h h' [b]) : Str Z h' x ds := by
  obtain ⟨E1, t, kb, cd, N2, vs, V, D, A, r⟩ := T
  have q1 : x ∉ [b] := fun q => by cases List.mem_singleton.mp q; exact E.ne E1 hC rfl
  have q2 : t ∉ [b] := fun q => by cases List.mem_singleton.mp q; exact E.neArv A w rfl
  exact ⟨E1.keep K, t, kb, cd, N2, vs, V.keep K q1, D.keep K q1, A.keep K q2, r⟩
abbrev yGV : MethodName := ⟨"java/lang/AbstractStringBuilder", "getValue", "()[B"⟩
abbrev yAL : MethodName := ⟨"java/lang/AbstractStringBuilder", "length", "()I"⟩
abbrev ySL : MethodName := ⟨"java/lang/StringBuilder", "length", "()I"⟩
abbrev yAI : MethodName := ⟨"java/lang/AbstractStringBuilder", "isLatin1", "()Z"⟩
abbrev yCR : MethodName := ⟨"java/util/Arrays", "copyOfRange", "([BII)[B"⟩
abbrev yIA : MethodName := ⟨"java/lang/String", "<init>", "(Ljava/lang/AbstractStringBuilder;Ljava/lang/Void;)V"⟩
abbrev yIS : MethodName := ⟨"java/lang/String", "<init>", "(Ljava/lang/StringBuilder;)V"⟩
abbrev yTS : MethodName := ⟨"java/lang/StringBuilder", "toString", "()Ljava/lang/String;"⟩
theorem met_GV (hw : ∀ d ∈ tables_1, d.before a0 Z = true) {b t : Addr} (Fv : Fld Z h b ASB "value" "[B" (.ref t)) : MetW [] l yGV jdk_68_method_64_code 1 (some (.array .byte)) (Rm 0 0 0 0) #[.ref b] Z a0 EL nw [] h (fun v h' => v = some (.ref t) ∧ h' = h) := by
  refine MetW.of (by first | exact plainFor_of_name (by first | (simp [plainName, overriddenIn]; done) | decide +kernel) | decide +kernel) fun X hX => Go.old fun EZ => ?_
  show Go X _ _ _ _ _ _ _ _ _ _ _ _ _ _ _ _ (mkF X.m 0 #[.val (.ref b)] [])
  refine g_aloadN (pc' := 1) dj68_64_0 rfl rfl rfl ?_
  refine g_getfield (pc' := 4) dj68_64_1 rfl (wf_AbstractStringBuilder_15 hw) (Fv) ?_
  refine g_areturn dj68_64_4 rfl rfl rfl rfl rfl rfl (⟨rfl, rfl⟩)
theorem met_AL (hw : ∀ d ∈ tables_1, d.before a0 Z = true) {b : Addr} {n : Int32} (Fn : Fld Z h b ASB "count" "I" (.int n)) : MetW [] l yAL jdk_68_method_6_code 1 (some .int) (Rm 0 0 0 0) #[.ref b] Z a0 EL nw [] h (fun v h' => v = some (.int n) ∧ h' = h) := by
  refine MetW.of (by first | exact plainFor_of_name (by first | (simp [plainName, overriddenIn]; done) | decide +kernel) | decide +kernel) fun X hX => Go.old fun EZ => ?_
  show Go X _ _ _ _ _ _ _ _ _ _ _ _ _ _ _ _ (mkF X.m 0 #[.val (.ref b)] [])
  refine g_aloadN (pc' := 1) dj68_6_0 rfl rfl rfl ?_
  refine g_getfield (pc' := 4) dj68_6_1 rfl (wf_AbstractStringBuilder_79 hw) (Fn) ?_
  refine g_ireturn (t := .int) dj68_6_4 rfl (by simp) rfl rfl rfl (⟨rfl, rfl⟩)
theorem met_SL (hw : ∀ d ∈ tables_1, d.before a0 Z = true) {b : Addr} {n : Int32} (E : Exa Z h b SBN) (Fn : Fld Z h b ASB "count" "I" (.int n)) : MetW [] l ySL jdk_67_method_93_code 1 (some .int) (Rm 1 0 0 20) #[.ref b] Z a0 EL nw [] h (fun v h' => v = some (.int n) ∧ h' = h) := by
  refine MetW.of (by first | exact plainFor_of_name (by first | (simp [plainName, overriddenIn]; done) | decide +kernel) | decide +kernel) fun X hX => Go.old fun EZ => ?_
  show Go X _ _ _ _ _ _ _ _ _ _ _ _ _ _ _ _ (mkF X.m 0 #[.val (.ref b)] [])
  refine g_aloadN (pc' := 1) dj67_93_0 rfl rfl rfl ?_
  refine g_super (pc' := 4) [] [] dj67_93_1 rfl (by decide) (wl_StringBuilder_343 hw) (wm_AbstractStringBuilder_length_lrI hw) (wz_StringBuilder_AbstractStringBuilder hw) (asb_ni hw) (Ins.self E) (wb_AbstractStringBuilder_length_lrI hw) (by decide) (Pay.of_met (met_AL hw Fn) (wb_AbstractStringBuilder_length_lrI hw) (wi_AbstractStringBuilder hw) rfl rfl) pd_lrI rfl rfl rfl rfl rfl (fun _ q => nomatch q) fun v1 h1 q1 l1 => ?_
  obtain ⟨rfl, rfl⟩ := q1
  refine g_ireturn (t := .int) dj67_93_4 rfl (by simp) rfl rfl rfl (⟨rfl, rfl⟩)
theorem met_AI (hw : ∀ d ∈ tables_1, d.before a0 Z = true) (S : Sta Z Z.heap "java/lang/String" "COMPACT_STRINGS" "Z" (.int z)) (hz : ¬ z = 0) {b : Addr} {cd : Int32} (Fc : Fld Z h b ASB "coder" "B" (.int cd)) : MetW [] l yAI jdk_68_method_68_code 1 (some .boolean) (Rm 0 0 0 0) #[.ref b] Z a0 EL nw [] h (fun v h' => v = some (.int (if cd = 0 then 1 else 0)) ∧ h' = h) := by
  refine MetW.of (by first | exact plainFor_of_name (by first | (simp [plainName, overriddenIn]; done) | decide +kernel) | decide +kernel) fun X hX => Go.old fun EZ => ?_
  show Go X _ _ _ _ _ _ _ _ _ _ _ _ _ _ _ _ (mkF X.m 0 #[.val (.ref b)] [])
  refine g_getstatic (pc' := 3) dj68_68_0 rfl (wf_AbstractStringBuilder_18 hw) (S) ?_
  refine g_ifeq (pc' := 6) (pc2 := 17) dj68_68_3 rfl (by decide) rfl (fun c3 => ?_) (fun c3 => False.elim (hz c3))
  refine g_aloadN (pc' := 7) dj68_68_6 rfl rfl rfl ?_
  refine g_getfield (pc' := 10) dj68_68_7 rfl (wf_AbstractStringBuilder_22 hw) (Fc) ?_
  refine g_ifne (pc' := 13) (pc2 := 17) dj68_68_10 rfl (by decide) rfl (fun c10 => ?_) (fun c10 => ?_)
  · refine g_iconst (pc' := 14) (w := 1) dj68_68_13 rfl (by decide) ?_
    refine g_goto (pc' := 18) dj68_68_14 (by decide) rfl ?_
    refine g_ireturn (t := .boolean) dj68_68_18 rfl (by simp) rfl rfl rfl (⟨by rw [if_pos (by simpa using c10)], rfl⟩)
  · refine g_iconst (pc' := 18) (w := 0) dj68_68_17 rfl (by decide) ?_
    refine g_ireturn (t := .boolean) dj68_68_18 rfl (by simp) rfl rfl rfl (⟨by rw [if_neg (by simpa using c10)], rfl⟩)
end SBs
/-! Arrays.copyOfRange by copyOfRangeByte, and toString over it -/
section CRBs
variable {l : Launch} {R : Room} {Z : State} {a0 : Array Value} {EL : List (String × Nat)} {nw : Bool} {h : Heap} {W : Nat} {z : Int32}
abbrev yCL : MethodName := ⟨"java/util/Arrays", "checkLength", "(II)V"⟩
abbrev yCRB : MethodName := ⟨"java/util/Arrays", "copyOfRangeByte", "([BII)[B"⟩
theorem met_CL (hw : ∀ d ∈ tables_1, d.before a0 Z = true) {n : Nat} (hn : n ≤ 100000) : MetW [] l yCL jdk_65_method_131_code 2 none (Rm 0 0 0 0) #[.int 0, .int (Int32.ofNat n)] Z a0 EL nw [] h (fun v h' => v = none ∧ h' = h) := by
  refine MetW.of (by first | exact plainFor_of_name (by first | (simp [plainName, overriddenIn]; done) | decide +kernel) | decide +kernel) fun X hX => Go.old fun EZ => ?_
  show Go X _ _ _ _ _ _ _ _ _ _ _ _ _ _ _ _ (mkF X.m 0 #[.val (.int 0), .val (.int (Int32.ofNat n))] [])
  refine g_iloadN (pc' := 1) dj65_131_0 rfl rfl ?_
  refine g_iloadN (pc' := 2) dj65_131_1 rfl rfl ?_
  refine g_icmpge (pc' := 5) (pc2 := 37) dj65_131_2 rfl (by decide) rfl (fun c2 => False.elim (ofNat_nn (by omega) c2)) (fun c2 => ?_)
  refine g_return dj65_131_37 rfl rfl rfl (⟨rfl, rfl⟩)
theorem sub0 (x : Int32) : x - 0 = x := by simp
theorem us_take {vs : List Value} {n : Nat} {d : Value} (hv : n ≤ vs.length) : ((List.range n).map fun i => vs.getD (0 + i) d) = vs.take n := by
  apply List.ext_getElem
  · simp; omega
  · intro i h1 h2
    have h3 : i < vs.length := by simp at h1; omega
    simp [List.getD_eq_getElem?_getD, List.getElem?_eq_getElem h3]
theorem met_CRB (hw : ∀ d ∈ tables_1, d.before a0 Z = true) (EZ : Ext Z.heap h) {t : Addr} {kb : ClassId} {cap n : Nat} {vs : List Value} (A : Arv Z h t kb .byte (Int32.ofNat cap) vs (.int 0)) (hvs : vs.length = cap) (hcap : cap ≤ 4000) (hn : n ≤ cap) (hW : n ≤ W) : MetW [] l yCRB jdk_65_method_133_code 5 (some (.array .byte)) (Rm 1 1 W 40) #[.ref t, .int 0, .int (Int32.ofNat n)] Z a0 EL nw [] h (fun v h' => ∃ t' kb', v = some (.ref t') ∧ h.size ≤ t' ∧ t' < h'.size ∧ Ext h h' ∧ Arv Z h' t' kb' .byte (Int32.ofNat n) (vs.take n) (.int 0)) := by
  refine MetW.of (by first | exact plainFor_of_name (by first | (simp [plainName, overriddenIn]; done) | decide +kernel) | decide +kernel) fun X hX => Go.old fun EZ => ?_
  show Go X _ _ _ _ _ _ _ _ _ _ _ _ _ _ _ _ (mkF X.m 0 #[.val (.ref t), .val (.int 0), .val (.int (Int32.ofNat n)), .unset, .unset] [])
  refine g_iloadN (pc' := 1) dj65_133_0 rfl rfl ?_
  refine g_iloadN (pc' := 2) dj65_133_1 rfl rfl ?_
  refine g_invokestatic (pc' := 5) [] [_, _] dj65_133_2 rfl (wl_Arrays_343 hw) (ws_Arrays_checkLength_lIIrV hw) (wi_Arrays hw) (wb_Arrays_checkLength_lIIrV hw) (by decide) (Pay.of_met (met_CL hw (by omega)) (wb_Arrays_checkLength_lIIrV hw) (wi_Arrays hw) rfl rfl) pd_lIIrV rfl rfl rfl rfl (bl (Nat.zero_le _)) (fun _ q => nomatch q) fun v2 h2 q2 l2 => ?_
  obtain ⟨rfl, e2⟩ := q2
  have e2 := e2.symm
  subst e2
  refine g_iloadN (pc' := 6) dj65_133_5 rfl rfl ?_
  refine g_iloadN (pc' := 7) dj65_133_6 rfl rfl ?_
  refine g_isub (pc' := 8) dj65_133_7 rfl ?_
  rw [sub0]
  refine g_istoreN (pc' := 9) (Ls' := #[_, _, _, _, _]) dj65_133_8 rfl rfl ?_
  refine g_iloadN (pc' := 10) dj65_133_9 rfl rfl ?_
  refine g_newarrayX (pc' := 12) (cap := n) dj65_133_10 rfl (wa_byte hw) (ofNat_nn (by omega)) (ofNat_clamp (by omega)) (bl (by omega)) rfl (bl (by show 0 + 0 + n ≤ W; omega)) fun h10 a10 k10 e10 E10 c10 A10 => ?_
  refine g_astore (pc' := 14) (Ls' := #[_, _, _, _, _]) dj65_133_12 rfl rfl rfl ?_
  refine g_aloadN (pc' := 15) dj65_133_14 rfl rfl rfl ?_
  refine g_iloadN (pc' := 16) dj65_133_15 rfl rfl ?_
  refine g_aload (pc' := 18) dj65_133_16 rfl rfl rfl ?_
  refine g_iconst (pc' := 19) (w := 0) dj65_133_18 rfl (by decide) ?_
  refine g_aloadN (pc' := 20) dj65_133_19 rfl rfl rfl ?_
  refine g_arraylength (pc' := 21) dj65_133_20 rfl ((A.ext E10)) ?_
  refine g_iloadN (pc' := 22) dj65_133_21 rfl rfl ?_
  refine g_isub (pc' := 23) dj65_133_22 rfl ?_
  rw [sub0]
  refine g_iloadN (pc' := 24) dj65_133_23 rfl rfl ?_
  refine g_invokestatic (pc' := 27) [] [_, _] dj65_133_24 rfl (wl_Arrays_304 hw) (ws_Math_min_lIIrI hw) (wi_Math hw) (wb_Math_min_lIIrI hw) (by decide) (Pay.of_met (met_min hw (by omega) (by omega)) (wb_Math_min_lIIrI hw) (wi_Math hw) rfl rfl) pd_lIIrI rfl rfl rfl rfl (bl (by show 0 + 0 + n + 0 ≤ W; omega)) (fun _ q => nomatch q) fun v24 h24 q24 l24 => ?_
  obtain ⟨rfl, rfl⟩ := q24
  rw [Nat.min_eq_right (by omega)]
  refine g_arraycopy (pc' := 30) dj65_133_27 rfl (wl_Arrays_150 hw) (wn_System_arraycopy_lLjavalangObjectILjavalangObjectIIrV hw) (ws_System_arraycopy_lLjavalangObjectILjavalangObjectIIrV hw) (wi_System hw) (A.ext E10) A10 (by decide) (by decide) (ofNat_nn (by omega)) (by rw [ofNat_clamp (by omega), ofNat_clamp (by omega)]; show 0 + n ≤ _; omega) (by rw [ofNat_clamp (by omega)]; show 0 + n ≤ _; omega) rfl (by rw [ofNat_clamp (by omega)]; show 0 + n ≤ _; rw [List.length_replicate]; omega) (by rw [e10]; exact EZ.1) (List.mem_cons_self ..) rfl rfl rfl fun h27 K27 A27 => ?_
  have e0 : (0 : Int32).toNatClampNeg = 0 := rfl
  rw [e0, ofNat_clamp (a := n) (by omega), us_take (by omega)] at A27
  simp only [List.take_zero, List.nil_append, Nat.zero_add, List.drop_replicate, Nat.sub_self, List.replicate_zero, List.append_nil] at A27
  refine g_aload (pc' := 32) dj65_133_30 rfl rfl rfl ?_
  refine g_areturn dj65_133_32 rfl rfl rfl rfl rfl (bl (by show 0 + 0 + n + 0 ≤ W; omega)) ⟨a10, k10, rfl, Nat.le_of_eq e10.symm, A27.lt, ext_keep E10 K27 (allS (Nat.le_of_eq e10.symm) all0), A27⟩
/-- copyOfRange(t, 0, n), the short road -/
theorem met_CRs (hw : ∀ d ∈ tables_1, d.before a0 Z = true) (EZ : Ext Z.heap h) {t : Addr} {kb : ClassId} {cap n : Nat} {vs : List Value} (A : Arv Z h t kb .byte (Int32.ofNat cap) vs (.int 0)) (hvs : vs.length = cap) (hcap : cap ≤ 4000) (hn : n < cap) (hW : n ≤ W) : MetW [] l yCR jdk_65_method_132_code 3 (some (.array .byte)) (Rm 2 1 W 60) #[.ref t, .int 0, .int (Int32.ofNat n)] Z a0 EL nw [] h (fun v h' => ∃ t' kb', v = some (.ref t') ∧ h.size ≤ t' ∧ t' < h'.size ∧ Ext h h' ∧ Arv Z h' t' kb' .byte (Int32.ofNat n) (vs.take n) (.int 0)) := by
  refine MetW.of (by first | exact plainFor_of_name (by first | (simp [plainName, overriddenIn]; done) | decide +kernel) | decide +kernel) fun X hX => Go.old fun EZ => ?_
  show Go X _ _ _ _ _ _ _ _ _ _ _ _ _ _ _ _ (mkF X.m 0 #[.val (.ref t), .val (.int 0), .val (.int (Int32.ofNat n))] [])
  refine g_iloadN (pc' := 1) dj65_132_0 rfl rfl ?_
  refine g_ifne (pc' := 4) (pc2 := 10) dj65_132_1 rfl (by decide) rfl (fun c1 => ?_) (fun c1 => False.elim (c1 rfl))
  refine g_iloadN (pc' := 5) dj65_132_4 rfl rfl ?_
  refine g_aloadN (pc' := 6) dj65_132_5 rfl rfl rfl ?_
  refine g_arraylength (pc' := 7) dj65_132_6 rfl (A) ?_
  refine g_icmpeq (pc' := 10) (pc2 := 17) dj65_132_7 rfl (by decide) rfl (fun c7 => ?_) (fun c7 => False.elim (absurd ((ofNat_inj (by omega) (by omega)).mp c7) (by omega)))
  refine g_aloadN (pc' := 11) dj65_132_10 rfl rfl rfl ?_
  refine g_iloadN (pc' := 12) dj65_132_11 rfl rfl ?_
  refine g_iloadN (pc' := 13) dj65_132_12 rfl rfl ?_
  refine g_invokestatic (pc' := 16) [] [_, _, _] dj65_132_13 rfl (wl_Arrays_339 hw) (ws_Arrays_copyOfRangeByte_lABIIrAB hw) (wi_Arrays hw) (wb_Arrays_copyOfRangeByte_lABIIrAB hw) (by decide) (Pay.of_met (met_CRB (W := W) hw EZ A hvs hcap (by omega) hW) (wb_Arrays_copyOfRangeByte_lABIIrAB hw) (wi_Arrays hw) rfl rfl) pd_lABIIrAB rfl rfl rfl rfl (bl (by show 0 + W ≤ W; omega)) (fun _ q => nomatch q) fun v13 h13 q13 l13 => ?_
  obtain ⟨t', kb', rfl, r⟩ := q13
  refine g_areturn dj65_132_16 rfl rfl rfl rfl rfl (bl (by show 0 + W ≤ W; omega)) ⟨t', kb', rfl, r⟩
/-- whoever pays copyOfRange(t, 0, n) -/
def CRp (l : Launch) (Z : State) (a0 : Array Value) (EL : List (String × Nat)) (W cap n : Nat) : Prop := ∀ {h : Heap} {t : Addr} {kb : ClassId} {vs : List Value}, Ext Z.heap h → Z.vm.findClass "[B" = some kb → Arv Z h t kb .byte (Int32.ofNat cap) vs (.int 0) → vs.length = cap →
  ∀ nw, MetW [] l yCR jdk_65_method_132_code 3 (some (.array .byte)) (Rm 2 1 W 60) #[.ref t, .int 0, .int (Int32.ofNat n)] Z a0 EL nw [] h (fun v h' => ∃ t' kb', v = some (.ref t') ∧ h.size ≤ t' ∧ t' < h'.size ∧ Ext h h' ∧ Arv Z h' t' kb' .byte (Int32.ofNat n) (vs.take n) (.int 0))
theorem met_IAg (hw : ∀ d ∈ tables_1, d.before a0 Z = true) (S : Sta Z Z.heap "java/lang/String" "COMPACT_STRINGS" "Z" (.int z)) (hz : ¬ z = 0) {x b t : Addr} {cs : List Int32} {cap : Nat} {v0 c0 : Value} (hx : Z.heap.size ≤ x) (Ex : Exa Z h x "java/lang/String") (V : Fld Z h x "java/lang/String" "value" "[B" v0) (C : Fld Z h x "java/lang/String" "coder" "B" c0) (B : SBd Z h b t cs cap) (P : CRp l Z a0 EL W cap cs.length) (hcs : ∀ c ∈ cs, ¬ c < 0 ∧ ¬ (255 : Int32) < c) :
    MetW [] l yIA jdk_42_method_150_code 5 none (Rm 3 1 W 80) #[.ref x, .ref b, .null] Z a0 EL nw [x] h (fun v h' => v = none ∧ Keep h h' [x] ∧ Str Z h' x cs) := by
  have ne : RoadKit.slotOf Z "java/lang/String" "coder" "B" ≠ RoadKit.slotOf Z "java/lang/String" "value" "[B" := slot_ne (Or.inr (wy_String_String_coder hw)) (Or.inr (wy_String_String_value hw)) (by decide) (t := .byte) (t' := .array .byte) (by decide) (by decide)
  obtain ⟨E, Fv, Fc, Fn, kb, vs, hc, A, hvs, htk, hle, h4⟩ := B
  have hxt : t ≠ x := (Ex.neArv A (wn_String hw)).symm
  have hxb : b ≠ x := E.ne Ex (by decide)
  refine MetW.of (by first | exact plainFor_of_name (by first | (simp [plainName, overriddenIn]; done) | decide +kernel) | decide +kernel) fun X hX => Go.old fun EZ => ?_
  show Go X _ _ _ _ _ _ _ _ _ _ _ _ _ _ _ _ (mkF X.m 0 #[.val (.ref x), .val (.ref b), .val (.null), .unset, .unset] [])
  subst hX
  refine g_aloadN (pc' := 1) dj42_150_0 rfl rfl rfl ?_
  refine g_objinit (pc' := 4) dj42_150_1 rfl (wl_String_1 hw) (wm_Object_init_lrV hw) (wb_Object_init_lrV hw) rfl rfl rfl ?_
  refine g_aloadN (pc' := 5) dj42_150_4 rfl rfl rfl ?_
  refine g_invokevirtualN (pc' := 8) [] [] dj42_150_5 rfl (wl_String_552 hw) (wd_AbstractStringBuilder_getValue_lrAB hw) (wv_StringBuilder_AbstractStringBuilder_getValue_lrAB hw) (wm_AbstractStringBuilder_getValue_lrAB hw) (by decide) (NF.sel (wv_StringBuilder_AbstractStringBuilder_getValue_lrAB hw)) (E) (Pay.of_met (met_GV hw Fv) (wb_AbstractStringBuilder_getValue_lrAB hw) (wi_AbstractStringBuilder hw) rfl rfl) pd_lrAB rfl rfl rfl rfl (bl (Nat.zero_le _)) (fun _ q => nomatch q) fun v5 h5 q5 l5 => ?_
  obtain ⟨rfl, e5⟩ := q5
  have e5 := e5.symm
  subst e5
  refine g_astoreN (pc' := 9) (Ls' := #[_, _, _, _, _]) dj42_150_8 rfl rfl rfl ?_
  refine g_aloadN (pc' := 10) dj42_150_9 rfl rfl rfl ?_
  refine g_invokevirtualN (pc' := 13) [] [] dj42_150_10 rfl (wl_String_549 hw) (wd_AbstractStringBuilder_length_lrI hw) (wv_StringBuilder_AbstractStringBuilder_length_lrI hw) (wm_StringBuilder_length_lrI hw) (by decide) (nf_ni (asb_ni hw)) (E) (Pay.of_met (met_SL hw E Fn) (wb_StringBuilder_length_lrI hw) (wi_StringBuilder hw) rfl rfl) pd_lrI rfl rfl rfl rfl (bl (Nat.zero_le _)) (fun _ q => nomatch q) fun v10 h10 q10 l10 => ?_
  obtain ⟨rfl, e10⟩ := q10
  have e10 := e10.symm
  subst e10
  refine g_istore (pc' := 15) (Ls' := #[_, _, _, _, _]) dj42_150_13 rfl rfl ?_
  refine g_aloadN (pc' := 16) dj42_150_15 rfl rfl rfl ?_
  refine g_invokevirtualN (pc' := 19) [] [] dj42_150_16 rfl (wl_String_1047 hw) (wd_AbstractStringBuilder_isLatin1_lrZ hw) (wv_StringBuilder_AbstractStringBuilder_isLatin1_lrZ hw) (wm_AbstractStringBuilder_isLatin1_lrZ hw) (by decide) (NF.sel (wv_StringBuilder_AbstractStringBuilder_isLatin1_lrZ hw)) (E) (Pay.of_met (met_AI hw S hz Fc) (wb_AbstractStringBuilder_isLatin1_lrZ hw) (wi_AbstractStringBuilder hw) rfl rfl) pd_lrZ rfl rfl rfl rfl (bl (Nat.zero_le _)) (fun _ q => nomatch q) fun v16 h16 q16 l16 => ?_
  obtain ⟨rfl, e16⟩ := q16
  have e16 := e16.symm
  subst e16
  refine g_ifeq (pc' := 22) (pc2 := 41) dj42_150_19 rfl (by decide) rfl (fun c19 => ?_) (fun c19 => False.elim (absurd c19 (by decide)))
  refine g_aloadN (pc' := 23) dj42_150_22 rfl rfl rfl ?_
  refine g_iconst (pc' := 24) (w := 0) dj42_150_23 rfl (by decide) ?_
  refine g_putfield (pc' := 27) dj42_150_24 rfl (wf_String_15 hw) (C) (Ex) (Or.inr ⟨wy_String_String_coder hw, rfl, rfl⟩) (wn_String hw) (ty := .byte) (by decide) rfl rfl (hx) (by simp) fun h24 W24 => ?_
  refine g_aloadN (pc' := 28) dj42_150_27 rfl rfl rfl ?_
  refine g_aloadN (pc' := 29) dj42_150_28 rfl rfl rfl ?_
  refine g_iconst (pc' := 30) (w := 0) dj42_150_29 rfl (by decide) ?_
  refine g_iload (pc' := 32) dj42_150_30 rfl rfl ?_
  have Z24 : Ext Z.heap h24 := ext_keep EZ (Keep.of_wr W24) (allS hx all0)
  refine g_invokestatic (pc' := 35) [] [_, _, _] dj42_150_32 rfl (wl_String_54 hw) (ws_Arrays_copyOfRange_lABIIrAB hw) (wi_Arrays hw) (wb_Arrays_copyOfRange_lABIIrAB hw) (by decide) (Pay.of_met (P Z24 hc (A.other W24 hxt) hvs _) (wb_Arrays_copyOfRange_lABIIrAB hw) (wi_Arrays hw) rfl rfl) pd_lABIIrAB rfl rfl rfl rfl (bl (by show 0 + 0 + 0 + 0 + W ≤ W; omega)) (fun _ q => nomatch q) fun v32 h32 q32 l32 => ?_
  obtain ⟨t', kb', rfl, t1, t2, E32, A32⟩ := q32
  refine g_putfield (pc' := 38) dj42_150_35 rfl (wf_String_9 hw) ((V.other W24 (Or.inr ne.symm)).ext E32) ((Ex.wr W24).ext E32) (Or.inr ⟨wy_String_String_value hw, rfl, rfl⟩) (wn_String hw) (ty := (.array .byte)) (by decide) rfl rfl (hx) (by simp) fun h35 W35 => ?_
  have hxt' : t' ≠ x := (((Ex.wr W24).ext E32).neArv A32 (wn_String hw)).symm
  refine g_goto (pc' := 97) dj42_150_38 (by decide) rfl ?_
  refine g_return dj42_150_97 rfl rfl (bl (by show 0 + 0 + 0 + 0 + W ≤ W; omega)) ⟨rfl, (((Keep.refl h [x]).wr W24 (Or.inl (List.mem_cons_self ..))).ext E32).wr W35 (Or.inl (List.mem_cons_self ..)), ((Ex.wr W24).ext E32).wr W35, t', kb', 0, _, _, ((V.other W24 (Or.inr ne.symm)).ext E32).same W35, ((C.same W24).ext E32).other W35 (Or.inr ne), A32.other W35 hxt', Or.inl ⟨rfl, rfl, htk, fun c q => (hcs c q).2⟩, up255 hcs, by omega⟩
theorem met_ISg (hw : ∀ d ∈ tables_1, d.before a0 Z = true) (S : Sta Z Z.heap "java/lang/String" "COMPACT_STRINGS" "Z" (.int z)) (hz : ¬ z = 0) {x b t : Addr} {cs : List Int32} {cap : Nat} {v0 c0 : Value} (hx : Z.heap.size ≤ x) (Ex : Exa Z h x "java/lang/String") (V : Fld Z h x "java/lang/String" "value" "[B" v0) (C : Fld Z h x "java/lang/String" "coder" "B" c0) (B : SBd Z h b t cs cap) (P : CRp l Z a0 EL W cap cs.length) (hcs : ∀ c ∈ cs, ¬ c < 0 ∧ ¬ (255 : Int32) < c) :
    MetW [] l yIS jdk_42_method_53_code 2 none (Rm 4 1 W 100) #[.ref x, .ref b] Z a0 EL nw [x] h (fun v h' => v = none ∧ Keep h h' [x] ∧ Str Z h' x cs) := by
  refine MetW.of (by first | exact plainFor_of_name (by first | (simp [plainName, overriddenIn]; done) | decide +kernel) | decide +kernel) fun X hX => Go.old fun EZ => ?_
  show Go X _ _ _ _ _ _ _ _ _ _ _ _ _ _ _ _ (mkF X.m 0 #[.val (.ref x), .val (.ref b)] [])
  subst hX
  refine g_aloadN (pc' := 1) dj42_53_0 rfl rfl rfl ?_
  refine g_aloadN (pc' := 2) dj42_53_1 rfl rfl rfl ?_
  refine g_aconst_null (pc' := 3) dj42_53_2 rfl ?_
  refine g_invokespecial (pc' := 6) [x] [_, _] dj42_53_3 rfl rfl (wl_String_489 hw) (wm_String_init_lLjavalangAbstractStringBuilderLjavalangVoidrV hw) (wb_String_init_lLjavalangAbstractStringBuilderLjavalangVoidrV hw) (by decide) (Pay.of_met (met_IAg (W := W) hw S hz hx Ex V C B P hcs) (wb_String_init_lLjavalangAbstractStringBuilderLjavalangVoidrV hw) (wi_String hw) rfl rfl) pd_lLjavalangAbstractStringBuilderLjavalangVoidrV rfl rfl rfl rfl (bl (by show 0 + W ≤ W; omega)) (fun _ q => q) fun v3 h3 q3 l3 => ?_
  obtain ⟨rfl, q⟩ := q3
  exact g_return dj42_53_6 rfl rfl (bl (by show 0 + W ≤ W; omega)) ⟨rfl, q⟩
theorem met_TSg (hw : ∀ d ∈ tables_1, d.before a0 Z = true) (S : Sta Z Z.heap "java/lang/String" "COMPACT_STRINGS" "Z" (.int z)) (hz : ¬ z = 0) (EZ : Ext Z.heap h) {b t : Addr} {cs : List Int32} {cap : Nat} (B : SBd Z h b t cs cap) (P : CRp l Z a0 EL W cap cs.length) (hcs : ∀ c ∈ cs, ¬ c < 0 ∧ ¬ (255 : Int32) < c) :
    MetW [] l yTS jdk_67_method_42_code 1 (some (.object "java/lang/String")) (Rm 5 2 (W + 4) 120) #[.ref b] Z a0 EL nw [] h (fun v h' => ∃ x, v = some (.ref x) ∧ h.size ≤ x ∧ x < h'.size ∧ Ext h h' ∧ Str Z h' x cs) := by
  refine MetW.of (by first | exact plainFor_of_name (by first | (simp [plainName, overriddenIn]; done) | decide +kernel) | decide +kernel) fun X hX => Go.old fun EZ => ?_
  show Go X _ _ _ _ _ _ _ _ _ _ _ _ _ _ _ _ (mkF X.m 0 #[.val (.ref b)] [])
  subst hX
  refine g_new (pc' := 3) dj67_42_0 rfl (wc_StringBuilder_18 hw) (wn_String hw) (wi_String hw) rfl (bl (by show 0 + 4 ≤ W + 4; omega)) fun h0 a0' e0 E0 A0 D0 => ?_
  refine g_dup (pc' := 4) dj67_42_3 rfl rfl ?_
  refine g_aloadN (pc' := 5) dj67_42_4 rfl rfl rfl ?_
  refine g_invokespecial (pc' := 8) [a0'] [_] dj67_42_5 rfl rfl (wl_StringBuilder_137 hw) (wm_String_init_lLjavalangStringBuilderrV hw) (wb_String_init_lLjavalangStringBuilderrV hw) (by decide) (Pay.of_met (met_ISg (W := W) hw S hz (by rw [e0]; exact EZ.1) A0 (D0 (Or.inr (wy_String_String_value hw)) (ty := .array .byte) (by decide)) (D0 (Or.inr (wy_String_String_coder hw)) (ty := .byte) (by decide)) (B.ext E0) P hcs) (wb_String_init_lLjavalangStringBuilderrV hw) (wi_String hw) rfl rfl) pd_lLjavalangStringBuilderrV rfl rfl rfl rfl (bl (by show 0 + 4 + W ≤ W + 4; omega)) (fun _ q => by cases List.mem_singleton.mp q; simp) fun v5 h5 q5 l5 => ?_
  obtain ⟨rfl, K5, T5⟩ := q5
  refine g_areturn dj67_42_8 rfl rfl rfl rfl rfl (bl (by show 0 + 4 + W ≤ W + 4; omega)) ⟨a0', rfl, Nat.le_of_eq e0.symm, T5.lt, ext_keep E0 K5 (allS (Nat.le_of_eq e0.symm) all0), T5⟩
end CRBs
/-! StringBuilder with room: append(String), append(char), append(Object) of a String, walked -/
section SB0
variable {l : Launch} {R : Room} {Z : State} {a0 : Array Value} {EL : List (String × Nat)} {nw : Bool} {h : Heap} {W : Nat} {z : Int32}
abbrev yApC : MethodName := ⟨"java/lang/AbstractStringBuilder", "append", "(C)Ljava/lang/AbstractStringBuilder;"⟩
abbrev ySApC : MethodName := ⟨"java/lang/StringBuilder", "append", "(C)Ljava/lang/StringBuilder;"⟩
abbrev ySApO : MethodName := ⟨"java/lang/StringBuilder", "append", "(Ljava/lang/Object;)Ljava/lang/StringBuilder;"⟩
abbrev yVO : MethodName := ⟨"java/lang/String", "valueOf", "(Ljava/lang/Object;)Ljava/lang/String;"⟩
abbrev yStS : MethodName := ⟨"java/lang/String", "toString", "()Ljava/lang/String;"⟩
abbrev yCanE : MethodName := ⟨"java/lang/StringLatin1", "canEncode", "(C)Z"⟩
theorem met_ApS0 (hw : ∀ d ∈ tables_1, d.before a0 Z = true) (S : Sta Z Z.heap "java/lang/String" "COMPACT_STRINGS" "Z" (.int z)) (hz : ¬ z = 0) (EZ : Ext Z.heap h) {b t x : Addr} {cs ds : List Int32} {cap : Nat} (hb : Z.heap.size ≤ b) (ht : Z.heap.size ≤ t) (B : SBd Z h b t cs cap) (T : Str Z h x ds) (hds : ∀ c ∈ ds, ¬ (255 : Int32) < c) (hN : cs.length + ds.length ≤ cap) : MetW [] l yApS jdk_68_method_22_code 3 (some (.object ASB)) (Rm 3 0 0 90) #[.ref b, .ref x] Z a0 EL nw [b, t] h (fun v h' => v = some (.ref b) ∧ Keep h h' [b, t] ∧ SBd Z h' b t (cs ++ ds) cap) := by
  obtain ⟨E, Fv, Fc, Fn, kb, vs, hc, A, hvs, htk, hle, h4⟩ := id B
  have hbt : b ≠ t := E.neArv A (wn_StringBuilder hw)
  have nb : b ∉ [t] := fun q => hbt (List.mem_singleton.mp q)
  refine MetW.of (by first | exact plainFor_of_name (by first | (simp [plainName, overriddenIn]; done) | decide +kernel) | decide +kernel) fun X hX => Go.old fun EZ => ?_
  show Go X _ _ _ _ _ _ _ _ _ _ _ _ _ _ _ _ (mkF X.m 0 #[.val (.ref b), .val (.ref x), .unset] [])
  refine g_aloadN (pc' := 1) dj68_22_0 rfl rfl rfl ?_
  refine g_ifnonnullY (pc2 := 9) dj68_22_1 (by decide) rfl ?_
  refine g_aloadN (pc' := 10) dj68_22_9 rfl rfl rfl ?_
  refine g_invokevirtualN (pc' := 13) [] [] dj68_22_10 rfl (wl_AbstractStringBuilder_32 hw) (wd_String_length_lrI hw) (wv_String_String_length_lrI hw) (wm_String_length_lrI hw) (by decide) (NF.sel (wv_String_String_length_lrI hw)) (T.exa) (pay_len (own_len hw) (wn_String hw) S hz EZ T rfl rfl) pd_lrI rfl rfl rfl rfl rfl (fun _ q => nomatch q) fun v10 h10 q10 l10 => ?_
  obtain ⟨rfl, e10⟩ := q10
  have e10 := e10.symm
  subst e10
  refine g_istoreN (pc' := 14) (Ls' := #[_, _, _]) dj68_22_13 rfl rfl ?_
  refine g_aloadN (pc' := 15) dj68_22_14 rfl rfl rfl ?_
  refine g_aloadN (pc' := 16) dj68_22_15 rfl rfl rfl ?_
  refine g_getfield (pc' := 19) dj68_22_16 rfl (wf_AbstractStringBuilder_79 hw) (Fn) ?_
  refine g_iloadN (pc' := 20) dj68_22_19 rfl rfl ?_
  refine g_iadd (pc' := 21) dj68_22_20 rfl ?_
  rw [ofNat_add2]
  refine g_private (pc' := 24) [] [_] dj68_22_21 rfl (wl_AbstractStringBuilder_100 hw) (wq_AbstractStringBuilder_ensureCapacityInternal_lIrV hw) (wv_StringBuilder_AbstractStringBuilder_ensureCapacityInternal_lIrV hw) (wm_AbstractStringBuilder_ensureCapacityInternal_lIrV hw) (by decide) (wb_AbstractStringBuilder_ensureCapacityInternal_lIrV hw) (E) (Pay.of_met (met_ECI0 hw B hN) (wb_AbstractStringBuilder_ensureCapacityInternal_lIrV hw) (wi_AbstractStringBuilder hw) rfl rfl) pd_lIrV rfl rfl rfl rfl rfl (fun _ q => nomatch q) fun v21 h21 q21 l21 => ?_
  obtain ⟨rfl, e21⟩ := q21
  have e21 := e21.symm
  subst e21
  refine g_aloadN (pc' := 25) dj68_22_24 rfl rfl rfl ?_
  refine g_aloadN (pc' := 26) dj68_22_25 rfl rfl rfl ?_
  refine g_getfield (pc' := 29) dj68_22_26 rfl (wf_AbstractStringBuilder_79 hw) (Fn) ?_
  refine g_aloadN (pc' := 30) dj68_22_29 rfl rfl rfl ?_
  refine g_private (pc' := 33) [t] [_, _] dj68_22_30 rfl (wl_AbstractStringBuilder_208 hw) (wq_AbstractStringBuilder_putStringAt_lILjavalangStringrV hw) (wv_StringBuilder_AbstractStringBuilder_putStringAt_lILjavalangStringrV hw) (wm_AbstractStringBuilder_putStringAt_lILjavalangStringrV hw) (by decide) (wb_AbstractStringBuilder_putStringAt_lILjavalangStringrV hw) (E) (Pay.of_met (met_PSA hw S hz E Fv Fc T hds ht A h4 hvs hN) (wb_AbstractStringBuilder_putStringAt_lILjavalangStringrV hw) (wi_AbstractStringBuilder hw) rfl rfl) pd_lILjavalangStringrV rfl rfl rfl rfl rfl (fun _ q => by cases List.mem_singleton.mp q; simp) fun v30 h30 q30 l30 => ?_
  obtain ⟨rfl, K30, A30⟩ := q30
  refine g_aloadN (pc' := 34) dj68_22_33 rfl rfl rfl ?_
  refine g_dup (pc' := 35) dj68_22_34 rfl rfl ?_
  refine g_getfield (pc' := 38) dj68_22_35 rfl (wf_AbstractStringBuilder_79 hw) ((Fn.keep K30 nb)) ?_
  refine g_iloadN (pc' := 39) dj68_22_38 rfl rfl ?_
  refine g_iadd (pc' := 40) dj68_22_39 rfl ?_
  rw [ofNat_add2]
  refine g_putfield (pc' := 43) dj68_22_40 rfl (wf_AbstractStringBuilder_79 hw) (Fn.keep K30 nb) (E.keep K30) (Or.inl (wy_StringBuilder_AbstractStringBuilder_count hw)) (wn_StringBuilder hw) (ty := .int) (by decide) rfl rfl (hb) (by simp) fun h40 W40 => ?_
  refine g_aloadN (pc' := 44) dj68_22_43 rfl rfl rfl ?_
  have K1 : Keep h h30 [b, t] := ⟨K30.1, fun y c q r => K30.2.1 y c q (fun u => r (by cases List.mem_singleton.mp u; simp)), K30.2.2⟩
  refine g_areturn dj68_22_44 rfl rfl rfl rfl rfl rfl ⟨rfl, K1.wr W40 (Or.inl (by simp)), (E.keep K30).wr W40, (Fv.keep K30 nb).other W40 (Or.inr (sb_ne2 hw).symm), (Fc.keep K30 nb).other W40 (Or.inr (sb_ne3 hw).symm), ?_, kb, _, hc, A30.other W40 hbt.symm, ?_, ?_, ?_, h4⟩
  · rw [List.length_append]
    exact (Fn.keep K30 nb).same W40
  · simp only [List.length_append, List.length_take, List.length_drop, List.length_map, hvs]
    omega
  · rw [List.take_append_of_le_length (by simp only [List.length_append, List.length_take, List.length_map, hvs]; omega), List.take_of_length_le (by simp only [List.length_append, List.length_take, List.length_map, hvs]; omega), htk]
    exact (List.map_append ..).symm
  · rw [List.length_append]; exact hN
theorem met_SApS0 (hw : ∀ d ∈ tables_1, d.before a0 Z = true) (S : Sta Z Z.heap "java/lang/String" "COMPACT_STRINGS" "Z" (.int z)) (hz : ¬ z = 0) (EZ : Ext Z.heap h) {b t x : Addr} {cs ds : List Int32} {cap : Nat} (hb : Z.heap.size ≤ b) (ht : Z.heap.size ≤ t) (B : SBd Z h b t cs cap) (T : Str Z h x ds) (hds : ∀ c ∈ ds, ¬ (255 : Int32) < c) (hN : cs.length + ds.length ≤ cap) : MetW [] l ySApS jdk_67_method_7_code 2 (some (.object SBN)) (Rm 4 0 0 110) #[.ref b, .ref x] Z a0 EL nw [b, t] h (fun v h' => v = some (.ref b) ∧ Keep h h' [b, t] ∧ SBd Z h' b t (cs ++ ds) cap) := by
  refine MetW.of (by first | exact plainFor_of_name (by first | (simp [plainName, overriddenIn]; done) | decide +kernel) | decide +kernel) fun X hX => Go.old fun EZ => ?_
  show Go X _ _ _ _ _ _ _ _ _ _ _ _ _ _ _ _ (mkF X.m 0 #[.val (.ref b), .val (.ref x)] [])
  refine g_aloadN (pc' := 1) dj67_7_0 rfl rfl rfl ?_
  refine g_aloadN (pc' := 2) dj67_7_1 rfl rfl rfl ?_
  refine g_super (pc' := 5) [b, t] [_] dj67_7_2 rfl (by decide) (wl_StringBuilder_29 hw) (wm_AbstractStringBuilder_append_lLjavalangStringrLjavalangAbstractStringBuilder hw) (wz_StringBuilder_AbstractStringBuilder hw) (asb_ni hw) (Ins.self B.1) (wb_AbstractStringBuilder_append_lLjavalangStringrLjavalangAbstractStringBuilder hw) (by decide) (Pay.of_met (met_ApS0 hw S hz EZ hb ht B T hds hN) (wb_AbstractStringBuilder_append_lLjavalangStringrLjavalangAbstractStringBuilder hw) (wi_AbstractStringBuilder hw) rfl rfl) pd_lLjavalangStringrLjavalangAbstractStringBuilder rfl rfl rfl rfl rfl (fun _ q => q) fun v2 h2 q2 l2 => ?_
  obtain ⟨rfl, q⟩ := q2
  refine g_pop (pc' := 6) dj67_7_5 rfl rfl ?_
  refine g_aloadN (pc' := 7) dj67_7_6 rfl rfl rfl ?_
  refine g_areturn dj67_7_7 rfl rfl rfl rfl rfl rfl (⟨rfl, q⟩)
theorem met_canE (hw : ∀ d ∈ tables_1, d.before a0 Z = true) {c : Int32} (hc : ¬ (255 : Int32) < c) : MetW [] l yCanE jdk_43_method_3_code 1 (some .boolean) (Rm 0 0 0 0) #[.int c] Z a0 EL nw [] h (fun v h' => v = some (.int 1) ∧ h' = h) := by
  refine MetW.of (by first | exact plainFor_of_name (by first | (simp [plainName, overriddenIn]; done) | decide +kernel) | decide +kernel) fun X hX => Go.old fun EZ => ?_
  show Go X _ _ _ _ _ _ _ _ _ _ _ _ _ _ _ _ (mkF X.m 0 #[.val (.int c)] [])
  refine g_iloadN (pc' := 1) dj43_3_0 rfl rfl ?_
  refine g_sipush (pc' := 4) (w := 255) dj43_3_1 rfl (by decide) ?_
  refine g_icmpgt (pc' := 7) (pc2 := 11) dj43_3_4 rfl (by decide) rfl (fun c4 => ?_) (fun c4 => False.elim (hc c4))
  refine g_iconst (pc' := 8) (w := 1) dj43_3_7 rfl (by decide) ?_
  refine g_goto (pc' := 12) dj43_3_8 (by decide) rfl ?_
  refine g_ireturn (t := .boolean) dj43_3_12 rfl (by simp) rfl rfl rfl (⟨rfl, rfl⟩)
theorem nar_b8s (x : Int32) : nar .byte x.toInt8.toInt32 = x.toInt8.toInt32 := by simp [nar]
theorem met_ApC0 (hw : ∀ d ∈ tables_1, d.before a0 Z = true) (S : Sta Z Z.heap "java/lang/String" "COMPACT_STRINGS" "Z" (.int z)) (hz : ¬ z = 0) {b t : Addr} {cs : List Int32} {c : Int32} {cap : Nat} (hb : Z.heap.size ≤ b) (ht : Z.heap.size ≤ t) (B : SBd Z h b t cs cap) (hc : ¬ (255 : Int32) < c) (hN : cs.length + 1 ≤ cap) : MetW [] l yApC jdk_68_method_31_code 2 (some (.object ASB)) (Rm 1 0 0 30) #[.ref b, .int c] Z a0 EL nw [b, t] h (fun v h' => v = some (.ref b) ∧ Keep h h' [b, t] ∧ SBd Z h' b t (cs ++ [c]) cap) := by
  obtain ⟨E, Fv, Fc, Fn, kb, vs, hk, A, hvs, htk, hle, h4⟩ := id B
  have hbt : b ≠ t := E.neArv A (wn_StringBuilder hw)
  refine MetW.of (by first | exact plainFor_of_name (by first | (simp [plainName, overriddenIn]; done) | decide +kernel) | decide +kernel) fun X hX => Go.old fun EZ => ?_
  show Go X _ _ _ _ _ _ _ _ _ _ _ _ _ _ _ _ (mkF X.m 0 #[.val (.ref b), .val (.int c)] [])
  refine g_aloadN (pc' := 1) dj68_31_0 rfl rfl rfl ?_
  refine g_aloadN (pc' := 2) dj68_31_1 rfl rfl rfl ?_
  refine g_getfield (pc' := 5) dj68_31_2 rfl (wf_AbstractStringBuilder_79 hw) (Fn) ?_
  refine g_iconst (pc' := 6) (w := 1) dj68_31_5 rfl (by decide) ?_
  refine g_iadd (pc' := 7) dj68_31_6 rfl ?_
  rw [show Int32.ofNat cs.length + 1 = Int32.ofNat (cs.length + 1) from ofNat_add2 cs.length 1]
  refine g_private (pc' := 10) [] [_] dj68_31_7 rfl (wl_AbstractStringBuilder_100 hw) (wq_AbstractStringBuilder_ensureCapacityInternal_lIrV hw) (wv_StringBuilder_AbstractStringBuilder_ensureCapacityInternal_lIrV hw) (wm_AbstractStringBuilder_ensureCapacityInternal_lIrV hw) (by decide) (wb_AbstractStringBuilder_ensureCapacityInternal_lIrV hw) (E) (Pay.of_met (met_ECI0 hw B hN) (wb_AbstractStringBuilder_ensureCapacityInternal_lIrV hw) (wi_AbstractStringBuilder hw) rfl rfl) pd_lIrV rfl rfl rfl rfl rfl (fun _ q => nomatch q) fun v7 h7 q7 l7 => ?_
  obtain ⟨rfl, e7⟩ := q7
  have e7 := e7.symm
  subst e7
  refine g_aloadN (pc' := 11) dj68_31_10 rfl rfl rfl ?_
  refine g_invokevirtualN (pc' := 14) [] [] dj68_31_11 rfl (wl_AbstractStringBuilder_83 hw) (wd_AbstractStringBuilder_isLatin1_lrZ hw) (wv_StringBuilder_AbstractStringBuilder_isLatin1_lrZ hw) (wm_AbstractStringBuilder_isLatin1_lrZ hw) (by decide) (NF.sel (wv_StringBuilder_AbstractStringBuilder_isLatin1_lrZ hw)) (E) (Pay.of_met (met_AI hw S hz Fc) (wb_AbstractStringBuilder_isLatin1_lrZ hw) (wi_AbstractStringBuilder hw) rfl rfl) pd_lrZ rfl rfl rfl rfl rfl (fun _ q => nomatch q) fun v11 h11 q11 l11 => ?_
  obtain ⟨rfl, e11⟩ := q11
  have e11 := e11.symm
  subst e11
  refine g_ifeq (pc' := 17) (pc2 := 45) dj68_31_14 rfl (by decide) rfl (fun c14 => ?_) (fun c14 => False.elim (absurd c14 (by decide)))
  refine g_iloadN (pc' := 18) dj68_31_17 rfl rfl ?_
  refine g_invokestatic (pc' := 21) [] [_] dj68_31_18 rfl (wl_AbstractStringBuilder_191 hw) (ws_StringLatin1_canEncode_lCrZ hw) (wi_StringLatin1 hw) (wb_StringLatin1_canEncode_lCrZ hw) (by decide) (Pay.of_met (met_canE hw hc) (wb_StringLatin1_canEncode_lCrZ hw) (wi_StringLatin1 hw) rfl rfl) pd_lCrZ rfl rfl rfl rfl rfl (fun _ q => nomatch q) fun v18 h18 q18 l18 => ?_
  obtain ⟨rfl, e18⟩ := q18
  have e18 := e18.symm
  subst e18
  refine g_ifeq (pc' := 24) (pc2 := 45) dj68_31_21 rfl (by decide) rfl (fun c21 => ?_) (fun c21 => False.elim (absurd c21 (by decide)))
  refine g_aloadN (pc' := 25) dj68_31_24 rfl rfl rfl ?_
  refine g_getfield (pc' := 28) dj68_31_25 rfl (wf_AbstractStringBuilder_15 hw) (Fv) ?_
  refine g_aloadN (pc' := 29) dj68_31_28 rfl rfl rfl ?_
  refine g_dup (pc' := 30) dj68_31_29 rfl rfl ?_
  refine g_getfield (pc' := 33) dj68_31_30 rfl (wf_AbstractStringBuilder_79 hw) (Fn) ?_
  refine g_dup_x1 (pc' := 34) dj68_31_33 rfl rfl rfl ?_
  refine g_iconst (pc' := 35) (w := 1) dj68_31_34 rfl (by decide) ?_
  refine g_iadd (pc' := 36) dj68_31_35 rfl ?_
  rw [show Int32.ofNat cs.length + 1 = Int32.ofNat (cs.length + 1) from ofNat_add2 cs.length 1]
  refine g_putfield (pc' := 39) dj68_31_36 rfl (wf_AbstractStringBuilder_79 hw) (Fn) (E) (Or.inl (wy_StringBuilder_AbstractStringBuilder_count hw)) (wn_StringBuilder hw) (ty := .int) (by decide) rfl rfl (hb) (by simp) fun h36 W36 => ?_
  refine g_iloadN (pc' := 40) dj68_31_39 rfl rfl ?_
  refine g_i2b (pc' := 41) dj68_31_40 rfl ?_
  refine g_bastore (pc' := 42) (i := cs.length) dj68_31_41 rfl (A.other W36 hbt.symm) ht (by simp) ⟨ofNat_nn (by omega), (ofNat_lt (by omega) (by omega)).mpr (by omega)⟩ (ofNat_clamp (by omega)) (by omega) fun h41 K41 A41 => ?_
  rw [nar_b8s] at A41
  refine g_goto (pc' := 75) dj68_31_42 (by decide) rfl ?_
  refine g_aloadN (pc' := 76) dj68_31_75 rfl rfl rfl ?_
  have nb : b ∉ [t] := fun q => hbt (List.mem_singleton.mp q)
  have K1 : Keep h h36 [b, t] := (Keep.refl h [b, t]).wr W36 (Or.inl (by simp))
  refine g_areturn dj68_31_76 rfl rfl rfl rfl rfl rfl ⟨rfl, K1.trans K41 (fun y hy => by cases List.mem_singleton.mp hy; exact Or.inl (by simp)), (E.wr W36).keep K41, (Fv.other W36 (Or.inr (sb_ne2 hw).symm)).keep K41 nb, (Fc.other W36 (Or.inr (sb_ne3 hw).symm)).keep K41 nb, ?_, kb, _, hk, A41, by rw [List.length_set]; exact hvs, ?_, by rw [List.length_append]; exact hN, h4⟩
  · rw [List.length_append]
    exact (Fn.same W36).keep K41 nb
  · rw [List.length_append]
    show (vs.set cs.length _).take (cs.length + 1) = bys (cs ++ [c])
    rw [List.take_set, List.take_add_one, htk]
    have hl : (bys cs).length = cs.length := List.length_map ..
    have : vs[cs.length]? = some vs[cs.length] := List.getElem?_eq_getElem (by omega)
    rw [this]
    show (bys cs ++ [vs[cs.length]]).set cs.length _ = bys (cs ++ [c])
    rw [List.set_append_right _ _ (by omega), hl, Nat.sub_self]
    show bys cs ++ [Value.int (StrChars.lo8 c)] = (cs ++ [c]).map _
    rw [List.map_append]
    rfl
theorem met_SApC0 (hw : ∀ d ∈ tables_1, d.before a0 Z = true) (S : Sta Z Z.heap "java/lang/String" "COMPACT_STRINGS" "Z" (.int z)) (hz : ¬ z = 0) {b t : Addr} {cs : List Int32} {c : Int32} {cap : Nat} (hb : Z.heap.size ≤ b) (ht : Z.heap.size ≤ t) (B : SBd Z h b t cs cap) (hc : ¬ (255 : Int32) < c) (hN : cs.length + 1 ≤ cap) : MetW [] l ySApC jdk_67_method_14_code 2 (some (.object SBN)) (Rm 2 0 0 50) #[.ref b, .int c] Z a0 EL nw [b, t] h (fun v h' => v = some (.ref b) ∧ Keep h h' [b, t] ∧ SBd Z h' b t (cs ++ [c]) cap) := by
  refine MetW.of (by first | exact plainFor_of_name (by first | (simp [plainName, overriddenIn]; done) | decide +kernel) | decide +kernel) fun X hX => Go.old fun EZ => ?_
  show Go X _ _ _ _ _ _ _ _ _ _ _ _ _ _ _ _ (mkF X.m 0 #[.val (.ref b), .val (.int c)] [])
  refine g_aloadN (pc' := 1) dj67_14_0 rfl rfl rfl ?_
  refine g_iloadN (pc' := 2) dj67_14_1 rfl rfl ?_
  refine g_super (pc' := 5) [b, t] [_] dj67_14_2 rfl (by decide) (wl_StringBuilder_50 hw) (wm_AbstractStringBuilder_append_lCrLjavalangAbstractStringBuilder hw) (wz_StringBuilder_AbstractStringBuilder hw) (asb_ni hw) (Ins.self B.1) (wb_AbstractStringBuilder_append_lCrLjavalangAbstractStringBuilder hw) (by decide) (Pay.of_met (met_ApC0 hw S hz hb ht B hc hN) (wb_AbstractStringBuilder_append_lCrLjavalangAbstractStringBuilder hw) (wi_AbstractStringBuilder hw) rfl rfl) pd_lCrLjavalangAbstractStringBuilder rfl rfl rfl rfl rfl (fun _ q => q) fun v2 h2 q2 l2 => ?_
  obtain ⟨rfl, q⟩ := q2
  refine g_pop (pc' := 6) dj67_14_5 rfl rfl ?_
  refine g_aloadN (pc' := 7) dj67_14_6 rfl rfl rfl ?_
  refine g_areturn dj67_14_7 rfl rfl rfl rfl rfl rfl (⟨rfl, q⟩)
theorem met_StS (hw : ∀ d ∈ tables_1, d.before a0 Z = true) {x : Addr} : MetW [] l yStS jdk_42_method_126_code 1 (some (.object "java/lang/String")) (Rm 0 0 0 0) #[.ref x] Z a0 EL nw [] h (fun v h' => v = some (.ref x) ∧ h' = h) := by
  refine MetW.of (by first | exact plainFor_of_name (by first | (simp [plainName, overriddenIn]; done) | decide +kernel) | decide +kernel) fun X hX => Go.old fun EZ => ?_
  show Go X _ _ _ _ _ _ _ _ _ _ _ _ _ _ _ _ (mkF X.m 0 #[.val (.ref x)] [])
  refine g_aloadN (pc' := 1) dj42_126_0 rfl rfl rfl ?_
  refine g_areturn dj42_126_1 rfl rfl rfl rfl rfl rfl (⟨rfl, rfl⟩)
theorem met_VOs (hw : ∀ d ∈ tables_1, d.before a0 Z = true) {x : Addr} (E : Exa Z h x "java/lang/String") : MetW [] l yVO jdk_42_method_133_code 1 (some (.object "java/lang/String")) (Rm 1 0 0 20) #[.ref x] Z a0 EL nw [] h (fun v h' => v = some (.ref x) ∧ h' = h) := by
  refine MetW.of (by first | exact plainFor_of_name (by first | (simp [plainName, overriddenIn]; done) | decide +kernel) | decide +kernel) fun X hX => Go.old fun EZ => ?_
  show Go X _ _ _ _ _ _ _ _ _ _ _ _ _ _ _ _ (mkF X.m 0 #[.val (.ref x)] [])
  refine g_aloadN (pc' := 1) dj42_133_0 rfl rfl rfl ?_
  refine g_ifnonnullY (pc2 := 10) dj42_133_1 (by decide) rfl ?_
  refine g_aloadN (pc' := 11) dj42_133_10 rfl rfl rfl ?_
  refine g_invokevirtualN (pc' := 14) [] [] dj42_133_11 rfl (wl_String_1007 hw) (wd_Object_toString_lrLjavalangString hw) (wv_String_Object_toString_lrLjavalangString hw) (wm_String_toString_lrLjavalangString hw) (by decide) (nf_ni (by have q := NI.sel (wv_Object_Object_getClass_lrLjavalangClass hw); exact q)) (E) (Pay.of_met (met_StS hw) (wb_String_toString_lrLjavalangString hw) (wi_String hw) rfl rfl) pd_lrLjavalangString rfl rfl rfl rfl rfl (fun _ q => nomatch q) fun v11 h11 q11 l11 => ?_
  obtain ⟨rfl, rfl⟩ := q11
  refine g_areturn dj42_133_14 rfl rfl rfl rfl rfl rfl (⟨rfl, rfl⟩)
theorem met_SApOs (hw : ∀ d ∈ tables_1, d.before a0 Z = true) (S : Sta Z Z.heap "java/lang/String" "COMPACT_STRINGS" "Z" (.int z)) (hz : ¬ z = 0) (EZ : Ext Z.heap h) {b t x : Addr} {cs ds : List Int32} {cap : Nat} (hb : Z.heap.size ≤ b) (ht : Z.heap.size ≤ t) (B : SBd Z h b t cs cap) (T : Str Z h x ds) (hds : ∀ c ∈ ds, ¬ (255 : Int32) < c) (hN : cs.length + ds.length ≤ cap) : MetW [] l ySApO jdk_67_method_6_code 2 (some (.object SBN)) (Rm 5 0 0 130) #[.ref b, .ref x] Z a0 EL nw [b, t] h (fun v h' => v = some (.ref b) ∧ Keep h h' [b, t] ∧ SBd Z h' b t (cs ++ ds) cap) := by
  refine MetW.of (by first | exact plainFor_of_name (by first | (simp [plainName, overriddenIn]; done) | decide +kernel) | decide +kernel) fun X hX => Go.old fun EZ => ?_
  show Go X _ _ _ _ _ _ _ _ _ _ _ _ _ _ _ _ (mkF X.m 0 #[.val (.ref b), .val (.ref x)] [])
  refine g_aloadN (pc' := 1) dj67_6_0 rfl rfl rfl ?_
  refine g_aloadN (pc' := 2) dj67_6_1 rfl rfl rfl ?_
  refine g_invokestatic (pc' := 5) [] [_] dj67_6_2 rfl (wl_StringBuilder_17 hw) (ws_String_valueOf_lLjavalangObjectrLjavalangString hw) (wi_String hw) (wb_String_valueOf_lLjavalangObjectrLjavalangString hw) (by decide) (Pay.of_met (met_VOs hw T.exa) (wb_String_valueOf_lLjavalangObjectrLjavalangString hw) (wi_String hw) rfl rfl) pd_lLjavalangObjectrLjavalangString rfl rfl rfl rfl rfl (fun _ q => nomatch q) fun v2 h2 q2 l2 => ?_
  obtain ⟨rfl, e2⟩ := q2
  have e2 := e2.symm
  subst e2
  refine g_invokevirtualN (pc' := 8) [b, t] [_] dj67_6_5 rfl (wl_StringBuilder_23 hw) (wd_StringBuilder_append_lLjavalangStringrLjavalangStringBuilder hw) (wv_StringBuilder_StringBuilder_append_lLjavalangStringrLjavalangStringBuilder hw) (wm_StringBuilder_append_lLjavalangStringrLjavalangStringBuilder hw) (by decide) (NF.sel (wv_StringBuilder_StringBuilder_append_lLjavalangStringrLjavalangStringBuilder hw)) (B.1) (Pay.of_met (met_SApS0 hw S hz EZ hb ht B T hds hN) (wb_StringBuilder_append_lLjavalangStringrLjavalangStringBuilder hw) (wi_StringBuilder hw) rfl rfl) pd_lLjavalangStringrLjavalangStringBuilder rfl rfl rfl rfl rfl (fun _ q => q) fun v5 h5 q5 l5 => ?_
  obtain ⟨rfl, q⟩ := q5
  refine g_areturn dj67_6_8 rfl rfl rfl rfl rfl rfl (⟨rfl, q⟩)
end SB0
/-! more steps: an array of references with its class, instanceof that says no, a tableswitch, methods with handlers -/
section More
variable {X : Cx} {R : Room} {Z : State} {a0 : Array Value} {EL : List (String × Nat)} {nw : Bool} {y : MethodName} {bs : ByteArray} {ml : Nat} {rt : Option FieldType} {Q : Option Value → Heap → Prop} {kc ks : Nat} {sf : List Addr} {h : Heap} {k n : Nat} {pc pc' : Nat} {Ls : Array Slot} {st : List Value}
theorem g_anewarrayX {C ad : String} {ix : Nat} {z : Int32} {cap : Nat} (had : "[" ++ (FieldType.object C).toString = ad) (hd : decode bs pc = .ok (.anewarray ix, 3)) (hp : pc + 3 = pc') (w : (Jvm.Cond.classLink y.cls ix C).before a0 Z = true) (w2 : (Jvm.Cond.arrayOver (.object C)).before a0 Z = true) (hz : ¬ z < 0) (hcap : z.toNatClampNeg = cap) (h8 : Nat.ble (cap * 8) 536870912 = true) (hk : Nat.ble (k + 1) R.cells = true) (hn : Nat.ble (n + cap) R.slots = true)
    (G : ∀ h' a kA, a = h.size → Ext h h' → Ovr Z kA C → Exa Z h' a ad → Arv Z h' a kA (.object C) z (List.replicate cap .null) .null → Go X R Z a0 EL nw y bs ml rt Q kc ks (a :: sf) h' (k + 1) (n + cap) (mkF X.m pc' Ls (.ref a :: st))) : Go X R Z a0 EL nw y bs ml rt Q kc ks sf h k n (mkF X.m pc Ls (.int z :: st)) := fun T S => by
  subst hp
  obtain ⟨F, vm0, L, X1, eT, hS, hZ, hown, hC, hF, hE, hs, hN⟩ := S
  obtain ⟨T', h', cA, X2, e2, E2, A2, B2, O2, stp⟩ := newRE X1 F.1 (Z := Z) hZ hown w w2 eT (g := mkF X.m pc Ls (.int z :: st)) rfl (hb F.2.1 hd) rfl hz (cap := cap) (Nat.le_of_eq hcap) (ble h8) (ble hk) (ble hn) had
  have A3 := (Arv.new A2 hz).pad (vs' := List.replicate cap (defaultValue (.object C))) (fun i => by have := pad_rep [] (defaultValue (.object C)) cap i; simpa using this)
  refine (G h' _ cA rfl E2 O2 B2 A3 T' ?_).back stp
  exact ⟨F, vm0, _, X2, e2, ⟨hS.1, hS.2.mono E2.1⟩, hZ, hown, hC.trans (CHr.ext E2 hC.1), hF, ext_trans hE E2, fun x hx => by
    rcases List.mem_cons.mp hx with rfl | hx
    · exact ⟨A3.lt, Safe.ext E2 hC.1 (Safe.new (Nat.le_refl _))⟩
    · exact ⟨Nat.lt_of_lt_of_le (hs x hx).1 E2.1, Safe.ext E2 hC.1 (hs x hx).2⟩, hN⟩
theorem g_instanceofN {K C : String} {ix : Nat} {a : Addr} (hd : decode bs pc = .ok (.instanceof ix, 3)) (hp : pc + 3 = pc') (w : (Jvm.Cond.classLink y.cls ix K).before a0 Z = true) (E : Exa Z h a C) (N : ∃ c t, Z.vm.findClass C = some c ∧ Z.vm.findClass K = some t ∧ Z.vm.assignable c t = false) (G : Go X R Z a0 EL nw y bs ml rt Q kc ks sf h k n (mkF X.m pc' Ls (.int 0 :: st))) : Go X R Z a0 EL nw y bs ml rt Q kc ks sf h k n (mkF X.m pc Ls (.ref a :: st)) := by
  subst hp
  exact Go.same (fun F X1 eT hZ hown => instNo X1 F.1 (Z := Z) hZ hown w eT E N (g := mkF X.m pc Ls (.ref a :: st)) rfl rfl (hb F.2.1 hd)) G
theorem g_tsw {dflt low high : Int} {offs : Array Int} {len : Nat} {o : Int} {i : Int32} (hd : decode bs pc = .ok (.tableswitch dflt low high offs, len)) (hin : ¬ (i.toInt < low ∨ i.toInt > high)) (hoff : offs[(i.toInt - low).toNat]? = some o) (ho : 0 ≤ (pc : Int) + o) (hp : ((pc : Int) + o).toNat = pc')
    (G : Go X R Z a0 EL nw y bs ml rt Q kc ks sf h k n (mkF X.m pc' Ls st)) : Go X R Z a0 EL nw y bs ml rt Q kc ks sf h k n (mkF X.m pc Ls (.int i :: st)) :=
  Go.step (fun T t hT hx hc q => XS.tswIn hT hx rfl rfl (hb hc hd) rfl hin hoff ho hp q) G
theorem g_getfieldV {R0 O nm d : String} {ix : Nat} {a : Addr} {v : Value} (hd : decode bs pc = .ok (.getfield ix, 3)) (hp : pc + 3 = pc') (w : (Jvm.Cond.fieldLink y.cls ix R0 nm d).before a0 Z = true) (via : Via Z R0 O nm d) (Fl : Fld Z h a O nm d v) (G : Go X R Z a0 EL nw y bs ml rt Q kc ks sf h k n (mkF X.m pc' Ls (v :: st))) : Go X R Z a0 EL nw y bs ml rt Q kc ks sf h k n (mkF X.m pc Ls (.ref a :: st)) := by
  subst hp
  exact Go.same (fun F X1 eT hZ hown => getF X1 F.1 (Z := Z) hZ hown (host := "") (Or.inl w) via eT Fl (g := mkF X.m pc Ls (.ref a :: st)) rfl rfl (hb F.2.1 hd)) G
theorem g_putfieldV {R0 O nm d C : String} {ix kk : Nat} {ty : FieldType} {a : Addr} {v old : Value} (hd : decode bs pc = .ok (.putfield ix, 3)) (hp : pc + 3 = pc') (w : (Jvm.Cond.fieldLink y.cls ix R0 nm d).before a0 Z = true) (via : Via Z R0 O nm d) (Fl : Fld Z h a O nm d old) (E : Exa Z h a C)
    (L : (Jvm.Cond.lays C O nm d).before a0 Z = true) (wi : (Jvm.Cond.instantiable C kk).before a0 Z = true) (hty : parseFieldDescriptor d = some ty) (hn : narrow ty v = v) (hf : fits ty v = true) (ha : Z.heap.size ≤ a) (hm : a ∈ sf)
    (G : ∀ h', Wr h h' a (RoadKit.slotOf Z O nm d) v → Go X R Z a0 EL nw y bs ml rt Q kc ks sf h' k n (mkF X.m pc' Ls st)) : Go X R Z a0 EL nw y bs ml rt Q kc ks sf h k n (mkF X.m pc Ls (v :: .ref a :: st)) := by
  subst hp
  exact Go.write (v := v) ha (sfIn hm) (fun F X1 eT hZ hown => putF X1 F.1 (Z := Z) hZ hown (host := "") (Or.inl w) via eT Fl E (Or.inl L) wi hty hn hf (g := mkF X.m pc Ls (v :: .ref a :: st)) rfl rfl (hb F.2.1 hd)) G
theorem g_getstaticN {O nm d host : String} {ix : Nat} {v : Value} (hd : decode bs pc = .ok (.getstatic ix, 3)) (hp : pc + 3 = pc') (w : (Jvm.Cond.fieldLinkNest y.cls ix O nm d host).before a0 Z = true) (Fl : Sta Z Z.heap O nm d v) (G : Go X R Z a0 EL nw y bs ml rt Q kc ks sf h k n (mkF X.m pc' Ls (v :: st))) : Go X R Z a0 EL nw y bs ml rt Q kc ks sf h k n (mkF X.m pc Ls st) := by
  subst hp
  exact Go.old fun E => Go.same (fun F X1 eT hZ hown => getS2 X1 F.1 (Z := Z) hZ hown (Or.inr w) Via.refl eT (Fl.ext E) (g := mkF X.m pc Ls st) rfl (hb F.2.1 hd)) G
theorem ns_root {O K : String} (w : (Jvm.Cond.noSuperclass O).before a0 Z = true) (ni : NI Z K) (hn : O ≠ K) : NS Z O K := by
  obtain ⟨c, k, h1, h2, h3, -, -⟩ := Cond.noSuperclass_spec w
  obtain ⟨t, kt, g1, g2, g3⟩ := ni
  have ne := ids_ne h1 g1 hn
  refine ⟨c, t, h1, g1, fun fuel => ?_⟩
  cases fuel with
  | zero => rfl
  | succ f => simp [Vm.isSubclassAux, ne, h2, h3]
theorem ns_no {C S K : String} (w : (Jvm.Cond.superclass C S).before a0 Z = true) (ni : NI Z K) (n : NS Z C K) (hn : C ≠ K) : ∃ c t, Z.vm.findClass C = some c ∧ Z.vm.findClass K = some t ∧ Z.vm.assignable c t = false := by
  obtain ⟨c, t, h0, g0, n3⟩ := n
  obtain ⟨p, k, kp, h1, h2, h3, h4, h5, -, h7⟩ := Cond.superclass_spec h0 w
  obtain ⟨t', kt, g1, g2, g3⟩ := ni
  cases g0.symm.trans g1
  have ne := ids_ne h0 g0 hn
  refine ⟨c, t, h0, g0, ?_⟩
  show Z.vm.assignableAux (255 + 1) c t = false
  cases hk : kt.kind <;> simp [Vm.assignableAux, ne, h2, g2, h5, hk, g3, Vm.isSubclass, n3]
/-- a method with an exception table, whose walk throws and interns nothing -/
theorem Pay.of_with {l : Launch} {rm : Room} {as' : Array Value} {W : Nat} {hsn : List (Nat × Nat × Nat × Nat)} (wsl : List Addr) (hpl : plainFor y = true) (EZ : Ext Z.heap h) (hlt : ∀ x ∈ wsl, x < h.size)
    (H : ∀ X : Cx, X.l = l → Go X rm Z a0 [] true y bs ml rt (fun v h' => Q v h' ∧ Keep h h' wsl) rm.cells rm.slots wsl h 0 0 (entryFrame X.m as' ml))
    (wc : (Jvm.Cond.codeWith y bs ml rt hsn).before a0 Z = true) (wz : (Jvm.Cond.initialized y.cls).before a0 Z = true) (hf : Nat.ble (rm.frames + 1) R.frames = true) (hl : Nat.ble (W + (ml + 11) + rm.locals) R.locals = true) (hw : ∀ x ∈ wsl, x ∈ sf ∧ Z.heap.size ≤ x) :
    Pay l R y W as' Z a0 EL nw sf h rm.cells rm.slots Q := by
  refine Pay.of_back (Q0 := fun v h' L => (Q v h' ∧ Keep h h' wsl) ∧ Fr Z.heap.size L) wsl (fun p e below s args len hZ => backOfWith (rm := rm) (hs := hsn) (as' := as') (h := h) (l := l) (p := p) (e := e) (below := below) (args := args) (len := len) (Q := fun v h' L => (Q v h' ∧ Keep h h' wsl) ∧ Fr Z.heap.size L) ?_ hZ wc wz (ble hf) (ble hl)) hw fun v h' L q => ⟨q.1.1, q.1.2, q.2⟩
  refine MetFree.of_bodySF hpl hisWith ?_
  intro p e s m args below meth c s₁ Bd hml0 hP hK
  obtain ⟨rfl, hZ, rfl⟩ := hP
  have e0 : s₁.heap = s.heap := by rw [Bd.state]; rfl
  have hC : CHv Z [] s.vm s.heap := fun p hp => nomatch hp
  obtain ⟨s₂, o, r1, r2, r3, v, L, ho, ⟨q1, q2, q3⟩, -, hN, hR⟩ := H (p, l, e, s, m, args, below, meth, c) rfl s₁ ⟨⟨Bd.exec, Bd.bytes, hml0, Bd.returns, (name_of_methodNamed Bd.named Bd.method).1, Bd.notSynchronized, EW.nil⟩, s.vm, [], Stand.of_body Bd, e0, (State.WarmedH.refl s).since _, hZ, findClass_of_methodNamed Bd.named, CHr.refl hC, Fr.nil _, EZ, fun x hx => ⟨hlt x hx, fun B => by obtain ⟨p, hp, -⟩ := B; exact nomatch hp⟩, fun _ => State.WarmedH.refl s⟩
  exact ⟨s₂, o, r1, r2, r3, v, L, ho, ⟨q1, q2⟩, hR.1, hN rfl, hR.2.2.2⟩
end More
/-! exceptions made by the walk: a stack trace is filled in beneath, so the tables' methods and the frames beneath must be known -/
section ExcW
open Jvm.Free.Exc
variable {X : Cx} {R : Room} {Z : State} {a0 : Array Value} {EL : List (String × Nat)} {nw : Bool} {y : MethodName} {bs : ByteArray} {ml : Nat} {rt : Option FieldType} {Q : Option Value → Heap → Prop} {kc ks : Nat} {sf : List Addr} {h : Heap} {k n : Nat} {pc pc' : Nat} {Ls : Array Slot} {st : List Value}
/-- what such a walk must know of its start -/
def Kn (X : Cx) (Z : State) : Prop := X.s.vm.MethodsKnown ∧ X.s.vm.FramesKnown X.below ∧ Ext Z.heap X.s.heap
def MetK (ws : List Jvm.Cond) (l : Launch) (y : MethodName) (bs : ByteArray) (ml : Nat) (rt : Option FieldType) (rm : Room) (as' : Array Value) (Z : State) (a0 : Array Value) (EL : List (String × Nat)) (nw : Bool) (sf : List Addr) (h : Heap) (Q : Option Value → Heap → Prop) : Prop :=
  MetFree l y (head1 (Jvm.Cond.code y bs ml rt :: ws) rm) (fun a U => a = as' ∧ Z.Warmed39 U.vm ∧ U.heap = h ∧ CHv Z EL U.vm h ∧ Ext Z.heap h ∧ EW Z a0 EL ∧ ∀ x ∈ sf, x < h.size ∧ Safe Z EL U.vm h x) (fun _ _ bl s _ => s.vm.MethodsKnown ∧ s.vm.FramesKnown bl)
    (fun _ U o U' => ∃ v L, o = .returned v ∧ (Q v U'.heap ∧ Fr Z.heap.size L ∧ Ext Z.heap U'.heap) ∧ CHr Z EL U.vm U.heap U'.vm U'.heap ∧ (nw = true → U.WarmedH U'.vm) ∧ ReturnedEndW U o U' L rm.cells rm.slots)
theorem MetK.of {ws : List Jvm.Cond} {l : Launch} {rm : Room} {as' : Array Value} (hpl : plainFor y = true)
    (H : ∀ X : Cx, X.l = l → Kn X Z → Go X rm Z a0 EL nw y bs ml rt Q rm.cells rm.slots sf h 0 0 (entryFrame X.m as' ml)) : MetK ws l y bs ml rt rm as' Z a0 EL nw sf h Q := by
  refine MetFree.of_bodySF hpl hisR ?_
  intro p e s m args below meth c s₁ Bd hml0 hP hK
  obtain ⟨rfl, hZ, rfl, hC, hE, hEL, hs⟩ := hP
  have e0 : s₁.heap = s.heap := by rw [Bd.state]; rfl
  exact H (p, l, e, s, m, args, below, meth, c) rfl ⟨hK.1, hK.2, hE⟩ s₁ ⟨⟨Bd.exec, Bd.bytes, hml0, Bd.returns, (name_of_methodNamed Bd.named Bd.method).1, Bd.notSynchronized, hEL⟩, s.vm, [], Stand.of_body Bd, e0, (State.WarmedH.refl s).since _, hZ, findClass_of_methodNamed Bd.named, CHr.refl hC, Fr.nil _, hE, hs, fun _ => State.WarmedH.refl s⟩
def PayK (l : Launch) (R : Room) (y : MethodName) (W : Nat) (as' : Array Value) (Z : State) (a0 : Array Value) (EL : List (String × Nat)) (nw : Bool) (sf : List Addr) (h : Heap) (kc ks : Nat) (Q : Option Value → Heap → Prop) : Prop :=
  ∀ (p : Program) (e : Env) (below : List Frame) (s : State) (args : Array Value) (len : Nat) (vm0 : Vm), p.tables.exec = Jvm.exec → Ext Z.heap s.heap → vm0.MethodsKnown → vm0.FramesKnown below → Z.Warmed39 vm0 → CHv Z EL vm0 h → Ext Z.heap h → (∀ x ∈ sf, x < h.size ∧ Safe Z EL vm0 h x) → EW Z a0 EL →
    BackS l R p e below (s.setVm vm0) args y len W (fun A a => a = as' ∧ A.U.heap = h ∧ A.cells + kc ≤ R.cells ∧ A.slots + ks ≤ R.slots)
      (fun A _ v B => ∃ L, (Q v B.U.heap ∧ Fr Z.heap.size L ∧ Ext Z.heap B.U.heap) ∧ B.locs = A.locs ++ L ∧ B.cells = A.cells + kc ∧ B.slots = A.slots + ks ∧ CHr Z EL vm0 h B.U.vm B.U.heap ∧ (nw = true → (s.setVm vm0).WarmedH B.U.vm))
theorem PayK.of_met {l : Launch} {rm : Room} {as' : Array Value} {W : Nat} (hM : MetK [] l y bs ml rt rm as' Z a0 EL nw sf h Q) (wc : (Jvm.Cond.code y bs ml rt).before a0 Z = true) (wz : (Jvm.Cond.initialized y.cls).before a0 Z = true) (hf : Nat.ble (rm.frames + 1) R.frames = true) (hl : Nat.ble (W + (ml + 11) + rm.locals) R.locals = true) :
    PayK l R y W as' Z a0 EL nw sf h rm.cells rm.slots Q := fun p e below s args len vm0 _ _ hTK hBelow hZ H hE hs hEL =>
  BackS.of_freeWG (bytes := bs) (maxL := ml) (ret := rt) (E := fun _ first o t L k n => k = rm.cells ∧ n = rm.slots ∧ (∃ v, o = .returned v ∧ Q v t.heap ∧ Fr Z.heap.size L ∧ Ext Z.heap t.heap) ∧ CHr Z EL first.vm first.heap t.vm t.heap ∧ (nw = true → first.WarmedH t.vm)) hM (ble hf) (ble hl)
    (fun m meth c A a Y hp => have hU : Z.Warmed39 A.U.vm := wtrans (s := s.setVm vm0) hZ Y.warmed
      ⟨by show (Jvm.Cond.and _ .tt).before a A.U = true; rw [Cond.before_and, mv hU wc]; rfl, mv hU wc, mv hU wz, hp.2.2.1, hp.2.2.2⟩)
    (fun m meth c A a g mk Y hp => ⟨hp.1, wtrans (s := s.setVm vm0) hZ Y.warmed, hp.2.1, (CHv.at Y hZ hEL H).1, hE, hEL, fun x hx => ⟨(hs x hx).1, (CHv.at Y hZ hEL H).safe (hs x hx).1 (hs x hx).2⟩⟩) (fun m meth c A a g mk Y _ hg => known_frames Y hg hTK hBelow)
    (fun _ _ _ _ ⟨v, L, h1, h2, h3, h5, h4⟩ => ⟨L, _, _, h4, rfl, rfl, ⟨v, h1, h2⟩, h3, h5⟩)
    (fun m meth c A a g mk v t L k n Y hp _ _ ⟨e1, e2, ⟨v', e3, e4⟩, e5, e6⟩ => by
      cases e3; subst e1 e2
      refine ⟨L, e4, rfl, rfl, rfl, (CHv.at Y hZ hEL H).trans ?_, fun q => State.WarmedH.trans Y.warmed (e6 q)⟩
      rw [← hp.2.1]; exact e5)
theorem g_staticK {ix : Nat} {y' : MethodName} {bs' : ByteArray} {ml' : Nat} {rt' : Option FieldType} {as' : Array Value} {kc' ks' : Nat} {Q' : Option Value → Heap → Prop} (Kx : Kn X Z) (sfc : List Addr) (argsL : List Value) {ps : List FieldType} {r : Option FieldType} (hd : decode bs pc = .ok (.invokestatic ix, 3)) (hp : pc + 3 = pc')
    (w1 : (Jvm.Cond.methodLink y.cls ix y').before a0 Z = true) (w2 : (Jvm.Cond.static y').before a0 Z = true) (w3 : (Jvm.Cond.initialized y'.cls).before a0 Z = true) (w4 : (Jvm.Cond.code y' bs' ml' rt').before a0 Z = true) (hy : y'.cls ≠ "java/lang/invoke/MethodHandle" ∧ y'.cls ≠ "java/lang/invoke/VarHandle")
    (P : PayK X.l R y' (st.map fun v => v.category).sum as' Z a0 EL nw sfc h kc' ks' Q') (hpd : parseMethodDescriptor y'.desc = some ⟨ps, r⟩) (hlen : argsL.length = ps.length) (hargs : argsL.toArray = as') (hz : Ls.size = ml) (hk : Nat.ble (k + kc') R.cells = true) (hn : Nat.ble (n + ks') R.slots = true) (hsf : ∀ x ∈ sfc, x ∈ sf)
    (G : ∀ v h', Q' v h' → h.size ≤ h'.size → Go X R Z a0 EL nw y bs ml rt Q kc ks sf h' (k + kc') (n + ks') (mkF X.m pc' Ls (v.toList ++ st))) : Go X R Z a0 EL nw y bs ml rt Q kc ks sf h k n (mkF X.m pc Ls (argsL.reverse ++ st)) := fun T S => by
  subst hp
  obtain ⟨F, vm0, L, X1, eT, hS, hZ, hown, hC, hF, hE, hs, hN⟩ := S
  have hal := hS.1.alike
  obtain ⟨v, vm1, B, -, X2, hS2, hle, hq, stp⟩ := callSS X1 F.1 (y := y') hown (mvT (s := X.s.setVm vm0) hZ w1) (mvT (s := X.s.setVm vm0) hZ w2) (mvT (s := X.s.setVm vm0) hZ w3) (mvT (s := X.s.setVm vm0) hZ w4) hy (P _ _ _ _ _ _ vm0 F.1 Kx.2.2 (Vm.MethodsKnown.alikeC hal Kx.1) (Vm.FramesKnown.alikeC hal Kx.2.1) hZ hC.1 hE (fun x hx => hs x (hsf x hx)) F.2.2.2.2.2.2) (g := mkF X.m pc Ls (argsL.reverse ++ st)) rfl (by rw [F.2.2.1]; exact hz) (argsL := argsL) (rest := st) (lenOf hpd hlen) rfl (by show 2 * 0 + _ ≤ _; omega) (hb F.2.1 hd) (fun _ _ => ⟨hargs, eT, ble hk, ble hn⟩)
  exact (Go.back F eT hS hZ hown hC hF hs X2 hS2 hle hq hN G).back fun t q => stp.trans q
/-- new, and the object is untouched -/
theorem g_newU {C : String} {ix sz : Nat} (hd : decode bs pc = .ok (.new ix, 3)) (hp : pc + 3 = pc') (w : (Jvm.Cond.classLink y.cls ix C).before a0 Z = true) (wi : (Jvm.Cond.instantiable C sz).before a0 Z = true) (wz : (Jvm.Cond.initialized C).before a0 Z = true) (hk : Nat.ble (k + 1) R.cells = true) (hn : Nat.ble (n + sz) R.slots = true)
    (G : ∀ h' a, a = h.size → Ext h h' → Exa Z h' a C → (∀ {O nm d : String} {ty : FieldType}, Laid Z a0 C O nm d → parseFieldDescriptor d = some ty → Fld Z h' a O nm d (defaultValue ty)) → Unt h' a → Go X R Z a0 EL nw y bs ml rt Q kc ks (a :: sf) h' (k + 1) (n + sz) (mkF X.m pc' Ls (.ref a :: st))) : Go X R Z a0 EL nw y bs ml rt Q kc ks sf h k n (mkF X.m pc Ls st) := fun T S => by
  subst hp
  obtain ⟨F, vm0, L, X1, eT, hS, hZ, hown, hC, hF, hE, hs, hN⟩ := S
  obtain ⟨T', h', X2, e2, E2, A2, D2, U2, stp⟩ := newO X1 F.1 (Z := Z) hZ hown w wi wz eT (g := mkF X.m pc Ls st) rfl (hb F.2.1 hd) (ble hk) (ble hn)
  refine (G h' _ rfl E2 A2 D2 U2 T' ?_).back stp
  exact ⟨F, vm0, _, X2, e2, ⟨hS.1, hS.2.mono E2.1⟩, hZ, hown, hC.trans (CHr.ext E2 hC.1), hF, ext_trans hE E2, fun x hx => by
    rcases List.mem_cons.mp hx with rfl | hx
    · exact ⟨A2.lt, Safe.ext E2 hC.1 (Safe.new (Nat.le_refl _))⟩
    · exact ⟨Nat.lt_of_lt_of_le (hs x hx).1 E2.1, Safe.ext E2 hC.1 (hs x hx).2⟩, hN⟩
/-- the constructor X(String) of a Throwable that only passes its argument on -/
theorem g_exc1 {ic nI : Nat} {rc : String} {links : List Link} {a : Addr} {msg : Value} (Kx : Kn X Z) (hl : X.l.stackTraces = true) (hd : decode bs pc = .ok (.invokespecial ic, 3)) (hp : pc + 3 = pc') (hok : linksOk 1 links = true)
    (w1 : (Jvm.Cond.methodLink y.cls ic (ctor 1 (headName links))).before a0 Z = true) (w2 : (Jvm.Cond.instanceMethod (ctor 1 (headName links))).before a0 Z = true) (wT : (chainTab 1 rc links).before a0 Z = true) (wi : (Jvm.Cond.instantiable rc nI).before a0 Z = true) (r : ∀ d ∈ twoRefs, d.before a0 Z = true)
    (E : Exa Z h a rc) (N : Unt h a) (B : Fld Z h a tN "backtrace" obD .null) (B2 : Fld Z h a tN "detailMessage" msgD .null) (hmsg : msg.isRef = true) (ha : Z.heap.size ≤ a) (hm : a ∈ sf) (hz : Ls.size = ml) (hf : Nat.ble (4 + links.length) R.frames = true) (hlo : Nat.ble ((st.map fun v => v.category).sum + (56 + 14 * links.length)) R.locals = true) (hk : Nat.ble (k + 1) R.cells = true) (hn : Nat.ble (n + 2752) R.slots = true)
    (G : ∀ h', Keep h h' [a] → Exa Z h' a rc → Unt h' a → Fld Z h' a tN "detailMessage" msgD msg → Fld Z h' a tN "cause" thD (.ref a) → Go X R Z a0 EL nw y bs ml rt Q kc ks sf h' (k + 1) (n + 2752) (mkF X.m pc' Ls st)) : Go X R Z a0 EL nw y bs ml rt Q kc ks sf h k n (mkF X.m pc Ls (msg :: .ref a :: st)) := fun T S => by
  subst hp
  obtain ⟨F, vm0, L, X1, eT, hS, hZ, hown, hC, hF, hE, hs, hN⟩ := S
  have hal := hS.1.alike
  obtain ⟨T', h', X2, e2, K, E', N', M', C', -, stp⟩ := excL1 X1 F.1 hl (Z := Z) (a0 := a0) hZ hown hok w1 w2 wT wi r (ThS.ext Kx.2.2 ThS.start) (ThS.ext hE ThS.start) (Vm.MethodsKnown.alikeC hal Kx.1) (Vm.FramesKnown.alikeC hal Kx.2.1) eT E N B B2 hmsg (g := mkF X.m pc Ls (msg :: .ref a :: st)) rfl (by rw [F.2.2.1]; exact hz) rfl (hb F.2.1 hd) (ble hf) (by show 2 * 0 + _ + _ ≤ _; have := ble hlo; omega) (ble hk) (ble hn)
  have KK := keep_of_kp K
  refine (G h' KK E' N' M' C' T' ?_).back stp
  exact Spot.next F X2 e2 hS hZ hown hC (CHr.keep KK (fun x hx => by cases List.mem_singleton.mp hx; exact (hs a hm).2) hC.1) (Fr.six hF ha) (ext_keep hE KK fun x hx => by cases List.mem_singleton.mp hx; exact ha) hs hN
/-- a call of a method that the named class inherits -/
theorem g_virtualUp {ix : Nat} {C owner : String} {y' z' : MethodName} {as' : Array Value} {kc' ks' : Nat} {Q' : Option Value → Heap → Prop} (sfc : List Addr) {a : Addr} (argsL : List Value) {ps : List FieldType} {r : Option FieldType} (hd : decode bs pc = .ok (.invokevirtual ix, 3)) (hp : pc + 3 = pc')
    (w1 : (Jvm.Cond.methodLink y.cls ix y').before a0 Z = true) (w0 : (Jvm.Cond.sameMethod y'.cls owner y'.name y'.desc).before a0 Z = true) (w2 : (Jvm.Cond.declares ⟨owner, y'.name, y'.desc⟩).before a0 Z = true) (ho : owner ≠ "java/lang/invoke/MethodHandle" ∧ owner ≠ "java/lang/invoke/VarHandle") (w3 : (Jvm.Cond.selects C y' z').before a0 Z = true) (w4 : (Jvm.Cond.instanceMethod z').before a0 Z = true)
    (E : Exa Z h a C) (P : Pay X.l R z' (st.map fun v => v.category).sum as' Z a0 EL nw sfc h kc' ks' Q') (hpd : parseMethodDescriptor y'.desc = some ⟨ps, r⟩) (hlen : argsL.length = ps.length) (hargs : (Value.ref a :: argsL).toArray = as') (hz : Ls.size = ml) (hk : Nat.ble (k + kc') R.cells = true) (hn : Nat.ble (n + ks') R.slots = true) (hsf : ∀ x ∈ sfc, x ∈ sf)
    (G : ∀ v h', Q' v h' → h.size ≤ h'.size → Go X R Z a0 EL nw y bs ml rt Q kc ks sf h' (k + kc') (n + ks') (mkF X.m pc' Ls (v.toList ++ st))) : Go X R Z a0 EL nw y bs ml rt Q kc ks sf h k n (mkF X.m pc Ls (argsL.reverse ++ .ref a :: st)) := fun T S => by
  subst hp
  obtain ⟨F, vm0, L, X1, eT, hS, hZ, hown, hC, hF, hE, hs, hN⟩ := S
  obtain ⟨cq, kq, qa, qb, qc⟩ := isOf (s := X.s.setVm vm0) hZ eT E
  obtain ⟨v, vm1, B, -, X2, hS2, hle, hq, stp⟩ := X1.virtualBackUpS F.1 (x := y') (y := z') hown (mvT (s := X.s.setVm vm0) hZ w1) (mvT (s := X.s.setVm vm0) hZ w0) (mvT (s := X.s.setVm vm0) hZ w2) ho (mvT (s := X.s.setVm vm0) hZ w3) (mvT (s := X.s.setVm vm0) hZ w4) (P _ _ _ _ _ _ vm0 hZ hC.1 hE (fun x hx => hs x (hsf x hx)) F.2.2.2.2.2.2) qa qc (g := mkF X.m pc Ls (argsL.reverse ++ .ref a :: st)) rfl (by rw [F.2.2.1]; exact hz) (Steps.refl _) (argsL := argsL) (rest := st) (lenOf hpd hlen) rfl (by show 2 * 0 + _ ≤ _; omega) (hb F.2.1 hd) (fun _ _ => ⟨hargs, eT, ble hk, ble hn⟩)
  exact (Go.back F eT hS hZ hown hC hF hs X2 hS2 hle hq hN G).back fun t q => stp.trans q
theorem g_specialK {ix : Nat} {y' : MethodName} {bs' : ByteArray} {ml' : Nat} {as' : Array Value} {kc' ks' : Nat} {Q' : Option Value → Heap → Prop} (Kx : Kn X Z) (sfc : List Addr) {a : Addr} (argsL : List Value) {ps : List FieldType} {r : Option FieldType} (hd : decode bs pc = .ok (.invokespecial ix, 3)) (hp : pc + 3 = pc') (hi : y'.name = "<init>")
    (w1 : (Jvm.Cond.methodLink y.cls ix y').before a0 Z = true) (w2 : (Jvm.Cond.instanceMethod y').before a0 Z = true) (w4 : (Jvm.Cond.code y' bs' ml' none).before a0 Z = true) (hy : y'.cls ≠ "java/lang/invoke/MethodHandle" ∧ y'.cls ≠ "java/lang/invoke/VarHandle")
    (P : PayK X.l R y' (st.map fun v => v.category).sum as' Z a0 EL nw sfc h kc' ks' Q') (hpd : parseMethodDescriptor y'.desc = some ⟨ps, r⟩) (hlen : argsL.length = ps.length) (hargs : (Value.ref a :: argsL).toArray = as') (hz : Ls.size = ml) (hk : Nat.ble (k + kc') R.cells = true) (hn : Nat.ble (n + ks') R.slots = true) (hsf : ∀ x ∈ sfc, x ∈ sf)
    (G : ∀ v h', Q' v h' → h.size ≤ h'.size → Go X R Z a0 EL nw y bs ml rt Q kc ks sf h' (k + kc') (n + ks') (mkF X.m pc' Ls (v.toList ++ st))) : Go X R Z a0 EL nw y bs ml rt Q kc ks sf h k n (mkF X.m pc Ls (argsL.reverse ++ .ref a :: st)) := fun T S => by
  subst hp
  obtain ⟨F, vm0, L, X1, eT, hS, hZ, hown, hC, hF, hE, hs, hN⟩ := S
  have hal := hS.1.alike
  obtain ⟨v, vm1, B, -, X2, hS2, hle, hq, stp⟩ := X1.specialBackS F.1 (y := y') hi hown (mvT (s := X.s.setVm vm0) hZ w1) (mvT (s := X.s.setVm vm0) hZ w2) (mvT (s := X.s.setVm vm0) hZ w4) hy (P _ _ _ _ _ _ vm0 F.1 Kx.2.2 (Vm.MethodsKnown.alikeC hal Kx.1) (Vm.FramesKnown.alikeC hal Kx.2.1) hZ hC.1 hE (fun x hx => hs x (hsf x hx)) F.2.2.2.2.2.2) (g := mkF X.m pc Ls (argsL.reverse ++ .ref a :: st)) rfl (by rw [F.2.2.1]; exact hz) (Steps.refl _) (a := a) (argsL := argsL) (rest := st) (lenOf hpd hlen) rfl (by show 2 * 0 + _ ≤ _; omega) (hb F.2.1 hd) (fun _ _ => ⟨hargs, eT, ble hk, ble hn⟩)
  exact (Go.back F eT hS hZ hown hC hF hs X2 hS2 hle hq hN G).back fun t q => stp.trans q
theorem g_virtualK {ix : Nat} {C : String} {y' z' : MethodName} {as' : Array Value} {kc' ks' : Nat} {Q' : Option Value → Heap → Prop} (Kx : Kn X Z) (sfc : List Addr) {a : Addr} (argsL : List Value) {ps : List FieldType} {r : Option FieldType} (hd : decode bs pc = .ok (.invokevirtual ix, 3)) (hp : pc + 3 = pc')
    (w1 : (Jvm.Cond.methodLink y.cls ix y').before a0 Z = true) (w2 : (Jvm.Cond.declares y').before a0 Z = true) (w3 : (Jvm.Cond.selects C y' z').before a0 Z = true) (w4 : (Jvm.Cond.instanceMethod z').before a0 Z = true) (hy : y'.cls ≠ "java/lang/invoke/MethodHandle" ∧ y'.cls ≠ "java/lang/invoke/VarHandle")
    (hnf : NF Z y') (E : Exa Z h a C) (P : PayK X.l R z' (st.map fun v => v.category).sum as' Z a0 EL nw sfc h kc' ks' Q') (hpd : parseMethodDescriptor y'.desc = some ⟨ps, r⟩) (hlen : argsL.length = ps.length) (hargs : (Value.ref a :: argsL).toArray = as') (hz : Ls.size = ml) (hk : Nat.ble (k + kc') R.cells = true) (hn : Nat.ble (n + ks') R.slots = true) (hsf : ∀ x ∈ sfc, x ∈ sf)
    (G : ∀ v h', Q' v h' → h.size ≤ h'.size → Go X R Z a0 EL nw y bs ml rt Q kc ks sf h' (k + kc') (n + ks') (mkF X.m pc' Ls (v.toList ++ st))) : Go X R Z a0 EL nw y bs ml rt Q kc ks sf h k n (mkF X.m pc Ls (argsL.reverse ++ .ref a :: st)) := fun T S => by
  subst hp
  obtain ⟨F, vm0, L, X1, eT, hS, hZ, hown, hC, hF, hE, hs, hN⟩ := S
  have hal := hS.1.alike
  obtain ⟨cq, kq, qa, qb, qc⟩ := isOf (s := X.s.setVm vm0) hZ eT E
  obtain ⟨v, vm1, B, -, X2, hS2, hle, hq, stp⟩ := X1.virtualBackS F.1 (y := y') (z := z') hown (mvT (s := X.s.setVm vm0) hZ w1) (mvT (s := X.s.setVm vm0) hZ w2) (hnf (X.s.setVm vm0) hZ) (mvT (s := X.s.setVm vm0) hZ w3) (mvT (s := X.s.setVm vm0) hZ w4) hy (P _ _ _ _ _ _ vm0 F.1 Kx.2.2 (Vm.MethodsKnown.alikeC hal Kx.1) (Vm.FramesKnown.alikeC hal Kx.2.1) hZ hC.1 hE (fun x hx => hs x (hsf x hx)) F.2.2.2.2.2.2) qa qc (g := mkF X.m pc Ls (argsL.reverse ++ .ref a :: st)) rfl (by rw [F.2.2.1]; exact hz) (Steps.refl _) (argsL := argsL) (rest := st) (lenOf hpd hlen) rfl (by show 2 * 0 + _ ≤ _; omega) (hb F.2.1 hd) (fun _ _ => ⟨hargs, eT, ble hk, ble hn⟩)
  exact (Go.back F eT hS hZ hown hC hF hs X2 hS2 hle hq hN G).back fun t q => stp.trans q
end ExcW
/-! java.util.ArrayList: made empty, elements added (the first one grows it to ten places) -/
section ALs
variable {l : Launch} {R : Room} {Z : State} {a0 : Array Value} {EL : List (String × Nat)} {nw : Bool} {h : Heap} {W : Nat}
abbrev ALN : String := "java/util/ArrayList"
abbrev ALB' : String := "java/util/AbstractList"
abbrev OBN : String := "java/lang/Object"
abbrev OAD : String := "[Ljava/lang/Object;"
abbrev yACi : MethodName := ⟨"java/util/AbstractCollection", "<init>", "()V"⟩
abbrev yABi : MethodName := ⟨"java/util/AbstractList", "<init>", "()V"⟩
abbrev yALi : MethodName := ⟨"java/util/ArrayList", "<init>", "()V"⟩
abbrev yAdd : MethodName := ⟨"java/util/ArrayList", "add", "(Ljava/lang/Object;)Z"⟩
abbrev yAdd3 : MethodName := ⟨"java/util/ArrayList", "add", "(Ljava/lang/Object;[Ljava/lang/Object;I)V"⟩
abbrev yGrow : MethodName := ⟨"java/util/ArrayList", "grow", "()[Ljava/lang/Object;"⟩
abbrev yGrowI : MethodName := ⟨"java/util/ArrayList", "grow", "(I)[Ljava/lang/Object;"⟩
/-- ArrayList's shared empty array -/
def DefA (Z : State) (d : Addr) : Prop := Sta Z Z.heap ALN "DEFAULTCAPACITY_EMPTY_ELEMENTDATA" OAD (.ref d) ∧ ∃ k, Arv Z Z.heap d k (.object OBN) 0 [] .null
/-- an ArrayList that holds xs, over the array t (the shared one, or one of ten places) -/
def ALd (Z : State) (h : Heap) (a t d : Addr) (xs : List Addr) : Prop :=
  Exa Z h a ALN ∧ Fld Z h a ALN "elementData" OAD (.ref t) ∧ Fld Z h a ALN "size" "I" (.int (Int32.ofNat xs.length)) ∧ (∃ mc, Fld Z h a ALB' "modCount" "I" (.int mc)) ∧ ((xs = [] ∧ t = d) ∨ (xs ≠ [] ∧ xs.length ≤ 2 ∧ Z.heap.size ≤ t ∧ ∃ k, Arv Z h t k (.object OBN) 10 (xs.map Value.ref ++ List.replicate (10 - xs.length) .null) .null ∧ Ovr Z k OBN ∧ Exa Z h t OAD))
theorem ALd.ext {h' : Heap} {a t d : Addr} {xs : List Addr} (S : ALd Z h a t d xs) (E : Ext h h') : ALd Z h' a t d xs := by
  obtain ⟨h1, h2, h3, ⟨mc, h4⟩, h5⟩ := S
  exact ⟨h1.ext E, h2.ext E, h3.ext E, ⟨mc, h4.ext E⟩, h5.imp id fun ⟨q1, q2, q3, k, q4, q5, q6⟩ => ⟨q1, q2, q3, k, q4.ext E, q5, q6.ext E⟩⟩
theorem al_ne1 (hw : ∀ d ∈ tables_1, d.before a0 Z = true) : RoadKit.slotOf Z ALN "elementData" OAD ≠ RoadKit.slotOf Z ALB' "modCount" "I" := slot_ne (Or.inl (wy_ArrayList_ArrayList_elementData hw)) (Or.inl (wy_ArrayList_AbstractList_modCount hw)) (by decide) (t := .array (.object "java/lang/Object")) (t' := .int) (by decide) (by decide)
theorem al_ne2 (hw : ∀ d ∈ tables_1, d.before a0 Z = true) : RoadKit.slotOf Z ALN "size" "I" ≠ RoadKit.slotOf Z ALB' "modCount" "I" := slot_ne (Or.inl (wy_ArrayList_ArrayList_size hw)) (Or.inl (wy_ArrayList_AbstractList_modCount hw)) (by decide) (t := .int) (t' := .int) (by decide) (by decide)
theorem al_ne3 (hw : ∀ d ∈ tables_1, d.before a0 Z = true) : RoadKit.slotOf Z ALN "size" "I" ≠ RoadKit.slotOf Z ALN "elementData" OAD := slot_ne (Or.inl (wy_ArrayList_ArrayList_size hw)) (Or.inl (wy_ArrayList_ArrayList_elementData hw)) (by decide) (t := .int) (t' := .array (.object "java/lang/Object")) (by decide) (by decide)
theorem met_ACi (hw : ∀ d ∈ tables_1, d.before a0 Z = true) {a : Addr} : MetW [] l yACi jdk_22_method_1_code 1 none (Rm 1 0 0 12) #[.ref a] Z a0 EL nw [] h (fun v h' => v = none ∧ h' = h) := by
  refine MetW.of (by first | exact plainFor_of_name (by first | (simp [plainName, overriddenIn]; done) | decide +kernel) | decide +kernel) fun X hX => Go.old fun EZ => ?_
  show Go X _ _ _ _ _ _ _ _ _ _ _ _ _ _ _ _ (mkF X.m 0 #[.val (.ref a)] [])
  refine g_aloadN (pc' := 1) dj22_1_0 rfl rfl rfl ?_
  refine g_objinit (pc' := 4) dj22_1_1 rfl (wl_AbstractCollection_1 hw) (wm_Object_init_lrV hw) (wb_Object_init_lrV hw) rfl rfl rfl ?_
  refine g_return dj22_1_4 rfl rfl rfl (⟨rfl, rfl⟩)
theorem met_ABi (hw : ∀ d ∈ tables_1, d.before a0 Z = true) {a : Addr} {v0 : Value} (ha : Z.heap.size ≤ a) (E : Exa Z h a ALN) (Fm : Fld Z h a ALB' "modCount" "I" v0) : MetW [] l yABi jdk_39_method_1_code 1 none (Rm 2 0 0 30) #[.ref a] Z a0 EL nw [a] h (fun v h' => v = none ∧ Wr h h' a (RoadKit.slotOf Z ALB' "modCount" "I") (.int 0)) := by
  refine MetW.of (by first | exact plainFor_of_name (by first | (simp [plainName, overriddenIn]; done) | decide +kernel) | decide +kernel) fun X hX => Go.old fun EZ => ?_
  show Go X _ _ _ _ _ _ _ _ _ _ _ _ _ _ _ _ (mkF X.m 0 #[.val (.ref a)] [])
  refine g_aloadN (pc' := 1) dj39_1_0 rfl rfl rfl ?_
  refine g_invokespecial (pc' := 4) [] [] dj39_1_1 rfl rfl (wl_AbstractList_1 hw) (wm_AbstractCollection_init_lrV hw) (wb_AbstractCollection_init_lrV hw) (by decide) (Pay.of_met (met_ACi hw) (wb_AbstractCollection_init_lrV hw) (wi_AbstractCollection hw) rfl rfl) pd_lrV rfl rfl rfl rfl rfl (fun _ q => nomatch q) fun v1 h1 q1 l1 => ?_
  obtain ⟨rfl, e1⟩ := q1
  have e1 := e1.symm
  subst e1
  refine g_aloadN (pc' := 5) dj39_1_4 rfl rfl rfl ?_
  refine g_iconst (pc' := 6) (w := 0) dj39_1_5 rfl (by decide) ?_
  refine g_putfield (pc' := 9) dj39_1_6 rfl (wf_AbstractList_7 hw) (Fm) (E) (Or.inl (wy_ArrayList_AbstractList_modCount hw)) (wn_ArrayList hw) (ty := .int) (by decide) rfl rfl (ha) (by simp) fun h6 W6 => ?_
  refine g_return dj39_1_9 rfl rfl rfl (⟨rfl, W6⟩)
theorem met_ALi (hw : ∀ d ∈ tables_1, d.before a0 Z = true) {a d : Addr} {v0 v1 : Value} (D : DefA Z d) (ha : Z.heap.size ≤ a) (E : Exa Z h a ALN) (Fe : Fld Z h a ALN "elementData" OAD v0) (Fs : Fld Z h a ALN "size" "I" (.int 0)) (Fm : Fld Z h a ALB' "modCount" "I" v1) : MetW [] l yALi jdk_38_method_2_code 1 none (Rm 3 0 0 45) #[.ref a] Z a0 EL nw [a] h (fun v h' => v = none ∧ Keep h h' [a] ∧ ALd Z h' a d d []) := by
  refine MetW.of (by first | exact plainFor_of_name (by first | (simp [plainName, overriddenIn]; done) | decide +kernel) | decide +kernel) fun X hX => Go.old fun EZ => ?_
  show Go X _ _ _ _ _ _ _ _ _ _ _ _ _ _ _ _ (mkF X.m 0 #[.val (.ref a)] [])
  refine g_aloadN (pc' := 1) dj38_2_0 rfl rfl rfl ?_
  refine g_invokespecial (pc' := 4) [a] [] dj38_2_1 rfl rfl (wl_ArrayList_1 hw) (wm_AbstractList_init_lrV hw) (wb_AbstractList_init_lrV hw) (by decide) (Pay.of_met (met_ABi hw ha E Fm) (wb_AbstractList_init_lrV hw) (wi_AbstractList hw) rfl rfl) pd_lrV rfl rfl rfl rfl rfl (fun _ q => q) fun v1 h1 q1 l1 => ?_
  obtain ⟨rfl, W1⟩ := q1
  refine g_aloadN (pc' := 5) dj38_2_4 rfl rfl rfl ?_
  refine g_getstatic (pc' := 8) dj38_2_5 rfl (wf_ArrayList_39 hw) (D.1) ?_
  refine g_putfield (pc' := 11) dj38_2_8 rfl (wf_ArrayList_9 hw) (Fe.other W1 (Or.inr (al_ne1 hw))) (E.wr W1) (Or.inl (wy_ArrayList_ArrayList_elementData hw)) (wn_ArrayList hw) (ty := (.array (.object "java/lang/Object"))) (by decide) rfl rfl (ha) (by simp) fun h8 W8 => ?_
  refine g_return dj38_2_11 rfl rfl rfl (⟨rfl, ((Keep.refl h [a]).wr W1 (Or.inl (List.mem_cons_self ..))).wr W8 (Or.inl (List.mem_cons_self ..)), (E.wr W1).wr W8, (Fe.other W1 (Or.inr (al_ne1 hw))).same W8, (Fs.other W1 (Or.inr (al_ne2 hw))).other W8 (Or.inr (al_ne3 hw)), ⟨0, (Fm.same W1).other W8 (Or.inr (al_ne1 hw).symm)⟩, Or.inl ⟨rfl, rfl⟩⟩)
theorem met_growI (hw : ∀ d ∈ tables_1, d.before a0 Z = true) {a d : Addr} (D : DefA Z d) (ha : Z.heap.size ≤ a) (E : Exa Z h a ALN) (Fe : Fld Z h a ALN "elementData" OAD (.ref d)) : MetW [] l yGrowI jdk_38_method_6_code 4 (some (.array (.object OBN))) (Rm 1 1 10 30) #[.ref a, .int (Int32.ofNat 1)] Z a0 EL nw [a] h (fun v h' => ∃ t k hm, v = some (.ref t) ∧ t = h.size ∧ Ext h hm ∧ Wr hm h' a (RoadKit.slotOf Z ALN "elementData" OAD) (.ref t) ∧ Arv Z h' t k (.object OBN) 10 (List.replicate 10 .null) .null ∧ Ovr Z k OBN ∧ Exa Z h' t OAD) := by
  obtain ⟨Ds, kd, Da⟩ := D
  refine MetW.of (by first | exact plainFor_of_name (by first | (simp [plainName, overriddenIn]; done) | decide +kernel) | decide +kernel) fun X hX => Go.old fun EZ => ?_
  show Go X _ _ _ _ _ _ _ _ _ _ _ _ _ _ _ _ (mkF X.m 0 #[.val (.ref a), .val (.int (Int32.ofNat 1)), .unset, .unset] [])
  refine g_aloadN (pc' := 1) dj38_6_0 rfl rfl rfl ?_
  refine g_getfield (pc' := 4) dj38_6_1 rfl (wf_ArrayList_9 hw) (Fe) ?_
  refine g_arraylength (pc' := 5) dj38_6_4 rfl ((Da.ext EZ)) ?_
  refine g_istoreN (pc' := 6) (Ls' := #[_, _, _, _]) dj38_6_5 rfl rfl ?_
  refine g_iloadN (pc' := 7) dj38_6_6 rfl rfl ?_
  refine g_ifgt (pc' := 10) (pc2 := 20) dj38_6_7 rfl (by decide) rfl (fun c7 => ?_) (fun c7 => False.elim (absurd c7 (by decide)))
  refine g_aloadN (pc' := 11) dj38_6_10 rfl rfl rfl ?_
  refine g_getfield (pc' := 14) dj38_6_11 rfl (wf_ArrayList_9 hw) (Fe) ?_
  refine g_getstatic (pc' := 17) dj38_6_14 rfl (wf_ArrayList_39 hw) (Ds) ?_
  refine g_acmp (pc' := 20) (pc2 := 45) dj38_6_17 rfl (by decide) rfl rfl rfl (fun c17 => False.elim (absurd c17 (by simp [XT.acmp]))) (fun c17 => ?_)
  refine g_aloadN (pc' := 46) dj38_6_45 rfl rfl rfl ?_
  refine g_bipush (pc' := 48) (w := 10) dj38_6_46 rfl (by decide) ?_
  refine g_iloadN (pc' := 49) dj38_6_48 rfl rfl ?_
  refine g_invokestatic (pc' := 52) [] [_, _] dj38_6_49 rfl (wl_ArrayList_79 hw) (ws_Math_max_lIIrI hw) (wi_Math hw) (wb_Math_max_lIIrI hw) (by decide) (Pay.of_met (met_max hw (a := 10) (b := 1) (by omega) (by omega)) (wb_Math_max_lIIrI hw) (wi_Math hw) rfl rfl) pd_lIIrI rfl rfl rfl rfl rfl (fun _ q => nomatch q) fun v49 h49 q49 l49 => ?_
  obtain ⟨rfl, rfl⟩ := q49
  refine g_anewarrayX (ad := OAD) (by decide) (pc' := 55) (cap := 10) dj38_6_52 rfl (wc_ArrayList_7 hw) (wo_Object hw) (by decide) (by decide) rfl rfl rfl fun h52 a52 k52 e52 E52 O52 B52 A52 => ?_
  refine g_dup_x1 (pc' := 56) dj38_6_55 rfl rfl rfl ?_
  refine g_putfield (pc' := 59) dj38_6_56 rfl (wf_ArrayList_9 hw) (Fe.ext E52) (E.ext E52) (Or.inl (wy_ArrayList_ArrayList_elementData hw)) (wn_ArrayList hw) (ty := (.array (.object "java/lang/Object"))) (by decide) rfl rfl (ha) (by simp) fun h56 W56 => ?_
  have hne : a52 ≠ a := Nat.ne_of_gt (by rw [e52]; exact E.lt)
  refine g_areturn dj38_6_59 rfl rfl rfl rfl rfl rfl (⟨a52, k52, h52, rfl, e52, E52, W56, A52.other W56 hne, O52, B52.wr W56⟩)
theorem met_grow (hw : ∀ d ∈ tables_1, d.before a0 Z = true) {a d : Addr} (D : DefA Z d) (ha : Z.heap.size ≤ a) (E : Exa Z h a ALN) (Fe : Fld Z h a ALN "elementData" OAD (.ref d)) (Fs : Fld Z h a ALN "size" "I" (.int (Int32.ofNat 0))) : MetW [] l yGrow jdk_38_method_7_code 1 (some (.array (.object OBN))) (Rm 2 1 10 50) #[.ref a] Z a0 EL nw [a] h (fun v h' => ∃ t k hm, v = some (.ref t) ∧ t = h.size ∧ Ext h hm ∧ Wr hm h' a (RoadKit.slotOf Z ALN "elementData" OAD) (.ref t) ∧ Arv Z h' t k (.object OBN) 10 (List.replicate 10 .null) .null ∧ Ovr Z k OBN ∧ Exa Z h' t OAD) := by
  refine MetW.of (by first | exact plainFor_of_name (by first | (simp [plainName, overriddenIn]; done) | decide +kernel) | decide +kernel) fun X hX => Go.old fun EZ => ?_
  show Go X _ _ _ _ _ _ _ _ _ _ _ _ _ _ _ _ (mkF X.m 0 #[.val (.ref a)] [])
  refine g_aloadN (pc' := 1) dj38_7_0 rfl rfl rfl ?_
  refine g_aloadN (pc' := 2) dj38_7_1 rfl rfl rfl ?_
  refine g_getfield (pc' := 5) dj38_7_2 rfl (wf_ArrayList_48 hw) (Fs) ?_
  refine g_iconst (pc' := 6) (w := 1) dj38_7_5 rfl (by decide) ?_
  refine g_iadd (pc' := 7) dj38_7_6 rfl ?_
  refine g_private (pc' := 10) [a] [_] dj38_7_7 rfl (wl_ArrayList_69 hw) (wq_ArrayList_grow_lIrALjavalangObject hw) (wv_ArrayList_ArrayList_grow_lIrALjavalangObject hw) (wm_ArrayList_grow_lIrALjavalangObject hw) (by decide) (wb_ArrayList_grow_lIrALjavalangObject hw) (E) (Pay.of_met (met_growI hw D ha E Fe) (wb_ArrayList_grow_lIrALjavalangObject hw) (wi_ArrayList hw) rfl rfl) pd_lIrALjavalangObject rfl rfl rfl rfl rfl (fun _ q => q) fun v7 h7 q7 l7 => ?_
  obtain ⟨t, k, hm, rfl, r⟩ := q7
  refine g_areturn dj38_7_10 rfl rfl rfl rfl rfl rfl (⟨t, k, hm, rfl, r⟩)
theorem met_add3a (hw : ∀ d ∈ tables_1, d.before a0 Z = true) {a d x : Addr} (D : DefA Z d) (EZ : Ext Z.heap h) (ha : Z.heap.size ≤ a) (E : Exa Z h a ALN) (Fe : Fld Z h a ALN "elementData" OAD (.ref d)) (Fs : Fld Z h a ALN "size" "I" (.int (Int32.ofNat 0))) {mc : Int32} (Fm : Fld Z h a ALB' "modCount" "I" (.int mc)) (I : Ins Z h x OBN true) :
    MetW [] l yAdd3 jdk_38_method_24_code 4 none (Rm 3 1 10 70) #[.ref a, .ref x, .ref d, .int (Int32.ofNat 0)] Z a0 EL true [a] h (fun v h' => v = none ∧ Keep h h' [a] ∧ ∃ t, h.size ≤ t ∧ t < h'.size ∧ ALd Z h' a t d [x]) := by
  refine MetW.of (by first | exact plainFor_of_name (by first | (simp [plainName, overriddenIn]; done) | decide +kernel) | decide +kernel) fun X hX => Go.old fun EZ => ?_
  show Go X _ _ _ _ _ _ _ _ _ _ _ _ _ _ _ _ (mkF X.m 0 #[.val (.ref a), .val (.ref x), .val (.ref d), .val (.int (Int32.ofNat 0))] [])
  refine g_iloadN (pc' := 1) dj38_24_0 rfl rfl ?_
  refine g_aloadN (pc' := 2) dj38_24_1 rfl rfl rfl ?_
  obtain ⟨kd, Da⟩ := id D.2
  refine g_arraylength (pc' := 3) dj38_24_2 rfl ((Da.ext EZ)) ?_
  refine g_icmpne (pc' := 6) (pc2 := 11) dj38_24_3 rfl (by decide) rfl (fun c3 => ?_) (fun c3 => False.elim (c3 rfl))
  refine g_aloadN (pc' := 7) dj38_24_6 rfl rfl rfl ?_
  refine g_privateB [a] (pc' := 10) [a] [] dj38_24_7 rfl (wl_ArrayList_129 hw) (wq_ArrayList_grow_lrALjavalangObject hw) (wv_ArrayList_ArrayList_grow_lrALjavalangObject hw) (wm_ArrayList_grow_lrALjavalangObject hw) (by decide) (wb_ArrayList_grow_lrALjavalangObject hw) (E) (Pay.of_met (met_grow hw D ha E Fe Fs) (wb_ArrayList_grow_lrALjavalangObject hw) (wi_ArrayList hw) rfl rfl) (fun _ _ q => by obtain ⟨_, _, _, -, -, E1, W1, -⟩ := q; exact ((Keep.refl h [a]).ext E1).wr W1 (Or.inl (List.mem_cons_self ..))) (fun _ q => q) pd_lrALjavalangObject rfl rfl rfl rfl rfl (fun _ q => q) fun v7 h7 q7 l7 => ?_
  obtain ⟨t, k, hm, rfl, et, E7, W7, A7, O7, B7⟩ := q7
  have ht : h.size ≤ t := Nat.le_of_eq et.symm
  have hta : t ≠ a := Nat.ne_of_gt (by rw [et]; exact E.lt)
  refine ⟨[t], fun y hy => by cases List.mem_singleton.mp hy; exact ⟨ht, A7.lt⟩, ?_⟩
  have na : a ∉ [t] := fun q => hta (List.mem_singleton.mp q).symm
  refine g_astoreN (pc' := 11) (Ls' := #[_, _, _, _]) dj38_24_10 rfl rfl rfl ?_
  refine g_aloadN (pc' := 12) dj38_24_11 rfl rfl rfl ?_
  refine g_iloadN (pc' := 13) dj38_24_12 rfl rfl ?_
  refine g_aloadN (pc' := 14) dj38_24_13 rfl rfl rfl ?_
  refine g_aastore (pc' := 15) (i := 0) dj38_24_14 rfl A7 O7 ((I.ext E7).wr W7) (Nat.le_trans EZ.1 ht) (by decide) (by decide) (by decide) fun h14 K14 A14 => ?_
  refine g_aloadN (pc' := 16) dj38_24_15 rfl rfl rfl ?_
  refine g_iloadN (pc' := 17) dj38_24_16 rfl rfl ?_
  refine g_iconst (pc' := 18) (w := 1) dj38_24_17 rfl (by decide) ?_
  refine g_iadd (pc' := 19) dj38_24_18 rfl ?_
  refine g_putfield (pc' := 22) dj38_24_19 rfl (wf_ArrayList_48 hw) (((Fs.ext E7).other W7 (Or.inr (al_ne3 hw))).keep K14 na) (((E.ext E7).wr W7).keep K14) (Or.inl (wy_ArrayList_ArrayList_size hw)) (wn_ArrayList hw) (ty := .int) (by decide) rfl rfl (ha) (by simp) fun h19 W19 => ?_
  have A19 := A14.other W19 hta
  refine g_return dj38_24_22 rfl rfl rfl (⟨rfl, ((((Keep.refl h [a]).ext E7).wr W7 (Or.inl (List.mem_cons_self ..))).trans K14 (fun y hy => by cases List.mem_singleton.mp hy; exact Or.inr ht)).wr W19 (Or.inl (List.mem_cons_self ..)), t, ht, A19.lt, (((E.ext E7).wr W7).keep K14).wr W19, (((Fe.ext E7).same W7).keep K14 na).other W19 (Or.inr (al_ne3 hw).symm), (((Fs.ext E7).other W7 (Or.inr (al_ne3 hw))).keep K14 na).same W19, ⟨mc, (((Fm.ext E7).other W7 (Or.inr (al_ne1 hw).symm)).keep K14 na).other W19 (Or.inr (al_ne2 hw).symm)⟩, Or.inr ⟨by simp, by simp, Nat.le_trans EZ.1 ht, k, A19, O7, (B7.keep K14).wr W19⟩⟩)
theorem met_add3b (hw : ∀ d ∈ tables_1, d.before a0 Z = true) {a t d x x0 : Addr} (ha : Z.heap.size ≤ a) (B : ALd Z h a t d [x0]) (I : Ins Z h x OBN true) :
    MetW [] l yAdd3 jdk_38_method_24_code 4 none (Rm 3 1 10 70) #[.ref a, .ref x, .ref t, .int (Int32.ofNat 1)] Z a0 EL nw [a, t] h (fun v h' => v = none ∧ Keep h h' [a, t] ∧ ALd Z h' a t d [x0, x]) := by
  obtain ⟨E, Fe, Fs, ⟨mc, Fm⟩, q⟩ := B
  rcases q with ⟨q, -⟩ | ⟨-, -, zt, k, A, O, Bt⟩
  · exact absurd q (by simp)
  have hta : t ≠ a := (E.neArv A (wn_ArrayList hw)).symm
  have na : a ∉ [t] := fun q => hta (List.mem_singleton.mp q).symm
  refine MetW.of (by first | exact plainFor_of_name (by first | (simp [plainName, overriddenIn]; done) | decide +kernel) | decide +kernel) fun X hX => Go.old fun EZ => ?_
  show Go X _ _ _ _ _ _ _ _ _ _ _ _ _ _ _ _ (mkF X.m 0 #[.val (.ref a), .val (.ref x), .val (.ref t), .val (.int (Int32.ofNat 1))] [])
  refine g_iloadN (pc' := 1) dj38_24_0 rfl rfl ?_
  refine g_aloadN (pc' := 2) dj38_24_1 rfl rfl rfl ?_
  refine g_arraylength (pc' := 3) dj38_24_2 rfl (A) ?_
  refine g_icmpne (pc' := 6) (pc2 := 11) dj38_24_3 rfl (by decide) rfl (fun c3 => False.elim (absurd c3 (by decide))) (fun c3 => ?_)
  refine g_aloadN (pc' := 12) dj38_24_11 rfl rfl rfl ?_
  refine g_iloadN (pc' := 13) dj38_24_12 rfl rfl ?_
  refine g_aloadN (pc' := 14) dj38_24_13 rfl rfl rfl ?_
  refine g_aastore (pc' := 15) (i := 1) dj38_24_14 rfl A O I zt (by decide) (by decide) (by simp) fun h14 K14 A14 => ?_
  refine g_aloadN (pc' := 16) dj38_24_15 rfl rfl rfl ?_
  refine g_iloadN (pc' := 17) dj38_24_16 rfl rfl ?_
  refine g_iconst (pc' := 18) (w := 1) dj38_24_17 rfl (by decide) ?_
  refine g_iadd (pc' := 19) dj38_24_18 rfl ?_
  refine g_putfield (pc' := 22) dj38_24_19 rfl (wf_ArrayList_48 hw) (Fs.keep K14 na) (E.keep K14) (Or.inl (wy_ArrayList_ArrayList_size hw)) (wn_ArrayList hw) (ty := .int) (by decide) rfl rfl (ha) (by simp) fun h19 W19 => ?_
  have A19 := A14.other W19 hta
  have K1 : Keep h h14 [a, t] := ⟨K14.1, fun y c q r => K14.2.1 y c q (fun u => r (by cases List.mem_singleton.mp u; simp)), K14.2.2⟩
  refine g_return dj38_24_22 rfl rfl rfl (⟨rfl, K1.wr W19 (Or.inl (by simp)), (E.keep K14).wr W19, (Fe.keep K14 na).other W19 (Or.inr (al_ne3 hw).symm), (Fs.keep K14 na).same W19, ⟨mc, (Fm.keep K14 na).other W19 (Or.inr (al_ne2 hw).symm)⟩, Or.inr ⟨by simp, by simp, zt, k, A19, O, (Bt.keep K14).wr W19⟩⟩)
/-- the first add -/
theorem met_addA (hw : ∀ d ∈ tables_1, d.before a0 Z = true) {a d x : Addr} (D : DefA Z d) (EZ : Ext Z.heap h) (ha : Z.heap.size ≤ a) (B : ALd Z h a d d []) (I : Ins Z h x OBN true) :
    MetW [] l yAdd jdk_38_method_25_code 2 (some .boolean) (Rm 4 1 10 90) #[.ref a, .ref x] Z a0 EL true [a] h (fun v h' => v = some (.int 1) ∧ Keep h h' [a] ∧ ∃ t, h.size ≤ t ∧ t < h'.size ∧ ALd Z h' a t d [x]) := by
  obtain ⟨E, Fe, Fs, ⟨mc, Fm⟩, -⟩ := B
  refine MetW.of (by first | exact plainFor_of_name (by first | (simp [plainName, overriddenIn]; done) | decide +kernel) | decide +kernel) fun X hX => Go.old fun EZ => ?_
  show Go X _ _ _ _ _ _ _ _ _ _ _ _ _ _ _ _ (mkF X.m 0 #[.val (.ref a), .val (.ref x)] [])
  refine g_aloadN (pc' := 1) dj38_25_0 rfl rfl rfl ?_
  refine g_dup (pc' := 2) dj38_25_1 rfl rfl ?_
  refine g_getfieldV (pc' := 5) dj38_25_2 rfl (wf_ArrayList_63 hw) (Via.of (wrf_ArrayList_AbstractList_modCount hw)) Fm ?_
  refine g_iconst (pc' := 6) (w := 1) dj38_25_5 rfl (by decide) ?_
  refine g_iadd (pc' := 7) dj38_25_6 rfl ?_
  refine g_putfieldV (pc' := 10) dj38_25_7 rfl (wf_ArrayList_63 hw) (Via.of (wrf_ArrayList_AbstractList_modCount hw)) Fm E (wy_ArrayList_AbstractList_modCount hw) (wn_ArrayList hw) (ty := .int) (by decide) rfl rfl ha (by simp) fun h7 W7 => ?_
  refine g_aloadN (pc' := 11) dj38_25_10 rfl rfl rfl ?_
  refine g_aloadN (pc' := 12) dj38_25_11 rfl rfl rfl ?_
  refine g_aloadN (pc' := 13) dj38_25_12 rfl rfl rfl ?_
  refine g_getfield (pc' := 16) dj38_25_13 rfl (wf_ArrayList_9 hw) ((Fe.other W7 (Or.inr (al_ne1 hw)))) ?_
  refine g_aloadN (pc' := 17) dj38_25_16 rfl rfl rfl ?_
  refine g_getfield (pc' := 20) dj38_25_17 rfl (wf_ArrayList_48 hw) ((Fs.other W7 (Or.inr (al_ne2 hw)))) ?_
  have Z7 : Ext Z.heap h7 := ext_keep EZ (Keep.of_wr W7) (allS ha all0)
  refine g_private (pc' := 23) [a] [_, _, _] dj38_25_20 rfl (wl_ArrayList_131 hw) (wq_ArrayList_add_lLjavalangObjectALjavalangObjectIrV hw) (wv_ArrayList_ArrayList_add_lLjavalangObjectALjavalangObjectIrV hw) (wm_ArrayList_add_lLjavalangObjectALjavalangObjectIrV hw) (by decide) (wb_ArrayList_add_lLjavalangObjectALjavalangObjectIrV hw) (E.wr W7) (Pay.of_met (met_add3a hw D Z7 ha (E.wr W7) (Fe.other W7 (Or.inr (al_ne1 hw))) (Fs.other W7 (Or.inr (al_ne2 hw))) (Fm.same W7) (I.wr W7)) (wb_ArrayList_add_lLjavalangObjectALjavalangObjectIrV hw) (wi_ArrayList hw) rfl rfl) pd_lLjavalangObjectALjavalangObjectIrV rfl rfl rfl rfl rfl (fun _ q => q) fun v20 h20 q20 l20 => ?_
  obtain ⟨rfl, K20, t, t1, t2, B20⟩ := q20
  refine g_iconst (pc' := 24) (w := 1) dj38_25_23 rfl (by decide) ?_
  have Kw := (Keep.refl h [a]).wr W7 (Or.inl (List.mem_cons_self ..))
  refine g_ireturn (t := .boolean) dj38_25_24 rfl (by simp) rfl rfl rfl (⟨rfl, Kw.trans K20 (fun _ q => Or.inl q), t, Nat.le_trans Kw.1 t1, t2, B20⟩)
/-- the second add -/
theorem met_addB (hw : ∀ d ∈ tables_1, d.before a0 Z = true) {a t d x x0 : Addr} (ha : Z.heap.size ≤ a) (B : ALd Z h a t d [x0]) (I : Ins Z h x OBN true) :
    MetW [] l yAdd jdk_38_method_25_code 2 (some .boolean) (Rm 4 1 10 90) #[.ref a, .ref x] Z a0 EL nw [a, t] h (fun v h' => v = some (.int 1) ∧ Keep h h' [a, t] ∧ ALd Z h' a t d [x0, x]) := by
  obtain ⟨E, Fe, Fs, ⟨mc, Fm⟩, q⟩ := B
  rcases q with ⟨q, -⟩ | ⟨q1, q2, zt, k, A, O, Bt⟩
  · exact absurd q (by simp)
  have hta : t ≠ a := (E.neArv A (wn_ArrayList hw)).symm
  refine MetW.of (by first | exact plainFor_of_name (by first | (simp [plainName, overriddenIn]; done) | decide +kernel) | decide +kernel) fun X hX => Go.old fun EZ => ?_
  show Go X _ _ _ _ _ _ _ _ _ _ _ _ _ _ _ _ (mkF X.m 0 #[.val (.ref a), .val (.ref x)] [])
  refine g_aloadN (pc' := 1) dj38_25_0 rfl rfl rfl ?_
  refine g_dup (pc' := 2) dj38_25_1 rfl rfl ?_
  refine g_getfieldV (pc' := 5) dj38_25_2 rfl (wf_ArrayList_63 hw) (Via.of (wrf_ArrayList_AbstractList_modCount hw)) Fm ?_
  refine g_iconst (pc' := 6) (w := 1) dj38_25_5 rfl (by decide) ?_
  refine g_iadd (pc' := 7) dj38_25_6 rfl ?_
  refine g_putfieldV (pc' := 10) dj38_25_7 rfl (wf_ArrayList_63 hw) (Via.of (wrf_ArrayList_AbstractList_modCount hw)) Fm E (wy_ArrayList_AbstractList_modCount hw) (wn_ArrayList hw) (ty := .int) (by decide) rfl rfl ha (by simp) fun h7 W7 => ?_
  have B7 : ALd Z h7 a t d [x0] := ⟨E.wr W7, Fe.other W7 (Or.inr (al_ne1 hw)), Fs.other W7 (Or.inr (al_ne2 hw)), ⟨_, Fm.same W7⟩, Or.inr ⟨q1, q2, zt, k, A.other W7 hta, O, Bt.wr W7⟩⟩
  refine g_aloadN (pc' := 11) dj38_25_10 rfl rfl rfl ?_
  refine g_aloadN (pc' := 12) dj38_25_11 rfl rfl rfl ?_
  refine g_aloadN (pc' := 13) dj38_25_12 rfl rfl rfl ?_
  refine g_getfield (pc' := 16) dj38_25_13 rfl (wf_ArrayList_9 hw) (B7.2.1) ?_
  refine g_aloadN (pc' := 17) dj38_25_16 rfl rfl rfl ?_
  refine g_getfield (pc' := 20) dj38_25_17 rfl (wf_ArrayList_48 hw) (B7.2.2.1) ?_
  refine g_private (pc' := 23) [a, t] [_, _, _] dj38_25_20 rfl (wl_ArrayList_131 hw) (wq_ArrayList_add_lLjavalangObjectALjavalangObjectIrV hw) (wv_ArrayList_ArrayList_add_lLjavalangObjectALjavalangObjectIrV hw) (wm_ArrayList_add_lLjavalangObjectALjavalangObjectIrV hw) (by decide) (wb_ArrayList_add_lLjavalangObjectALjavalangObjectIrV hw) (B7.1) (Pay.of_met (met_add3b hw ha B7 (I.wr W7)) (wb_ArrayList_add_lLjavalangObjectALjavalangObjectIrV hw) (wi_ArrayList hw) rfl rfl) pd_lLjavalangObjectALjavalangObjectIrV rfl rfl rfl rfl rfl (fun _ q => q) fun v20 h20 q20 l20 => ?_
  obtain ⟨rfl, K20, B20⟩ := q20
  refine g_iconst (pc' := 24) (w := 1) dj38_25_23 rfl (by decide) ?_
  have Kw := (Keep.refl h [a, t]).wr W7 (Or.inl (by simp))
  refine g_ireturn (t := .boolean) dj38_25_24 rfl (by simp) rfl rfl rfl (⟨rfl, Kw.trans K20 (fun _ q => Or.inl q), B20⟩)
end ALs
/-! java.util.ImmutableCollections: List.copyOf of an ArrayList of at most two Strings -/
section ICc
variable {l : Launch} {R : Room} {Z : State} {a0 : Array Value} {EL : List (String × Nat)} {nw : Bool} {h : Heap} {W : Nat} {sf : List Addr}
abbrev L12N : String := "java/util/ImmutableCollections$List12"
abbrev LNN : String := "java/util/ImmutableCollections$ListN"
abbrev ICN : String := "java/util/ImmutableCollections"
abbrev LND : String := "Ljava/util/ImmutableCollections$ListN;"
abbrev STN : String := "java/lang/String"
abbrev OBD : String := "Ljava/lang/Object;"
/-- ImmutableCollections' statics: its empty list el (over the array ee), its mark em -/
def ICS (Z : State) (el em : Addr) : Prop := Sta Z Z.heap ICN "EMPTY_LIST" LND (.ref el) ∧ Sta Z Z.heap ICN "EMPTY" OBD (.ref em) ∧ Exa Z Z.heap el LNN ∧ Exa Z Z.heap em OBN ∧ ∃ ee k, Fld Z Z.heap el LNN "elements" OAD (.ref ee) ∧ Arv Z Z.heap ee k (.object OBN) 0 [] .null
/-- an immutable list that holds xs -/
def ILd (Z : State) (h : Heap) (a el em : Addr) (xs : List Addr) : Prop :=
  (xs = [] ∧ a = el) ∨ (∃ x, xs = [x] ∧ Exa Z h a L12N ∧ Fld Z h a L12N "e0" OBD (.ref x) ∧ Fld Z h a L12N "e1" OBD (.ref em)) ∨ (∃ x y, xs = [x, y] ∧ Exa Z h a L12N ∧ Fld Z h a L12N "e0" OBD (.ref x) ∧ Fld Z h a L12N "e1" OBD (.ref y))
theorem ILd.ext {h' : Heap} {a el em : Addr} {xs : List Addr} (S : ILd Z h a el em xs) (E : Ext h h') : ILd Z h' a el em xs := by
  rcases S with q | ⟨x, q, h1, h2, h3⟩ | ⟨x, y, q, h1, h2, h3⟩
  · exact Or.inl q
  · exact Or.inr (Or.inl ⟨x, q, h1.ext E, h2.ext E, h3.ext E⟩)
  · exact Or.inr (Or.inr ⟨x, y, q, h1.ext E, h2.ext E, h3.ext E⟩)
abbrev yAICi : MethodName := ⟨"java/util/ImmutableCollections$AbstractImmutableCollection", "<init>", "()V"⟩
abbrev yAILi : MethodName := ⟨"java/util/ImmutableCollections$AbstractImmutableList", "<init>", "()V"⟩
abbrev yL1 : MethodName := ⟨"java/util/ImmutableCollections$List12", "<init>", "(Ljava/lang/Object;)V"⟩
abbrev yL2 : MethodName := ⟨"java/util/ImmutableCollections$List12", "<init>", "(Ljava/lang/Object;Ljava/lang/Object;)V"⟩
abbrev yRNN : MethodName := ⟨"java/util/Objects", "requireNonNull", "(Ljava/lang/Object;)Ljava/lang/Object;"⟩
abbrev yLof : MethodName := ⟨"java/util/List", "of", "([Ljava/lang/Object;)Ljava/util/List;"⟩
abbrev yLof0 : MethodName := ⟨"java/util/List", "of", "()Ljava/util/List;"⟩
abbrev yLcp : MethodName := ⟨"java/util/List", "copyOf", "(Ljava/util/Collection;)Ljava/util/List;"⟩
abbrev yLC : MethodName := ⟨"java/util/ImmutableCollections", "listCopy", "(Ljava/util/Collection;)Ljava/util/List;"⟩
abbrev yIsE : MethodName := ⟨"java/util/ArrayList", "isEmpty", "()Z"⟩
abbrev yTA : MethodName := ⟨"java/util/ArrayList", "toArray", "()[Ljava/lang/Object;"⟩
abbrev yCpO : MethodName := ⟨"java/util/Arrays", "copyOf", "([Ljava/lang/Object;I)[Ljava/lang/Object;"⟩
theorem l12_ne (hw : ∀ d ∈ tables_1, d.before a0 Z = true) : RoadKit.slotOf Z L12N "e1" OBD ≠ RoadKit.slotOf Z L12N "e0" OBD := slot_ne (Or.inr (wy_ImmutableCollectionsSList12_ImmutableCollectionsSList12_e1 hw)) (Or.inr (wy_ImmutableCollectionsSList12_ImmutableCollectionsSList12_e0 hw)) (by decide) (t := .object "java/lang/Object") (t' := .object "java/lang/Object") (by decide) (by decide)
theorem met_AICi (hw : ∀ d ∈ tables_1, d.before a0 Z = true) {a : Addr} : MetW [] l yAICi jdk_47_method_1_code 1 none (Rm 2 0 0 30) #[.ref a] Z a0 EL nw [] h (fun v h' => v = none ∧ h' = h) := by
  refine MetW.of (by first | exact plainFor_of_name (by first | (simp [plainName, overriddenIn]; done) | decide +kernel) | decide +kernel) fun X hX => Go.old fun EZ => ?_
  show Go X _ _ _ _ _ _ _ _ _ _ _ _ _ _ _ _ (mkF X.m 0 #[.val (.ref a)] [])
  refine g_aloadN (pc' := 1) dj47_1_0 rfl rfl rfl ?_
  refine g_invokespecial (pc' := 4) [] [] dj47_1_1 rfl rfl (wl_ImmutableCollectionsSAbstractImmutableCollection_1 hw) (wm_AbstractCollection_init_lrV hw) (wb_AbstractCollection_init_lrV hw) (by decide) (Pay.of_met (met_ACi hw) (wb_AbstractCollection_init_lrV hw) (wi_AbstractCollection hw) rfl rfl) pd_lrV rfl rfl rfl rfl rfl (fun _ q => nomatch q) fun v1 h1 q1 l1 => ?_
  obtain ⟨rfl, rfl⟩ := q1
  refine g_return dj47_1_4 rfl rfl rfl (⟨rfl, rfl⟩)
theorem met_AILi (hw : ∀ d ∈ tables_1, d.before a0 Z = true) {a : Addr} : MetW [] l yAILi jdk_46_method_1_code 1 none (Rm 3 0 0 45) #[.ref a] Z a0 EL nw [] h (fun v h' => v = none ∧ h' = h) := by
  refine MetW.of (by first | exact plainFor_of_name (by first | (simp [plainName, overriddenIn]; done) | decide +kernel) | decide +kernel) fun X hX => Go.old fun EZ => ?_
  show Go X _ _ _ _ _ _ _ _ _ _ _ _ _ _ _ _ (mkF X.m 0 #[.val (.ref a)] [])
  refine g_aloadN (pc' := 1) dj46_1_0 rfl rfl rfl ?_
  refine g_invokespecial (pc' := 4) [] [] dj46_1_1 rfl rfl (wl_ImmutableCollectionsSAbstractImmutableList_1 hw) (wm_ImmutableCollectionsSAbstractImmutableCollection_init_lrV hw) (wb_ImmutableCollectionsSAbstractImmutableCollection_init_lrV hw) (by decide) (Pay.of_met (met_AICi hw) (wb_ImmutableCollectionsSAbstractImmutableCollection_init_lrV hw) (wi_ImmutableCollectionsSAbstractImmutableCollection hw) rfl rfl) pd_lrV rfl rfl rfl rfl rfl (fun _ q => nomatch q) fun v1 h1 q1 l1 => ?_
  obtain ⟨rfl, rfl⟩ := q1
  refine g_return dj46_1_4 rfl rfl rfl (⟨rfl, rfl⟩)
theorem met_RNN (hw : ∀ d ∈ tables_1, d.before a0 Z = true) {x : Addr} : MetW [] l yRNN jdk_31_method_10_code 1 (some (.object OBN)) (Rm 0 0 0 0) #[.ref x] Z a0 EL nw [] h (fun v h' => v = some (.ref x) ∧ h' = h) := by
  refine MetW.of (by first | exact plainFor_of_name (by first | (simp [plainName, overriddenIn]; done) | decide +kernel) | decide +kernel) fun X hX => Go.old fun EZ => ?_
  show Go X _ _ _ _ _ _ _ _ _ _ _ _ _ _ _ _ (mkF X.m 0 #[.val (.ref x)] [])
  refine g_aloadN (pc' := 1) dj31_10_0 rfl rfl rfl ?_
  refine g_ifnonnullY (pc2 := 12) dj31_10_1 (by decide) rfl ?_
  refine g_aloadN (pc' := 13) dj31_10_12 rfl rfl rfl ?_
  refine g_areturn dj31_10_13 rfl rfl rfl rfl rfl rfl (⟨rfl, rfl⟩)
theorem met_L1 (hw : ∀ d ∈ tables_1, d.before a0 Z = true) {el em a x : Addr} {v0 v1 : Value} (I : ICS Z el em) (ha : Z.heap.size ≤ a) (E : Exa Z h a L12N) (F0 : Fld Z h a L12N "e0" OBD v0) (F1 : Fld Z h a L12N "e1" OBD v1) : MetW [] l yL1 jdk_44_method_1_code 2 none (Rm 4 0 0 60) #[.ref a, .ref x] Z a0 EL nw [a] h (fun v h' => v = none ∧ Keep h h' [a] ∧ ILd Z h' a el em [x]) := by
  refine MetW.of (by first | exact plainFor_of_name (by first | (simp [plainName, overriddenIn]; done) | decide +kernel) | decide +kernel) fun X hX => Go.old fun EZ => ?_
  show Go X _ _ _ _ _ _ _ _ _ _ _ _ _ _ _ _ (mkF X.m 0 #[.val (.ref a), .val (.ref x)] [])
  refine g_aloadN (pc' := 1) dj44_1_0 rfl rfl rfl ?_
  refine g_invokespecial (pc' := 4) [] [] dj44_1_1 rfl rfl (wl_ImmutableCollectionsSList12_1 hw) (wm_ImmutableCollectionsSAbstractImmutableList_init_lrV hw) (wb_ImmutableCollectionsSAbstractImmutableList_init_lrV hw) (by decide) (Pay.of_met (met_AILi hw) (wb_ImmutableCollectionsSAbstractImmutableList_init_lrV hw) (wi_ImmutableCollectionsSAbstractImmutableList hw) rfl rfl) pd_lrV rfl rfl rfl rfl rfl (fun _ q => nomatch q) fun v1 h1 q1 l1 => ?_
  obtain ⟨rfl, e1⟩ := q1
  have e1 := e1.symm
  subst e1
  refine g_aloadN (pc' := 5) dj44_1_4 rfl rfl rfl ?_
  refine g_aloadN (pc' := 6) dj44_1_5 rfl rfl rfl ?_
  refine g_invokestatic (pc' := 9) [] [_] dj44_1_6 rfl (wl_ImmutableCollectionsSList12_7 hw) (ws_Objects_requireNonNull_lLjavalangObjectrLjavalangObject hw) (wi_Objects hw) (wb_Objects_requireNonNull_lLjavalangObjectrLjavalangObject hw) (by decide) (Pay.of_met (met_RNN hw) (wb_Objects_requireNonNull_lLjavalangObjectrLjavalangObject hw) (wi_Objects hw) rfl rfl) pd_lLjavalangObjectrLjavalangObject rfl rfl rfl rfl rfl (fun _ q => nomatch q) fun v6 h6 q6 l6 => ?_
  obtain ⟨rfl, e6⟩ := q6
  have e6 := e6.symm
  subst e6
  refine g_putfield (pc' := 12) dj44_1_9 rfl (wf_ImmutableCollectionsSList12_13 hw) (F0) (E) (Or.inr ⟨wy_ImmutableCollectionsSList12_ImmutableCollectionsSList12_e0 hw, rfl, rfl⟩) (wn_ImmutableCollectionsSList12 hw) (ty := (.object "java/lang/Object")) (by decide) rfl rfl (ha) (by simp) fun h9 W9 => ?_
  refine g_aloadN (pc' := 13) dj44_1_12 rfl rfl rfl ?_
  refine g_getstaticN (pc' := 16) dj44_1_13 rfl (wf_ImmutableCollectionsSList12_19 hw) I.2.1 ?_
  refine g_putfield (pc' := 19) dj44_1_16 rfl (wf_ImmutableCollectionsSList12_24 hw) (F1.other W9 (Or.inr (l12_ne hw))) (E.wr W9) (Or.inr ⟨wy_ImmutableCollectionsSList12_ImmutableCollectionsSList12_e1 hw, rfl, rfl⟩) (wn_ImmutableCollectionsSList12 hw) (ty := (.object "java/lang/Object")) (by decide) rfl rfl (ha) (by simp) fun h16 W16 => ?_
  refine g_return dj44_1_19 rfl rfl rfl (⟨rfl, ((Keep.refl h [a]).wr W9 (Or.inl (List.mem_cons_self ..))).wr W16 (Or.inl (List.mem_cons_self ..)), Or.inr (Or.inl ⟨x, rfl, (E.wr W9).wr W16, (F0.same W9).other W16 (Or.inr (l12_ne hw).symm), (F1.other W9 (Or.inr (l12_ne hw))).same W16⟩)⟩)
theorem met_L2 (hw : ∀ d ∈ tables_1, d.before a0 Z = true) {el em a x x' : Addr} {v0 v1 : Value} (ha : Z.heap.size ≤ a) (E : Exa Z h a L12N) (F0 : Fld Z h a L12N "e0" OBD v0) (F1 : Fld Z h a L12N "e1" OBD v1) : MetW [] l yL2 jdk_44_method_2_code 3 none (Rm 4 0 0 60) #[.ref a, .ref x, .ref x'] Z a0 EL nw [a] h (fun v h' => v = none ∧ Keep h h' [a] ∧ ILd Z h' a el em [x, x']) := by
  refine MetW.of (by first | exact plainFor_of_name (by first | (simp [plainName, overriddenIn]; done) | decide +kernel) | decide +kernel) fun X hX => Go.old fun EZ => ?_
  show Go X _ _ _ _ _ _ _ _ _ _ _ _ _ _ _ _ (mkF X.m 0 #[.val (.ref a), .val (.ref x), .val (.ref x')] [])
  refine g_aloadN (pc' := 1) dj44_2_0 rfl rfl rfl ?_
  refine g_invokespecial (pc' := 4) [] [] dj44_2_1 rfl rfl (wl_ImmutableCollectionsSList12_1 hw) (wm_ImmutableCollectionsSAbstractImmutableList_init_lrV hw) (wb_ImmutableCollectionsSAbstractImmutableList_init_lrV hw) (by decide) (Pay.of_met (met_AILi hw) (wb_ImmutableCollectionsSAbstractImmutableList_init_lrV hw) (wi_ImmutableCollectionsSAbstractImmutableList hw) rfl rfl) pd_lrV rfl rfl rfl rfl rfl (fun _ q => nomatch q) fun v1 h1 q1 l1 => ?_
  obtain ⟨rfl, e1⟩ := q1
  have e1 := e1.symm
  subst e1
  refine g_aloadN (pc' := 5) dj44_2_4 rfl rfl rfl ?_
  refine g_aloadN (pc' := 6) dj44_2_5 rfl rfl rfl ?_
  refine g_invokestatic (pc' := 9) [] [_] dj44_2_6 rfl (wl_ImmutableCollectionsSList12_7 hw) (ws_Objects_requireNonNull_lLjavalangObjectrLjavalangObject hw) (wi_Objects hw) (wb_Objects_requireNonNull_lLjavalangObjectrLjavalangObject hw) (by decide) (Pay.of_met (met_RNN hw) (wb_Objects_requireNonNull_lLjavalangObjectrLjavalangObject hw) (wi_Objects hw) rfl rfl) pd_lLjavalangObjectrLjavalangObject rfl rfl rfl rfl rfl (fun _ q => nomatch q) fun v6 h6 q6 l6 => ?_
  obtain ⟨rfl, e6⟩ := q6
  have e6 := e6.symm
  subst e6
  refine g_putfield (pc' := 12) dj44_2_9 rfl (wf_ImmutableCollectionsSList12_13 hw) (F0) (E) (Or.inr ⟨wy_ImmutableCollectionsSList12_ImmutableCollectionsSList12_e0 hw, rfl, rfl⟩) (wn_ImmutableCollectionsSList12 hw) (ty := (.object "java/lang/Object")) (by decide) rfl rfl (ha) (by simp) fun h9 W9 => ?_
  refine g_aloadN (pc' := 13) dj44_2_12 rfl rfl rfl ?_
  refine g_aloadN (pc' := 14) dj44_2_13 rfl rfl rfl ?_
  refine g_invokestatic (pc' := 17) [] [_] dj44_2_14 rfl (wl_ImmutableCollectionsSList12_7 hw) (ws_Objects_requireNonNull_lLjavalangObjectrLjavalangObject hw) (wi_Objects hw) (wb_Objects_requireNonNull_lLjavalangObjectrLjavalangObject hw) (by decide) (Pay.of_met (met_RNN hw) (wb_Objects_requireNonNull_lLjavalangObjectrLjavalangObject hw) (wi_Objects hw) rfl rfl) pd_lLjavalangObjectrLjavalangObject rfl rfl rfl rfl rfl (fun _ q => nomatch q) fun v14 h14 q14 l14 => ?_
  obtain ⟨rfl, e14⟩ := q14
  have e14 := e14.symm
  subst e14
  refine g_putfield (pc' := 20) dj44_2_17 rfl (wf_ImmutableCollectionsSList12_24 hw) (F1.other W9 (Or.inr (l12_ne hw))) (E.wr W9) (Or.inr ⟨wy_ImmutableCollectionsSList12_ImmutableCollectionsSList12_e1 hw, rfl, rfl⟩) (wn_ImmutableCollectionsSList12 hw) (ty := (.object "java/lang/Object")) (by decide) rfl rfl (ha) (by simp) fun h17 W17 => ?_
  refine g_return dj44_2_20 rfl rfl rfl (⟨rfl, ((Keep.refl h [a]).wr W9 (Or.inl (List.mem_cons_self ..))).wr W17 (Or.inl (List.mem_cons_self ..)), Or.inr (Or.inr ⟨x, x', rfl, (E.wr W9).wr W17, (F0.same W9).other W17 (Or.inr (l12_ne hw).symm), (F1.other W9 (Or.inr (l12_ne hw))).same W17⟩)⟩)
/-- List.of(array): one or two elements -/
theorem met_Lof (hw : ∀ d ∈ tables_1, d.before a0 Z = true) {el em t : Addr} {k : ClassId} {xs : List Addr} (I : ICS Z el em) (EZ : Ext Z.heap h) (A : Arv Z h t k (.object OBN) (Int32.ofNat xs.length) (xs.map Value.ref) .null) (h0 : xs ≠ []) (h2 : xs.length ≤ 2) : MetW [] l yLof jdk_40_method_47_code 2 (some (.object "java/util/List")) (Rm 5 1 2 80) #[.ref t] Z a0 EL nw [] h (fun v h' => ∃ a, v = some (.ref a) ∧ h.size ≤ a ∧ Ext h h' ∧ ILd Z h' a el em xs) := by
  match xs, h0, h2, A with
  | [x], _, _, A =>
    have A : Arv Z h t k (.object OBN) (Int32.ofNat 1) [.ref x] .null := A
    rw [show Int32.ofNat 1 = (1 : Int32) from rfl] at A
    refine MetW.of (by first | exact plainFor_of_name (by first | (simp [plainName, overriddenIn]; done) | decide +kernel) | decide +kernel) fun X hX => Go.old fun EZ => ?_
    show Go X _ _ _ _ _ _ _ _ _ _ _ _ _ _ _ _ (mkF X.m 0 #[.val (.ref t), .unset] [])
    refine g_aloadN (pc' := 1) dj40_47_0 rfl rfl rfl ?_
    refine g_arraylength (pc' := 2) dj40_47_1 rfl (A) ?_
    refine g_tsw (pc' := 34) (i := 1) (o := 32) dj40_47_2 (by decide) rfl (by decide) (by decide) ?_
    refine g_new (pc' := 37) dj40_47_34 rfl (wc_List_96 hw) (wn_ImmutableCollectionsSList12 hw) (wi_ImmutableCollectionsSList12 hw) rfl rfl fun h34 a34 e34 E34 A34 D34 => ?_
    refine g_dup (pc' := 38) dj40_47_37 rfl rfl ?_
    refine g_aloadN (pc' := 39) dj40_47_38 rfl rfl rfl ?_
    refine g_iconst (pc' := 40) (w := 0) dj40_47_39 rfl (by decide) ?_
    refine g_aaload (pc' := 41) (v := .ref x) dj40_47_40 rfl (A.ext E34) rfl (by decide) rfl ?_
    have z34 : Z.heap.size ≤ a34 := by rw [e34]; exact EZ.1
    refine g_invokespecial (pc' := 44) [a34] [_] dj40_47_41 rfl rfl (wl_List_98 hw) (wm_ImmutableCollectionsSList12_init_lLjavalangObjectrV hw) (wb_ImmutableCollectionsSList12_init_lLjavalangObjectrV hw) (by decide) (Pay.of_met (met_L1 hw (x := x) I z34 A34 (D34 (Or.inr (wy_ImmutableCollectionsSList12_ImmutableCollectionsSList12_e0 hw)) (ty := .object "java/lang/Object") (by decide)) (D34 (Or.inr (wy_ImmutableCollectionsSList12_ImmutableCollectionsSList12_e1 hw)) (ty := .object "java/lang/Object") (by decide))) (wb_ImmutableCollectionsSList12_init_lLjavalangObjectrV hw) (wi_ImmutableCollectionsSList12 hw) rfl rfl) pd_lLjavalangObjectrV rfl rfl rfl rfl rfl (fun _ q => by cases List.mem_singleton.mp q; simp) fun v41 h41 q41 l41 => ?_
    obtain ⟨rfl, K41, B41⟩ := q41
    refine g_areturn dj40_47_44 rfl rfl rfl rfl rfl rfl (⟨a34, rfl, Nat.le_of_eq e34.symm, ext_keep E34 K41 (allS (Nat.le_of_eq e34.symm) all0), B41⟩)
  | [x, x'], _, _, A =>
    have A : Arv Z h t k (.object OBN) (Int32.ofNat 2) [.ref x, .ref x'] .null := A
    rw [show Int32.ofNat 2 = (2 : Int32) from rfl] at A
    refine MetW.of (by first | exact plainFor_of_name (by first | (simp [plainName, overriddenIn]; done) | decide +kernel) | decide +kernel) fun X hX => Go.old fun EZ => ?_
    show Go X _ _ _ _ _ _ _ _ _ _ _ _ _ _ _ _ (mkF X.m 0 #[.val (.ref t), .unset] [])
    refine g_aloadN (pc' := 1) dj40_47_0 rfl rfl rfl ?_
    refine g_arraylength (pc' := 2) dj40_47_1 rfl (A) ?_
    refine g_tsw (pc' := 45) (i := 2) (o := 43) dj40_47_2 (by decide) rfl (by decide) (by decide) ?_
    refine g_new (pc' := 48) dj40_47_45 rfl (wc_List_96 hw) (wn_ImmutableCollectionsSList12 hw) (wi_ImmutableCollectionsSList12 hw) rfl rfl fun h45 a45 e45 E45 A45 D45 => ?_
    refine g_dup (pc' := 49) dj40_47_48 rfl rfl ?_
    refine g_aloadN (pc' := 50) dj40_47_49 rfl rfl rfl ?_
    refine g_iconst (pc' := 51) (w := 0) dj40_47_50 rfl (by decide) ?_
    refine g_aaload (pc' := 52) (v := .ref x) dj40_47_51 rfl (A.ext E45) rfl (by decide) rfl ?_
    refine g_aloadN (pc' := 53) dj40_47_52 rfl rfl rfl ?_
    refine g_iconst (pc' := 54) (w := 1) dj40_47_53 rfl (by decide) ?_
    refine g_aaload (pc' := 55) (v := .ref x') dj40_47_54 rfl (A.ext E45) rfl (by decide) rfl ?_
    have z45 : Z.heap.size ≤ a45 := by rw [e45]; exact EZ.1
    refine g_invokespecial (pc' := 58) [a45] [_, _] dj40_47_55 rfl rfl (wl_List_100 hw) (wm_ImmutableCollectionsSList12_init_lLjavalangObjectLjavalangObjectrV hw) (wb_ImmutableCollectionsSList12_init_lLjavalangObjectLjavalangObjectrV hw) (by decide) (Pay.of_met (met_L2 hw (el := el) (em := em) (x := x) (x' := x') z45 A45 (D45 (Or.inr (wy_ImmutableCollectionsSList12_ImmutableCollectionsSList12_e0 hw)) (ty := .object "java/lang/Object") (by decide)) (D45 (Or.inr (wy_ImmutableCollectionsSList12_ImmutableCollectionsSList12_e1 hw)) (ty := .object "java/lang/Object") (by decide))) (wb_ImmutableCollectionsSList12_init_lLjavalangObjectLjavalangObjectrV hw) (wi_ImmutableCollectionsSList12 hw) rfl rfl) pd_lLjavalangObjectLjavalangObjectrV rfl rfl rfl rfl rfl (fun _ q => by cases List.mem_singleton.mp q; simp) fun v55 h55 q55 l55 => ?_
    obtain ⟨rfl, K55, B55⟩ := q55
    refine g_areturn dj40_47_58 rfl rfl rfl rfl rfl rfl (⟨a45, rfl, Nat.le_of_eq e45.symm, ext_keep E45 K55 (allS (Nat.le_of_eq e45.symm) all0), B55⟩)
  | [], q, _, _ => exact absurd rfl q
  | _ :: _ :: _ :: _, _, q, _ => simp at q
theorem met_isE (hw : ∀ d ∈ tables_1, d.before a0 Z = true) {a t d : Addr} {xs : List Addr} (B : ALd Z h a t d xs) (h2 : xs.length ≤ 2) : MetW [] l yIsE jdk_38_method_9_code 1 (some .boolean) (Rm 0 0 0 0) #[.ref a] Z a0 EL nw [] h (fun v h' => v = some (.int (if xs = [] then 1 else 0)) ∧ h' = h) := by
  have q : Int32.ofNat xs.length = 0 ↔ xs = [] := by
    rw [show (0 : Int32) = Int32.ofNat 0 from rfl, ofNat_inj (by omega) (by omega)]
    exact List.length_eq_zero_iff
  refine MetW.of (by first | exact plainFor_of_name (by first | (simp [plainName, overriddenIn]; done) | decide +kernel) | decide +kernel) fun X hX => Go.old fun EZ => ?_
  show Go X _ _ _ _ _ _ _ _ _ _ _ _ _ _ _ _ (mkF X.m 0 #[.val (.ref a)] [])
  refine g_aloadN (pc' := 1) dj38_9_0 rfl rfl rfl ?_
  refine g_getfield (pc' := 4) dj38_9_1 rfl (wf_ArrayList_48 hw) (B.2.2.1) ?_
  refine g_ifne (pc' := 7) (pc2 := 11) dj38_9_4 rfl (by decide) rfl (fun c4 => ?_) (fun c4 => ?_)
  · refine g_iconst (pc' := 8) (w := 1) dj38_9_7 rfl (by decide) ?_
    refine g_goto (pc' := 12) dj38_9_8 (by decide) rfl ?_
    refine g_ireturn (t := .boolean) dj38_9_12 rfl (by simp) rfl rfl rfl (⟨by rw [if_pos (q.mp c4)], rfl⟩)
  · refine g_iconst (pc' := 12) (w := 0) dj38_9_11 rfl (by decide) ?_
    refine g_ireturn (t := .boolean) dj38_9_12 rfl (by simp) rfl rfl rfl (⟨by rw [if_neg (fun z => c4 (q.mpr z))], rfl⟩)
theorem met_Lof0 (hw : ∀ d ∈ tables_1, d.before a0 Z = true) {el em : Addr} (I : ICS Z el em) : MetW [] l yLof0 jdk_40_method_36_code 0 (some (.object "java/util/List")) (Rm 0 0 0 0) #[] Z a0 EL nw [] h (fun v h' => v = some (.ref el) ∧ h' = h) := by
  refine MetW.of (by first | exact plainFor_of_name (by first | (simp [plainName, overriddenIn]; done) | decide +kernel) | decide +kernel) fun X hX => Go.old fun EZ => ?_
  show Go X _ _ _ _ _ _ _ _ _ _ _ _ _ _ _ _ (mkF X.m 0 #[] [])
  refine g_getstatic (pc' := 3) dj40_36_0 rfl (wf_List_90 hw) (I.1) ?_
  refine g_areturn dj40_36_3 rfl rfl rfl rfl rfl rfl (⟨rfl, rfl⟩)
/-- Object[]'s mirror is made -/
def Mir (Z : State) (mir : Addr) : Prop := ∃ cO kO, Z.vm.findClass OAD = some cO ∧ Z.vm.classes[cO]? = some kO ∧ kO.mirror = some mir
open Jvm.Free.CopyOfC in
theorem own_cpT {s : State} {args : Array Value} (hw : ∀ d ∈ tables_1, d.before a0 Z = true) (hZ : Z.Warmed39 s.vm) : Copy2.tab.before args s = true := by
  refine (conj_holds (args := args) (first := s) (o := none) (s := s) (idx := []) _ _).mpr ⟨mv hZ (wb_Arrays_copyOf_lALjavalangObjectIrALjavalangObject hw), fun d hd => ?_⟩
  rcases List.mem_append.mp hd with q | q
  · simp only [Copy2.siteAtoms, List.mem_cons, List.not_mem_nil, or_false] at q
    rcases q with rfl | rfl | rfl | rfl | rfl | rfl | rfl | rfl
    · exact mv hZ (wl_Arrays_86 hw)
    · exact mv hZ (wd_Object_getClass_lrLjavalangClass hw)
    · exact mv hZ (wv_Object_Object_getClass_lrLjavalangClass hw)
    · exact mv hZ (wm_Object_getClass_lrLjavalangClass hw)
    · exact mv hZ (wn_Object_getClass_lrLjavalangClass hw)
    · exact mv hZ (wl_Arrays_300 hw)
    · exact mv hZ (ws_Arrays_copyOf_lALjavalangObjectILjavalangClassrALjavalangObject hw)
    · exact mv hZ (wi_Arrays hw)
  · cases List.mem_singleton.mp q
    refine (conj_holds (args := args) (first := s) (o := none) (s := s) (idx := []) _ _).mpr ⟨mv hZ (wb_Arrays_copyOf_lALjavalangObjectILjavalangClassrALjavalangObject hw), fun d hd => ?_⟩
    simp only [List.mem_cons, List.not_mem_nil, or_false] at hd
    rcases hd with rfl | rfl | rfl | rfl | rfl | rfl | rfl | rfl | rfl | rfl | rfl
    · exact mv hZ (wc_Arrays_2 hw)
    · exact Cond.arrayOver_alike hZ.alike (wo_Object hw)
    · exact mv hZ (wl_Arrays_304 hw)
    · exact mv hZ (ws_Math_min_lIIrI hw)
    · exact mv hZ (wi_Math hw)
    · exact mv hZ (wb_Math_min_lIIrI hw)
    · exact mv hZ (wl_Arrays_150 hw)
    · exact mv hZ (wn_System_arraycopy_lLjavalangObjectILjavalangObjectIIrV hw)
    · exact mv hZ (ws_System_arraycopy_lLjavalangObjectILjavalangObjectIIrV hw)
    · exact mv hZ (wi_System hw)
    · exact mv hZ (wc_Arrays_110 hw)
open Jvm.Free.CopyOfC in
/-- Arrays.copyOf(t, n) of the first n places, Strings all -/
theorem pay_cpo (hw : ∀ d ∈ tables_1, d.before a0 Z = true) {mir t : Addr} {k : ClassId} {xs : List Addr} (M : Mir Z mir) (A : Arv Z h t k (.object OBN) 10 (xs.map Value.ref ++ List.replicate (10 - xs.length) .null) .null) (B : Exa Z h t OAD) (hx : ∀ x ∈ xs, Exa Z h x STN) (h2 : xs.length ≤ 2) (hf : Nat.ble 4 R.frames = true) (hl : Nat.ble (W + 77) R.locals = true) :
    Pay l R yCpO W #[.ref t, .int (Int32.ofNat xs.length)] Z a0 EL nw sf h 1 2 (fun v h' => v = some (.ref h.size) ∧ Ext h h' ∧ ∃ k', Arv Z h' h.size k' (.object OBN) (Int32.ofNat xs.length) (xs.map Value.ref) .null) := by
  obtain ⟨cO, kO, m1, m2, m3⟩ := M
  obtain ⟨cA, ⟨a1, a2, a3⟩, -, a5, -, a7, -⟩ := A
  obtain ⟨cA', kb, b1, b2, b3, b4, -⟩ := B
  cases a1.symm.trans b1
  cases m1.symm.trans b2
  obtain ⟨cB, cC, kC, o1, -, o3, o4, o5⟩ := Cond.arrayOver_spec (wo_Object hw)
  have o5 : Z.vm.findClass OAD = some cC := o5
  cases m1.symm.trans o5
  cases m2.symm.trans o3
  obtain ⟨kB, o6, -⟩ := Vm.findClass_spec o1
  obtain ⟨cR, hR⟩ : ∃ c, Z.vm.findClass "java/util/Arrays" = some c := by
    obtain ⟨m, hn⟩ := Cond.code_named (wb_Arrays_copyOf_lALjavalangObjectIrALjavalangObject hw)
    exact ⟨_, findClass_of_methodNamed hn⟩
  have es : cA.slots.size = 10 := by rw [a5]; decide
  have ec : (Int32.ofNat xs.length).toNatClampNeg = xs.length := ofNat_clamp (by omega)
  let g : Copy3.G := ⟨t, cA, Int32.ofNat xs.length, mir, cA.cls, cB, cR⟩
  have emn : Copy3.mn g = Int32.ofNat xs.length := by
    show (if Int32.ofNat xs.length < cA.slots.size.toInt32 then Int32.ofNat xs.length else cA.slots.size.toInt32) = _
    rw [if_pos (by rw [es]; exact (ofNat_lt (b := 10) (by omega) (by omega)).mpr (by omega))]
  have P : Pay l R yCpO W #[.ref t, .int (Int32.ofNat xs.length)] Z a0 EL nw sf h 1 xs.length (fun v h' => v = some (.ref h.size) ∧ Ext h h' ∧ ∃ k', Arv Z h' h.size k' (.object OBN) (Int32.ofNat xs.length) (xs.map Value.ref) .null) := by
    refine Pay.of_back (Q0 := fun v h' L => v = some (.ref h.size) ∧ L = [] ∧ h'[h.size]? = some (copied cA (Copy3.fresh g) 0 0 (Copy3.mn g)) ∧ Ext h h') [] (fun p e below s args len hZ m meth c Ap fr ig mk a X1 hg hsize hdg hW hn hp => ?_) (fun _ q => nomatch q) fun v h' L q => ?_
    · have hU : Z.Warmed39 Ap.U.vm := wtrans hZ X1.warmed
      have hal := hU.alike
      obtain ⟨p1, p2, p3, p4⟩ := hp
      obtain ⟨kO', z1, z2⟩ := hal.2.2 _ _ m2
      obtain ⟨kB', z3, z4⟩ := hal.2.2 _ _ o6
      have hPa : Copy2.P xs.length g a Ap.U := by
        refine ⟨p1, ⟨rfl, by rw [p2]; exact a1, a3, a2.1, ⟨kO', cB, .object OBN, z1, by rw [z2]; exact o4, rfl⟩, by rw [hal.findClass]; exact m1, ⟨kO', z1, by rw [z2]; exact o4, by rw [z2]; exact m3⟩, by rw [hal.findClass]; exact o1, ⟨kB', z3⟩, by rw [hal.findClass]; exact hR, ?_, by show (Int32.ofNat xs.length).toNatClampNeg ≤ xs.length; omega, by show (Int32.ofNat xs.length).toNatClampNeg * 4 ≤ _; omega, by show cA.slots.size < _; omega, fun i hi => ?_⟩, Copy2.notFace_at (a := a) (own_cpT hw hU), rfl⟩
        · show 0 ≤ (Int32.ofNat xs.length).toInt
          rw [toInt_ofNat (by omega)]
          omega
        · have hi : i < cA.slots.size := hi
          refine ⟨_, a7 i hi, ?_⟩
          by_cases q : i < xs.length
          · have ei : (xs.map Value.ref ++ List.replicate (10 - xs.length) Value.null).getD i .null = .ref xs[i] := by
              rw [List.getD_eq_getElem?_getD, List.getElem?_append_left (by rw [List.length_map]; exact q), List.getElem?_map, List.getElem?_eq_getElem q]
              rfl
            obtain ⟨cx, kx, x1, x2, x3, x4, -⟩ := hx xs[i] (List.getElem_mem q)
            obtain ⟨kx', x5, -⟩ := hal.2.2 _ _ x3
            obtain ⟨cy, cT, y1, y2, y3⟩ := Ins.of_exa (hx xs[i] (List.getElem_mem q)) (wx_String_Object hw)
            cases x1.symm.trans y1
            cases o1.symm.trans y2
            refine Or.inr ⟨xs[i], cx, ei, by rw [p2]; exact x1, fun z hz => (by rw [hz] at x4; cases x4), ⟨kx', x5⟩, by rw [hal.assignable]; simpa [x4] using y3⟩
          · refine Or.inl ?_
            rw [List.getD_eq_getElem?_getD, List.getElem?_append_right (by rw [List.length_map]; omega), List.length_map]
            by_cases q2 : i - xs.length < 10 - xs.length
            · rw [List.getElem?_replicate, if_pos q2]; rfl
            · rw [List.getElem?_replicate, if_neg q2]; rfl
      obtain ⟨v, Bp, X2, ⟨e1, e2, e3, e4, e5, e6⟩, stp⟩ := Copy2.pays (l := l) (R := R) (len := len) (W := W) (s := s) (sargs := args) xs.length g (own_cpT hw hZ) (ble hf) (ble hl) m meth c Ap fr ig mk a X1 hg hsize hdg hW hn ⟨p3, p4, hPa⟩
      have hle : h.size ≤ Bp.U.heap.size := by
        have := (Array.getElem?_eq_some_iff.mp e2).1
        rw [p2] at this
        omega
      exact ⟨v, Bp, X2, ⟨[], ⟨by rw [e1, p2], rfl, by rw [← p2]; exact e2, ⟨hle, fun y cy q => e6 y cy (by rw [p2]; exact q)⟩⟩, by rw [e3, List.append_nil], e4, by rw [e5]; show _ = Ap.slots + xs.length; rw [show g.n.toNatClampNeg = xs.length from ec]⟩, stp⟩
    · obtain ⟨q1, rfl, q3, q4⟩ := q
      obtain ⟨f1, f2, f3⟩ := Jvm.Free.SB.copied_facts cA (Copy3.fresh g) 0 0 (Copy3.mn g)
      have fsz : (Copy3.fresh g).slots.size = xs.length := by
        show (Array.replicate (Int32.ofNat xs.length).toNatClampNeg Value.null).size = _
        rw [ec, Array.size_replicate]
      have hel : ∀ j, j < xs.length → (copied cA (Copy3.fresh g) 0 0 (Copy3.mn g)).slots[j]? = some ((xs.map Value.ref).getD j .null) := fun j hj => by
        rw [emn]
        have q := Jvm.Free.SBG.copied_at (cs := cA) (cd := Copy3.fresh g) (p := 0) (n := xs.length) (by omega) (by omega) (by omega) j
        refine Eq.trans q ?_
        rw [if_pos ⟨Nat.zero_le _, by omega⟩, Nat.sub_zero, Array.getD_eq_getD_getElem?, a7 j (by omega), List.getD_eq_getElem?_getD, List.getElem?_append_left (by rw [List.length_map]; exact hj), List.getD_eq_getElem?_getD]
        rfl
      refine ⟨⟨q1, q4, cA.cls, copied cA (Copy3.fresh g) 0 0 (Copy3.mn g), ⟨q3, ⟨fun z hz => (by rw [f2] at hz; cases hz), kO, by rw [f1]; exact m2, cB, o4⟩, fun hz => (by rw [f2] at hz; cases hz)⟩, f1, by rw [f3, fsz, ec], ofNat_nn (by omega), fun j hj => hel j (by rw [f3, fsz] at hj; exact hj), fun j hj => ?_⟩, keep_ext q4, Fr.nil _⟩
      have hj : j < xs.length := by rw [f3, fsz] at hj; exact hj
      rw [List.getD_eq_getElem?_getD, List.getElem?_map, List.getElem?_eq_getElem hj]
      rfl
  exact P.up (Nat.le_refl _) h2
/-- ArrayList.toArray -/
theorem met_TA (hw : ∀ d ∈ tables_1, d.before a0 Z = true) {mir a t d : Addr} {xs : List Addr} (M : Mir Z mir) (B : ALd Z h a t d xs) (h0 : xs ≠ []) (hx : ∀ x ∈ xs, Exa Z h x STN) : MetW [] l yTA jdk_38_method_16_code 1 (some (.array (.object OBN))) (Rm 4 1 2 80) #[.ref a] Z a0 EL nw [] h (fun v h' => v = some (.ref h.size) ∧ Ext h h' ∧ ∃ k', Arv Z h' h.size k' (.object OBN) (Int32.ofNat xs.length) (xs.map Value.ref) .null) := by
  obtain ⟨E, Fe, Fs, -, q⟩ := B
  rcases q with ⟨q, -⟩ | ⟨-, h2, zt, k, A, O, Bt⟩
  · exact absurd q h0
  refine MetW.of (by first | exact plainFor_of_name (by first | (simp [plainName, overriddenIn]; done) | decide +kernel) | decide +kernel) fun X hX => Go.old fun EZ => ?_
  show Go X _ _ _ _ _ _ _ _ _ _ _ _ _ _ _ _ (mkF X.m 0 #[.val (.ref a)] [])
  refine g_aloadN (pc' := 1) dj38_16_0 rfl rfl rfl ?_
  refine g_getfield (pc' := 4) dj38_16_1 rfl (wf_ArrayList_9 hw) (Fe) ?_
  refine g_aloadN (pc' := 5) dj38_16_4 rfl rfl rfl ?_
  refine g_getfield (pc' := 8) dj38_16_5 rfl (wf_ArrayList_48 hw) (Fs) ?_
  refine g_invokestatic (pc' := 11) [] [_, _] dj38_16_8 rfl (wl_ArrayList_66 hw) (ws_Arrays_copyOf_lALjavalangObjectIrALjavalangObject hw) (wi_Arrays hw) (wb_Arrays_copyOf_lALjavalangObjectIrALjavalangObject hw) (by decide) (pay_cpo hw M A Bt hx h2 rfl rfl) pd_lALjavalangObjectIrALjavalangObject rfl rfl rfl rfl rfl (fun _ q => nomatch q) fun v8 h8 q8 l8 => ?_
  obtain ⟨rfl, r⟩ := q8
  refine g_areturn dj38_16_11 rfl rfl rfl rfl rfl rfl (⟨rfl, r⟩)
theorem al_no (hw : ∀ d ∈ tables_1, d.before a0 Z = true) {K : String} (ni : NI Z K) (h1 : ALN ≠ K) (h2 : "java/util/AbstractList" ≠ K) (h3 : "java/util/AbstractCollection" ≠ K) (h4 : OBN ≠ K) : ∃ c t, Z.vm.findClass ALN = some c ∧ Z.vm.findClass K = some t ∧ Z.vm.assignable c t = false :=
  ns_no (wz_ArrayList_AbstractList hw) ni (NS.step (wz_ArrayList_AbstractList hw) (NS.step (wz_AbstractList_AbstractCollection hw) (NS.step (wz_AbstractCollection_Object hw) (ns_root (wzn_Object hw) ni h4) h3) h2) h1) h1
/-- listCopy of an ArrayList -/
theorem met_LC (hw : ∀ d ∈ tables_1, d.before a0 Z = true) {el em mir a t d : Addr} {xs : List Addr} (I : ICS Z el em) (M : Mir Z mir) (EZ : Ext Z.heap h) (B : ALd Z h a t d xs) (h2 : xs.length ≤ 2) (hx : ∀ x ∈ xs, Exa Z h x STN) : MetW [] l yLC jdk_56_method_3_code 2 (some (.object "java/util/List")) (Rm 6 2 4 110) #[.ref a] Z a0 EL nw [] h (fun v h' => ∃ b, v = some (.ref b) ∧ Ext h h' ∧ ILd Z h' b el em xs) := by
  refine MetW.of (by first | exact plainFor_of_name (by first | (simp [plainName, overriddenIn]; done) | decide +kernel) | decide +kernel) fun X hX => Go.old fun EZ => ?_
  show Go X _ _ _ _ _ _ _ _ _ _ _ _ _ _ _ _ (mkF X.m 0 #[.val (.ref a), .unset] [])
  refine g_aloadN (pc' := 1) dj56_3_0 rfl rfl rfl ?_
  refine g_instanceofN (pc' := 4) dj56_3_1 rfl (wc_ImmutableCollections_10 hw) B.1 (al_no hw (NI.sel (wv_ImmutableCollectionsSList12_ImmutableCollectionsSAbstractImmutableList_size_lrI hw)) (by decide) (by decide) (by decide) (by decide)) ?_
  refine g_ifne (pc' := 7) (pc2 := 26) dj56_3_4 rfl (by decide) rfl (fun c4 => ?_) (fun c4 => False.elim (c4 rfl))
  refine g_aloadN (pc' := 8) dj56_3_7 rfl rfl rfl ?_
  refine g_instanceofN (pc' := 11) dj56_3_8 rfl (wc_ImmutableCollections_12 hw) B.1 (al_no hw (NI.sel (wv_ImmutableCollectionsSListN_ImmutableCollectionsSAbstractImmutableList_size_lrI hw)) (by decide) (by decide) (by decide) (by decide)) ?_
  refine g_ifeq (pc' := 14) (pc2 := 31) dj56_3_11 rfl (by decide) rfl (fun c11 => False.elim (c11 rfl)) (fun c11 => ?_)
  refine g_aloadN (pc' := 32) dj56_3_31 rfl rfl rfl ?_
  refine g_invokeinterface (pc' := 37) [] [] dj56_3_32 rfl (wl_ImmutableCollections_20 hw) (wd_Collection_isEmpty_lrZ hw) (wv_ArrayList_Collection_isEmpty_lrZ hw) (wm_ArrayList_isEmpty_lrZ hw) (wg_Collection_isEmpty_lrZ hw) rfl (wp_ArrayList_isEmpty_lrZ hw) (wu_ArrayList_isEmpty_lrZ hw) (wx_ArrayList_Collection hw) (by decide) (B.1) (Pay.of_met (met_isE hw B h2) (wb_ArrayList_isEmpty_lrZ hw) (wi_ArrayList hw) rfl rfl) pd_lrZ rfl rfl rfl rfl rfl (fun _ q => nomatch q) fun v32 h32 q32 l32 => ?_
  obtain ⟨rfl, e32⟩ := q32
  have e32 := e32.symm
  subst e32
  by_cases h0 : xs = []
  · rw [if_pos h0]
    refine g_ifeq (pc' := 40) (pc2 := 44) dj56_3_37 rfl (by decide) rfl (fun c37 => ?_) (fun c37 => False.elim (absurd c37 (by decide)))
    refine g_invokestatic (pc' := 43) [] [] dj56_3_40 rfl (wl_ImmutableCollections_26 hw) (ws_List_of_lrLjavautilList hw) (wi_List hw) (wb_List_of_lrLjavautilList hw) (by decide) (Pay.of_met (met_Lof0 hw I) (wb_List_of_lrLjavautilList hw) (wi_List hw) rfl rfl) pd_lrLjavautilList rfl rfl rfl rfl rfl (fun _ q => nomatch q) fun v40 h40 q40 l40 => ?_
    obtain ⟨rfl, e40⟩ := q40
    have e40 := e40.symm
    subst e40
    refine g_areturn dj56_3_43 rfl rfl rfl rfl rfl rfl (⟨el, rfl, ext_refl _, Or.inl ⟨h0, rfl⟩⟩)
  · rw [if_neg h0]
    refine g_ifeq (pc' := 40) (pc2 := 44) dj56_3_37 rfl (by decide) rfl (fun c37 => False.elim (c37 rfl)) (fun c37 => ?_)
    refine g_aloadN (pc' := 45) dj56_3_44 rfl rfl rfl ?_
    refine g_invokeinterface (pc' := 50) [] [] dj56_3_45 rfl (wl_ImmutableCollections_30 hw) (wd_Collection_toArray_lrALjavalangObject hw) (wv_ArrayList_Collection_toArray_lrALjavalangObject hw) (wm_ArrayList_toArray_lrALjavalangObject hw) (wg_Collection_toArray_lrALjavalangObject hw) rfl (wp_ArrayList_toArray_lrALjavalangObject hw) (wu_ArrayList_toArray_lrALjavalangObject hw) (wx_ArrayList_Collection hw) (by decide) (B.1) (Pay.of_met (met_TA hw M B h0 hx) (wb_ArrayList_toArray_lrALjavalangObject hw) (wi_ArrayList hw) rfl rfl) pd_lrALjavalangObject rfl rfl rfl rfl rfl (fun _ q => nomatch q) fun v45 h45 q45 l45 => ?_
    obtain ⟨rfl, E45, k', A45⟩ := q45
    refine g_invokestatic (pc' := 53) [] [_] dj56_3_50 rfl (wl_ImmutableCollections_34 hw) (ws_List_of_lALjavalangObjectrLjavautilList hw) (wi_List hw) (wb_List_of_lALjavalangObjectrLjavautilList hw) (by decide) (Pay.of_met (met_Lof hw I (ext_trans EZ E45) A45 h0 h2) (wb_List_of_lALjavalangObjectrLjavautilList hw) (wi_List hw) rfl rfl) pd_lALjavalangObjectrLjavautilList rfl rfl rfl rfl rfl (fun _ q => nomatch q) fun v50 h50 q50 l50 => ?_
    obtain ⟨b, rfl, b1, E50, B50⟩ := q50
    refine g_areturn dj56_3_53 rfl rfl rfl rfl rfl rfl (⟨b, rfl, ext_trans E45 E50, B50⟩)
theorem met_cp (hw : ∀ d ∈ tables_1, d.before a0 Z = true) {el em mir a t d : Addr} {xs : List Addr} (I : ICS Z el em) (M : Mir Z mir) (EZ : Ext Z.heap h) (B : ALd Z h a t d xs) (h2 : xs.length ≤ 2) (hx : ∀ x ∈ xs, Exa Z h x STN) : MetW [] l yLcp jdk_40_method_48_code 1 (some (.object "java/util/List")) (Rm 7 2 4 130) #[.ref a] Z a0 EL nw [] h (fun v h' => ∃ b, v = some (.ref b) ∧ Ext h h' ∧ ILd Z h' b el em xs) := by
  refine MetW.of (by first | exact plainFor_of_name (by first | (simp [plainName, overriddenIn]; done) | decide +kernel) | decide +kernel) fun X hX => Go.old fun EZ => ?_
  show Go X _ _ _ _ _ _ _ _ _ _ _ _ _ _ _ _ (mkF X.m 0 #[.val (.ref a)] [])
  refine g_aloadN (pc' := 1) dj40_48_0 rfl rfl rfl ?_
  refine g_invokestatic (pc' := 4) [] [_] dj40_48_1 rfl (wl_List_112 hw) (ws_ImmutableCollections_listCopy_lLjavautilCollectionrLjavautilList hw) (wi_ImmutableCollections hw) (wb_ImmutableCollections_listCopy_lLjavautilCollectionrLjavautilList hw) (by decide) (Pay.of_met (met_LC hw I M EZ B h2 hx) (wb_ImmutableCollections_listCopy_lLjavautilCollectionrLjavautilList hw) (wi_ImmutableCollections hw) rfl rfl) pd_lLjavautilCollectionrLjavautilList rfl rfl rfl rfl rfl (fun _ q => nomatch q) fun v1 h1 q1 l1 => ?_
  obtain ⟨b, rfl, r⟩ := q1
  refine g_areturn dj40_48_4 rfl rfl rfl rfl rfl rfl (⟨b, rfl, r⟩)
end ICc
/-! ImmutableCollections' lists read: size, get, their iterator -/
section Itr
variable {l : Launch} {R : Room} {Z : State} {a0 : Array Value} {EL : List (String × Nat)} {nw : Bool} {h : Heap} {W : Nat} {sf : List Addr}
abbrev ITN : String := "java/util/ImmutableCollections$ListItr"
abbrev LID : String := "Ljava/util/List;"
abbrev yLnS : MethodName := ⟨"java/util/ImmutableCollections$ListN", "size", "()I"⟩
abbrev yL2S : MethodName := ⟨"java/util/ImmutableCollections$List12", "size", "()I"⟩
abbrev yL2G : MethodName := ⟨"java/util/ImmutableCollections$List12", "get", "(I)Ljava/lang/Object;"⟩
abbrev yItI : MethodName := ⟨"java/util/ImmutableCollections$ListItr", "<init>", "(Ljava/util/List;I)V"⟩
abbrev yItH : MethodName := ⟨"java/util/ImmutableCollections$ListItr", "hasNext", "()Z"⟩
abbrev yItN : MethodName := ⟨"java/util/ImmutableCollections$ListItr", "next", "()Ljava/lang/Object;"⟩
abbrev yIter : MethodName := ⟨"java/util/ImmutableCollections$AbstractImmutableList", "iterator", "()Ljava/util/Iterator;"⟩
theorem met_LnS (hw : ∀ d ∈ tables_1, d.before a0 Z = true) {el em : Addr} (I : ICS Z el em) : MetW [] l yLnS jdk_45_method_3_code 1 (some .int) (Rm 0 0 0 0) #[.ref el] Z a0 EL nw [] h (fun v h' => v = some (.int 0) ∧ h' = h) := by
  obtain ⟨-, -, -, -, ee, k, F, A⟩ := I
  refine MetW.of (by first | exact plainFor_of_name (by first | (simp [plainName, overriddenIn]; done) | decide +kernel) | decide +kernel) fun X hX => Go.old fun EZ => ?_
  show Go X _ _ _ _ _ _ _ _ _ _ _ _ _ _ _ _ (mkF X.m 0 #[.val (.ref el)] [])
  refine g_aloadN (pc' := 1) dj45_3_0 rfl rfl rfl ?_
  refine g_getfield (pc' := 4) dj45_3_1 rfl (wf_ImmutableCollectionsSListN_7 hw) ((F.ext EZ)) ?_
  refine g_arraylength (pc' := 5) dj45_3_4 rfl ((A.ext EZ)) ?_
  refine g_ireturn (t := .int) dj45_3_5 rfl (by simp) rfl rfl rfl (⟨rfl, rfl⟩)
theorem met_L2S (hw : ∀ d ∈ tables_1, d.before a0 Z = true) {el em a : Addr} {xs : List Addr} (I : ICS Z el em) (B : ILd Z h a el em xs) (h0 : xs ≠ []) (hx : ∀ x ∈ xs, x ≠ em) : MetW [] l yL2S jdk_44_method_3_code 1 (some .int) (Rm 0 0 0 0) #[.ref a] Z a0 EL nw [] h (fun v h' => v = some (.int (Int32.ofNat xs.length)) ∧ h' = h) := by
  rcases B with ⟨q, -⟩ | ⟨x, rfl, E, F0, F1⟩ | ⟨x, x', rfl, E, F0, F1⟩
  · exact absurd q h0
  · refine MetW.of (by first | exact plainFor_of_name (by first | (simp [plainName, overriddenIn]; done) | decide +kernel) | decide +kernel) fun X hX => Go.old fun EZ => ?_
    show Go X _ _ _ _ _ _ _ _ _ _ _ _ _ _ _ _ (mkF X.m 0 #[.val (.ref a)] [])
    refine g_aloadN (pc' := 1) dj44_3_0 rfl rfl rfl ?_
    refine g_getfield (pc' := 4) dj44_3_1 rfl (wf_ImmutableCollectionsSList12_24 hw) (F1) ?_
    refine g_getstaticN (pc' := 7) dj44_3_4 rfl (wf_ImmutableCollectionsSList12_19 hw) I.2.1 ?_
    refine g_acmp (pc' := 10) (pc2 := 14) dj44_3_7 rfl (by decide) rfl rfl rfl (fun c7 => False.elim (absurd c7 (by simp [XT.acmp]))) (fun c7 => ?_)
    refine g_iconst (pc' := 15) (w := 1) dj44_3_14 rfl (by decide) ?_
    refine g_ireturn (t := .int) dj44_3_15 rfl (by simp) rfl rfl rfl (⟨rfl, rfl⟩)
  · have ne : x' ≠ em := hx x' (by simp)
    refine MetW.of (by first | exact plainFor_of_name (by first | (simp [plainName, overriddenIn]; done) | decide +kernel) | decide +kernel) fun X hX => Go.old fun EZ => ?_
    show Go X _ _ _ _ _ _ _ _ _ _ _ _ _ _ _ _ (mkF X.m 0 #[.val (.ref a)] [])
    refine g_aloadN (pc' := 1) dj44_3_0 rfl rfl rfl ?_
    refine g_getfield (pc' := 4) dj44_3_1 rfl (wf_ImmutableCollectionsSList12_24 hw) (F1) ?_
    refine g_getstaticN (pc' := 7) dj44_3_4 rfl (wf_ImmutableCollectionsSList12_19 hw) I.2.1 ?_
    refine g_acmp (pc' := 10) (pc2 := 14) dj44_3_7 rfl (by decide) rfl rfl rfl (fun c7 => ?_) (fun c7 => False.elim (absurd c7 (by simp [XT.acmp, ne])))
    refine g_iconst (pc' := 11) (w := 2) dj44_3_10 rfl (by decide) ?_
    refine g_goto (pc' := 15) dj44_3_11 (by decide) rfl ?_
    refine g_ireturn (t := .int) dj44_3_15 rfl (by simp) rfl rfl rfl (⟨rfl, rfl⟩)
theorem met_L2G (hw : ∀ d ∈ tables_1, d.before a0 Z = true) {el em a y : Addr} {xs : List Addr} {i : Nat} (I : ICS Z el em) (B : ILd Z h a el em xs) (hy : xs[i]? = some y) (hx : ∀ x ∈ xs, x ≠ em) : MetW [] l yL2G jdk_44_method_5_code 2 (some (.object OBN)) (Rm 0 0 0 0) #[.ref a, .int (Int32.ofNat i)] Z a0 EL nw [] h (fun v h' => v = some (.ref y) ∧ h' = h) := by
  rcases B with ⟨rfl, -⟩ | ⟨x, rfl, E, F0, F1⟩ | ⟨x, x', rfl, E, F0, F1⟩
  · simp at hy
  · match i, hy with
    | 0, hy =>
      obtain rfl : x = y := by simpa using hy
      refine MetW.of (by first | exact plainFor_of_name (by first | (simp [plainName, overriddenIn]; done) | decide +kernel) | decide +kernel) fun X hX => Go.old fun EZ => ?_
      show Go X _ _ _ _ _ _ _ _ _ _ _ _ _ _ _ _ (mkF X.m 0 #[.val (.ref a), .val (.int (Int32.ofNat 0))] [])
      refine g_iloadN (pc' := 1) dj44_5_0 rfl rfl ?_
      refine g_ifne (pc' := 4) (pc2 := 9) dj44_5_1 rfl (by decide) rfl (fun c1 => ?_) (fun c1 => False.elim (c1 rfl))
      refine g_aloadN (pc' := 5) dj44_5_4 rfl rfl rfl ?_
      refine g_getfield (pc' := 8) dj44_5_5 rfl (wf_ImmutableCollectionsSList12_13 hw) (F0) ?_
      refine g_areturn dj44_5_8 rfl rfl rfl rfl rfl rfl (⟨rfl, rfl⟩)
    | i + 1, hy => simp at hy
  · match i, hy with
    | 0, hy =>
      obtain rfl : x = y := by simpa using hy
      refine MetW.of (by first | exact plainFor_of_name (by first | (simp [plainName, overriddenIn]; done) | decide +kernel) | decide +kernel) fun X hX => Go.old fun EZ => ?_
      show Go X _ _ _ _ _ _ _ _ _ _ _ _ _ _ _ _ (mkF X.m 0 #[.val (.ref a), .val (.int (Int32.ofNat 0))] [])
      refine g_iloadN (pc' := 1) dj44_5_0 rfl rfl ?_
      refine g_ifne (pc' := 4) (pc2 := 9) dj44_5_1 rfl (by decide) rfl (fun c1 => ?_) (fun c1 => False.elim (c1 rfl))
      refine g_aloadN (pc' := 5) dj44_5_4 rfl rfl rfl ?_
      refine g_getfield (pc' := 8) dj44_5_5 rfl (wf_ImmutableCollectionsSList12_13 hw) (F0) ?_
      refine g_areturn dj44_5_8 rfl rfl rfl rfl rfl rfl (⟨rfl, rfl⟩)
    | 1, hy =>
      obtain rfl : x' = y := by simpa using hy
      have ne : x' ≠ em := hx x' (by simp)
      refine MetW.of (by first | exact plainFor_of_name (by first | (simp [plainName, overriddenIn]; done) | decide +kernel) | decide +kernel) fun X hX => Go.old fun EZ => ?_
      show Go X _ _ _ _ _ _ _ _ _ _ _ _ _ _ _ _ (mkF X.m 0 #[.val (.ref a), .val (.int (Int32.ofNat 1))] [])
      refine g_iloadN (pc' := 1) dj44_5_0 rfl rfl ?_
      refine g_ifne (pc' := 4) (pc2 := 9) dj44_5_1 rfl (by decide) rfl (fun c1 => False.elim (absurd c1 (by decide))) (fun c1 => ?_)
      refine g_iloadN (pc' := 10) dj44_5_9 rfl rfl ?_
      refine g_iconst (pc' := 11) (w := 1) dj44_5_10 rfl (by decide) ?_
      refine g_icmpne (pc' := 14) (pc2 := 29) dj44_5_11 rfl (by decide) rfl (fun c11 => ?_) (fun c11 => False.elim (c11 rfl))
      refine g_aloadN (pc' := 15) dj44_5_14 rfl rfl rfl ?_
      refine g_getfield (pc' := 18) dj44_5_15 rfl (wf_ImmutableCollectionsSList12_24 hw) (F1) ?_
      refine g_getstaticN (pc' := 21) dj44_5_18 rfl (wf_ImmutableCollectionsSList12_19 hw) I.2.1 ?_
      refine g_acmp (pc' := 24) (pc2 := 29) dj44_5_21 rfl (by decide) rfl rfl rfl (fun c21 => ?_) (fun c21 => False.elim (absurd c21 (by simp [XT.acmp, ne])))
      refine g_aloadN (pc' := 25) dj44_5_24 rfl rfl rfl ?_
      refine g_getfield (pc' := 28) dj44_5_25 rfl (wf_ImmutableCollectionsSList12_24 hw) (F1) ?_
      refine g_areturn dj44_5_28 rfl rfl rfl rfl rfl rfl (⟨rfl, rfl⟩)
    | i + 2, hy => simp at hy
/-- an iterator over the list a of n elements, at place c -/
def ItD (Z : State) (h : Heap) (i a : Addr) (n c : Nat) : Prop := Exa Z h i ITN ∧ Fld Z h i ITN "list" LID (.ref a) ∧ Fld Z h i ITN "size" "I" (.int (Int32.ofNat n)) ∧ Fld Z h i ITN "cursor" "I" (.int (Int32.ofNat c))
theorem ItD.ext {h' : Heap} {i a : Addr} {n c : Nat} (S : ItD Z h i a n c) (E : Ext h h') : ItD Z h' i a n c := ⟨S.1.ext E, S.2.1.ext E, S.2.2.1.ext E, S.2.2.2.ext E⟩
theorem it_ne1 (hw : ∀ d ∈ tables_1, d.before a0 Z = true) : RoadKit.slotOf Z ITN "size" "I" ≠ RoadKit.slotOf Z ITN "list" LID := slot_ne (Or.inr (wy_ImmutableCollectionsSListItr_ImmutableCollectionsSListItr_size hw)) (Or.inr (wy_ImmutableCollectionsSListItr_ImmutableCollectionsSListItr_list hw)) (by decide) (t := .int) (t' := .object "java/util/List") (by decide) (by decide)
theorem it_ne2 (hw : ∀ d ∈ tables_1, d.before a0 Z = true) : RoadKit.slotOf Z ITN "cursor" "I" ≠ RoadKit.slotOf Z ITN "list" LID := slot_ne (Or.inl (wy_ImmutableCollectionsSListItr_ImmutableCollectionsSListItr_cursor hw)) (Or.inr (wy_ImmutableCollectionsSListItr_ImmutableCollectionsSListItr_list hw)) (by decide) (t := .int) (t' := .object "java/util/List") (by decide) (by decide)
theorem it_ne3 (hw : ∀ d ∈ tables_1, d.before a0 Z = true) : RoadKit.slotOf Z ITN "cursor" "I" ≠ RoadKit.slotOf Z ITN "size" "I" := slot_ne (Or.inl (wy_ImmutableCollectionsSListItr_ImmutableCollectionsSListItr_cursor hw)) (Or.inr (wy_ImmutableCollectionsSListItr_ImmutableCollectionsSListItr_size hw)) (by decide) (t := .int) (t' := .int) (by decide) (by decide)
theorem it_ne4 (hw : ∀ d ∈ tables_1, d.before a0 Z = true) : RoadKit.slotOf Z ITN "isListIterator" "Z" ≠ RoadKit.slotOf Z ITN "list" LID := slot_ne (Or.inr (wy_ImmutableCollectionsSListItr_ImmutableCollectionsSListItr_isListIterator hw)) (Or.inr (wy_ImmutableCollectionsSListItr_ImmutableCollectionsSListItr_list hw)) (by decide) (t := .boolean) (t' := .object "java/util/List") (by decide) (by decide)
theorem it_ne5 (hw : ∀ d ∈ tables_1, d.before a0 Z = true) : RoadKit.slotOf Z ITN "isListIterator" "Z" ≠ RoadKit.slotOf Z ITN "size" "I" := slot_ne (Or.inr (wy_ImmutableCollectionsSListItr_ImmutableCollectionsSListItr_isListIterator hw)) (Or.inr (wy_ImmutableCollectionsSListItr_ImmutableCollectionsSListItr_size hw)) (by decide) (t := .boolean) (t' := .int) (by decide) (by decide)
theorem it_ne6 (hw : ∀ d ∈ tables_1, d.before a0 Z = true) : RoadKit.slotOf Z ITN "isListIterator" "Z" ≠ RoadKit.slotOf Z ITN "cursor" "I" := slot_ne (Or.inr (wy_ImmutableCollectionsSListItr_ImmutableCollectionsSListItr_isListIterator hw)) (Or.inl (wy_ImmutableCollectionsSListItr_ImmutableCollectionsSListItr_cursor hw)) (by decide) (t := .boolean) (t' := .int) (by decide) (by decide)
theorem met_ItI (hw : ∀ d ∈ tables_1, d.before a0 Z = true) {i a : Addr} {n : Nat} {v0 v1 v2 v3 : Value} (hi : Z.heap.size ≤ i) (E : Exa Z h i ITN) (F0 : Fld Z h i ITN "list" LID v0) (F1 : Fld Z h i ITN "size" "I" v1) (F2 : Fld Z h i ITN "cursor" "I" v2) (F3 : Fld Z h i ITN "isListIterator" "Z" v3) : MetW [] l yItI jdk_53_method_1_code 3 none (Rm 1 0 0 12) #[.ref i, .ref a, .int (Int32.ofNat n)] Z a0 EL nw [i] h (fun v h' => v = none ∧ Keep h h' [i] ∧ ItD Z h' i a n 0) := by
  refine MetW.of (by first | exact plainFor_of_name (by first | (simp [plainName, overriddenIn]; done) | decide +kernel) | decide +kernel) fun X hX => Go.old fun EZ => ?_
  show Go X _ _ _ _ _ _ _ _ _ _ _ _ _ _ _ _ (mkF X.m 0 #[.val (.ref i), .val (.ref a), .val (.int (Int32.ofNat n))] [])
  refine g_aloadN (pc' := 1) dj53_1_0 rfl rfl rfl ?_
  refine g_objinit (pc' := 4) dj53_1_1 rfl (wl_ImmutableCollectionsSListItr_1 hw) (wm_Object_init_lrV hw) (wb_Object_init_lrV hw) rfl rfl rfl ?_
  refine g_aloadN (pc' := 5) dj53_1_4 rfl rfl rfl ?_
  refine g_aloadN (pc' := 6) dj53_1_5 rfl rfl rfl ?_
  refine g_putfield (pc' := 9) dj53_1_6 rfl (wf_ImmutableCollectionsSListItr_7 hw) (F0) (E) (Or.inr ⟨wy_ImmutableCollectionsSListItr_ImmutableCollectionsSListItr_list hw, rfl, rfl⟩) (wn_ImmutableCollectionsSListItr hw) (ty := (.object "java/util/List")) (by decide) rfl rfl (hi) (by simp) fun h6 W6 => ?_
  refine g_aloadN (pc' := 10) dj53_1_9 rfl rfl rfl ?_
  refine g_iloadN (pc' := 11) dj53_1_10 rfl rfl ?_
  refine g_putfield (pc' := 14) dj53_1_11 rfl (wf_ImmutableCollectionsSListItr_13 hw) (F1.other W6 (Or.inr (it_ne1 hw))) (E.wr W6) (Or.inr ⟨wy_ImmutableCollectionsSListItr_ImmutableCollectionsSListItr_size hw, rfl, rfl⟩) (wn_ImmutableCollectionsSListItr hw) (ty := .int) (by decide) rfl rfl (hi) (by simp) fun h11 W11 => ?_
  refine g_aloadN (pc' := 15) dj53_1_14 rfl rfl rfl ?_
  refine g_iconst (pc' := 16) (w := 0) dj53_1_15 rfl (by decide) ?_
  refine g_putfield (pc' := 19) dj53_1_16 rfl (wf_ImmutableCollectionsSListItr_17 hw) ((F2.other W6 (Or.inr (it_ne2 hw))).other W11 (Or.inr (it_ne3 hw))) ((E.wr W6).wr W11) (Or.inl (wy_ImmutableCollectionsSListItr_ImmutableCollectionsSListItr_cursor hw)) (wn_ImmutableCollectionsSListItr hw) (ty := .int) (by decide) rfl rfl (hi) (by simp) fun h16 W16 => ?_
  refine g_aloadN (pc' := 20) dj53_1_19 rfl rfl rfl ?_
  refine g_iconst (pc' := 21) (w := 0) dj53_1_20 rfl (by decide) ?_
  refine g_putfield (pc' := 24) dj53_1_21 rfl (wf_ImmutableCollectionsSListItr_20 hw) (((F3.other W6 (Or.inr (it_ne4 hw))).other W11 (Or.inr (it_ne5 hw))).other W16 (Or.inr (it_ne6 hw))) (((E.wr W6).wr W11).wr W16) (Or.inr ⟨wy_ImmutableCollectionsSListItr_ImmutableCollectionsSListItr_isListIterator hw, rfl, rfl⟩) (wn_ImmutableCollectionsSListItr hw) (ty := .boolean) (by decide) rfl rfl (hi) (by simp) fun h21 W21 => ?_
  refine g_return dj53_1_24 rfl rfl rfl (⟨rfl, ((((Keep.refl h [i]).wr W6 (Or.inl (List.mem_cons_self ..))).wr W11 (Or.inl (List.mem_cons_self ..))).wr W16 (Or.inl (List.mem_cons_self ..))).wr W21 (Or.inl (List.mem_cons_self ..)), (((E.wr W6).wr W11).wr W16).wr W21, (((F0.same W6).other W11 (Or.inr (it_ne1 hw).symm)).other W16 (Or.inr (it_ne2 hw).symm)).other W21 (Or.inr (it_ne4 hw).symm), (((F1.other W6 (Or.inr (it_ne1 hw))).same W11).other W16 (Or.inr (it_ne3 hw).symm)).other W21 (Or.inr (it_ne5 hw).symm), (((F2.other W6 (Or.inr (it_ne2 hw))).other W11 (Or.inr (it_ne3 hw))).same W16).other W21 (Or.inr (it_ne6 hw).symm)⟩)
theorem met_ItH (hw : ∀ d ∈ tables_1, d.before a0 Z = true) {i a : Addr} {n c : Nat} (B : ItD Z h i a n c) (hn : n ≤ 2) (hc : c ≤ 2) : MetW [] l yItH jdk_53_method_3_code 1 (some .boolean) (Rm 0 0 0 0) #[.ref i] Z a0 EL nw [] h (fun v h' => v = some (.int (if c = n then 0 else 1)) ∧ h' = h) := by
  refine MetW.of (by first | exact plainFor_of_name (by first | (simp [plainName, overriddenIn]; done) | decide +kernel) | decide +kernel) fun X hX => Go.old fun EZ => ?_
  show Go X _ _ _ _ _ _ _ _ _ _ _ _ _ _ _ _ (mkF X.m 0 #[.val (.ref i)] [])
  refine g_aloadN (pc' := 1) dj53_3_0 rfl rfl rfl ?_
  refine g_getfield (pc' := 4) dj53_3_1 rfl (wf_ImmutableCollectionsSListItr_17 hw) (B.2.2.2) ?_
  refine g_aloadN (pc' := 5) dj53_3_4 rfl rfl rfl ?_
  refine g_getfield (pc' := 8) dj53_3_5 rfl (wf_ImmutableCollectionsSListItr_13 hw) (B.2.2.1) ?_
  refine g_icmpeq (pc' := 11) (pc2 := 15) dj53_3_8 rfl (by decide) rfl (fun c8 => ?_) (fun c8 => ?_)
  · refine g_iconst (pc' := 12) (w := 1) dj53_3_11 rfl (by decide) ?_
    refine g_goto (pc' := 16) dj53_3_12 (by decide) rfl ?_
    refine g_ireturn (t := .boolean) dj53_3_16 rfl (by simp) rfl rfl rfl (⟨by rw [if_neg (fun q => c8 (by rw [q]))], rfl⟩)
  · refine g_iconst (pc' := 16) (w := 0) dj53_3_15 rfl (by decide) ?_
    refine g_ireturn (t := .boolean) dj53_3_16 rfl (by simp) rfl rfl rfl (⟨by rw [if_pos ((ofNat_inj (by omega) (by omega)).mp c8)], rfl⟩)
/-- next() -/
theorem pay_next (hw : ∀ d ∈ tables_1, d.before a0 Z = true) {el em i a y : Addr} {xs : List Addr} {n c : Nat} (I : ICS Z el em) (EZ : Ext Z.heap h) (hi : Z.heap.size ≤ i) (hm : i ∈ sf) (B : ItD Z h i a n c) (L : ILd Z h a el em xs) (hy : xs[c]? = some y) (hx : ∀ x ∈ xs, x ≠ em) (hf : Nat.ble 2 R.frames = true) (hl : Nat.ble (W + 40) R.locals = true) :
    Pay l R yItN W #[.ref i] Z a0 EL nw sf h 0 0 (fun v h' => v = some (.ref y) ∧ Keep h h' [i] ∧ ItD Z h' i a n (c + 1)) := by
  have La : Exa Z h a L12N := by
    rcases L with ⟨rfl, -⟩ | ⟨x, rfl, E, -, -⟩ | ⟨x, x', rfl, E, -, -⟩
    · simp at hy
    · exact E
    · exact E
  obtain ⟨E, F0, F1, F2⟩ := id B
  refine Pay.of_with (rm := Rm 1 0 0 20) [i] (by first | exact plainFor_of_name (by first | (simp [plainName, overriddenIn]; done) | decide +kernel) | decide +kernel) EZ (fun x hx => by cases List.mem_singleton.mp hx; exact E.lt) (fun X hX => ?_) (wb_ImmutableCollectionsSListItr_next_lrLjavalangObject hw) (wi_ImmutableCollectionsSListItr hw) hf (by have := ble hl; exact bl (by show W + (3 + 11) + 20 ≤ _; omega)) (fun x hx => by cases List.mem_singleton.mp hx; exact ⟨hm, hi⟩)
  show Go X _ _ _ _ _ _ _ _ _ _ _ _ _ _ _ _ (mkF X.m 0 #[.val (.ref i), .unset, .unset] [])
  refine g_aloadN (pc' := 1) dj53_4_0 rfl rfl rfl ?_
  refine g_getfield (pc' := 4) dj53_4_1 rfl (wf_ImmutableCollectionsSListItr_17 hw) (F2) ?_
  refine g_istoreN (pc' := 5) (Ls' := #[_, _, _]) dj53_4_4 rfl rfl ?_
  refine g_aloadN (pc' := 6) dj53_4_5 rfl rfl rfl ?_
  refine g_getfield (pc' := 9) dj53_4_6 rfl (wf_ImmutableCollectionsSListItr_7 hw) (F0) ?_
  refine g_iloadN (pc' := 10) dj53_4_9 rfl rfl ?_
  refine g_invokeinterface (pc' := 15) [] [_] dj53_4_10 rfl (wl_ImmutableCollectionsSListItr_24 hw) (wd_List_get_lIrLjavalangObject hw) (wv_ImmutableCollectionsSList12_List_get_lIrLjavalangObject hw) (wm_ImmutableCollectionsSList12_get_lIrLjavalangObject hw) (wg_List_get_lIrLjavalangObject hw) rfl (wp_ImmutableCollectionsSList12_get_lIrLjavalangObject hw) (wu_ImmutableCollectionsSList12_get_lIrLjavalangObject hw) (wx_ImmutableCollectionsSList12_List hw) (by decide) (La) (Pay.of_met (met_L2G hw I L hy hx) (wb_ImmutableCollectionsSList12_get_lIrLjavalangObject hw) (wi_ImmutableCollectionsSList12 hw) rfl rfl) pd_lIrLjavalangObject rfl rfl rfl rfl rfl (fun _ q => nomatch q) fun v10 h10 q10 l10 => ?_
  obtain ⟨rfl, e10⟩ := q10
  have e10 := e10.symm
  subst e10
  refine g_astoreN (pc' := 16) (Ls' := #[_, _, _]) dj53_4_15 rfl rfl rfl ?_
  refine g_aloadN (pc' := 17) dj53_4_16 rfl rfl rfl ?_
  refine g_iloadN (pc' := 18) dj53_4_17 rfl rfl ?_
  refine g_iconst (pc' := 19) (w := 1) dj53_4_18 rfl (by decide) ?_
  refine g_iadd (pc' := 20) dj53_4_19 rfl ?_
  rw [show Int32.ofNat c + 1 = Int32.ofNat (c + 1) from ofNat_add2 c 1]
  refine g_putfield (pc' := 23) dj53_4_20 rfl (wf_ImmutableCollectionsSListItr_17 hw) (F2) (E) (Or.inl (wy_ImmutableCollectionsSListItr_ImmutableCollectionsSListItr_cursor hw)) (wn_ImmutableCollectionsSListItr hw) (ty := .int) (by decide) rfl rfl (hi) (by simp) fun h20 W20 => ?_
  refine g_aloadN (pc' := 24) dj53_4_23 rfl rfl rfl ?_
  have K := (Keep.refl h [i]).wr W20 (Or.inl (List.mem_cons_self ..))
  refine g_areturn dj53_4_24 rfl rfl rfl rfl rfl rfl (⟨⟨rfl, K, E.wr W20, F0.other W20 (Or.inr (it_ne2 hw).symm), F1.other W20 (Or.inr (it_ne3 hw).symm), F2.same W20⟩, K⟩)
/-- iterator() -/
theorem met_iter {b0 : Array Value} (hw : ∀ d ∈ tables_1, d.before b0 Z = true) {el em a : Addr} {xs : List Addr} (I : ICS Z el em) (EZ : Ext Z.heap h) (L : ILd Z h a el em xs) (hx : ∀ x ∈ xs, x ≠ em) : MetW [] l yIter jdk_46_method_10_code 1 (some (.object "java/util/Iterator")) (Rm 2 1 8 40) #[.ref a] Z b0 EL nw [] h (fun v h' => ∃ i, v = some (.ref i) ∧ h.size ≤ i ∧ i < h'.size ∧ Ext h h' ∧ ItD Z h' i a xs.length 0) := by
  refine MetW.of (by first | exact plainFor_of_name (by first | (simp [plainName, overriddenIn]; done) | decide +kernel) | decide +kernel) fun X hX => Go.old fun EZ => ?_
  show Go X _ _ _ _ _ _ _ _ _ _ _ _ _ _ _ _ (mkF X.m 0 #[.val (.ref a)] [])
  refine g_new (pc' := 3) dj46_10_0 rfl (wc_ImmutableCollectionsSAbstractImmutableList_61 hw) (wn_ImmutableCollectionsSListItr hw) (wi_ImmutableCollectionsSListItr hw) rfl rfl fun h0 a0 e0 E0 A0 D0 => ?_
  refine g_dup (pc' := 4) dj46_10_3 rfl rfl ?_
  refine g_aloadN (pc' := 5) dj46_10_4 rfl rfl rfl ?_
  refine g_aloadN (pc' := 6) dj46_10_5 rfl rfl rfl ?_
  have z0 : Z.heap.size ≤ a0 := by rw [e0]; exact EZ.1
  have fin : ∀ {n : Nat}, n = xs.length → Go X (Rm 2 1 8 40) Z b0 EL nw yIter jdk_46_method_10_code 1 (some (.object "java/util/Iterator")) (fun v h' => ∃ i, v = some (.ref i) ∧ h.size ≤ i ∧ i < h'.size ∧ Ext h h' ∧ ItD Z h' i a xs.length 0) (Rm 2 1 8 40).cells (Rm 2 1 8 40).slots [a0] h0 1 8 (mkF X.m 9 #[.val (.ref a)] [.int (Int32.ofNat n), .ref a, .ref a0, .ref a0]) := by
    intro n hn
    subst hn
    refine g_invokespecial (pc' := 12) [a0] [_, _] dj46_10_9 rfl rfl (wl_ImmutableCollectionsSAbstractImmutableList_63 hw) (wm_ImmutableCollectionsSListItr_init_lLjavautilListIrV hw) (wb_ImmutableCollectionsSListItr_init_lLjavautilListIrV hw) (by decide) (Pay.of_met (met_ItI hw z0 A0 (D0 (Or.inr (wy_ImmutableCollectionsSListItr_ImmutableCollectionsSListItr_list hw)) (ty := .object "java/util/List") (by decide)) (D0 (Or.inr (wy_ImmutableCollectionsSListItr_ImmutableCollectionsSListItr_size hw)) (ty := .int) (by decide)) (D0 (Or.inl (wy_ImmutableCollectionsSListItr_ImmutableCollectionsSListItr_cursor hw)) (ty := .int) (by decide)) (D0 (Or.inr (wy_ImmutableCollectionsSListItr_ImmutableCollectionsSListItr_isListIterator hw)) (ty := .boolean) (by decide))) (wb_ImmutableCollectionsSListItr_init_lLjavautilListIrV hw) (wi_ImmutableCollectionsSListItr hw) rfl rfl) pd_lLjavautilListIrV rfl rfl rfl rfl rfl (fun _ q => q) fun v9 h9 q9 l9 => ?_
    obtain ⟨rfl, K9, B9⟩ := q9
    refine g_areturn dj46_10_12 rfl rfl rfl rfl rfl rfl (⟨a0, rfl, Nat.le_of_eq e0.symm, B9.1.lt, ext_keep E0 K9 (allS (Nat.le_of_eq e0.symm) all0), B9⟩)
  by_cases hxe : xs = []
  · obtain ⟨-, rfl⟩ : xs = [] ∧ a = el := by
      rcases L with q | ⟨x, q, -⟩ | ⟨x, x', q, -⟩
      · exact q
      · rw [hxe] at q; cases q
      · rw [hxe] at q; cases q
    refine g_virtualUp (pc' := 9) (C := LNN) (owner := "java/util/AbstractCollection") [] [] dj46_10_6 rfl (wl_ImmutableCollectionsSAbstractImmutableList_13 hw) (wr_ImmutableCollectionsSAbstractImmutableList_AbstractCollection_size hw) (wd_AbstractCollection_size_lrI hw) (by decide) (wv_ImmutableCollectionsSListN_ImmutableCollectionsSAbstractImmutableList_size_lrI hw) (wm_ImmutableCollectionsSListN_size_lrI hw) (I.2.2.1.ext (ext_trans EZ E0)) (Pay.of_met (met_LnS hw I) (wb_ImmutableCollectionsSListN_size_lrI hw) (wi_ImmutableCollectionsSListN hw) rfl rfl) pd_lrI rfl rfl rfl rfl rfl (fun _ q => nomatch q) fun v6 h6 q6 l6 => ?_
    obtain ⟨rfl, e6⟩ := q6
    have e6 := e6.symm
    subst e6
    exact Go.mono 1 8 rfl rfl (fin (n := 0) (by rw [hxe]; rfl))
  · have La : Exa Z h0 a L12N := by
      rcases L.ext E0 with ⟨q, -⟩ | ⟨x, -, E, -, -⟩ | ⟨x, x', -, E, -, -⟩
      · exact absurd q hxe
      · exact E
      · exact E
    refine g_virtualUp (pc' := 9) (C := L12N) (owner := "java/util/AbstractCollection") [] [] dj46_10_6 rfl (wl_ImmutableCollectionsSAbstractImmutableList_13 hw) (wr_ImmutableCollectionsSAbstractImmutableList_AbstractCollection_size hw) (wd_AbstractCollection_size_lrI hw) (by decide) (wv_ImmutableCollectionsSList12_ImmutableCollectionsSAbstractImmutableList_size_lrI hw) (wm_ImmutableCollectionsSList12_size_lrI hw) La (Pay.of_met (met_L2S hw I (L.ext E0) hxe hx) (wb_ImmutableCollectionsSList12_size_lrI hw) (wi_ImmutableCollectionsSList12 hw) rfl rfl) pd_lrI rfl rfl rfl rfl rfl (fun _ q => nomatch q) fun v6 h6 q6 l6 => ?_
    obtain ⟨rfl, e6⟩ := q6
    have e6 := e6.symm
    subst e6
    exact Go.mono 1 8 rfl rfl (fin rfl)
end Itr
/-! AbstractCollection.toString of an immutable list of at most two Strings; String.valueOf of it -/
section Tos
variable {l : Launch} {R : Room} {Z : State} {a0 : Array Value} {EL : List (String × Nat)} {nw : Bool} {h : Heap} {W : Nat} {z : Int32}
abbrev yACt : MethodName := ⟨"java/util/AbstractCollection", "toString", "()Ljava/lang/String;"⟩
/-- how a list of texts is spelt -/
def ltx : List (List Int32) → List Int32
  | [] => [91, 93]
  | [c] => [91] ++ c ++ [93]
  | c :: d :: _ => [91] ++ c ++ [44] ++ [32] ++ d ++ [93]
/-- the Strings xs spell css: at most two, of at most two narrow chars each -/
def Sps (Z : State) (h : Heap) (xs : List Addr) (css : List (List Int32)) : Prop :=
  (xs = [] ∧ css = []) ∨ (∃ x c, xs = [x] ∧ css = [c] ∧ Str Z h x c ∧ c.length ≤ 2 ∧ ∀ u ∈ c, ¬ u < 0 ∧ ¬ (255 : Int32) < u) ∨ (∃ x y c d, xs = [x, y] ∧ css = [c, d] ∧ (Str Z h x c ∧ c.length ≤ 2 ∧ ∀ u ∈ c, ¬ u < 0 ∧ ¬ (255 : Int32) < u) ∧ (Str Z h y d ∧ d.length ≤ 2 ∧ ∀ u ∈ d, ¬ u < 0 ∧ ¬ (255 : Int32) < u))
theorem Sps.ext {h' : Heap} {xs : List Addr} {css : List (List Int32)} (S : Sps Z h xs css) (E : Ext h h') : Sps Z h' xs css := by
  rcases S with q | ⟨x, c, q1, q2, T, r⟩ | ⟨x, y, c, d, q1, q2, ⟨T, r⟩, T', r'⟩
  · exact Or.inl q
  · exact Or.inr (Or.inl ⟨x, c, q1, q2, T.ext E, r⟩)
  · exact Or.inr (Or.inr ⟨x, y, c, d, q1, q2, ⟨T.ext E, r⟩, T'.ext E, r'⟩)
theorem Sps.exa {xs : List Addr} {css : List (List Int32)} (S : Sps Z h xs css) : ∀ x ∈ xs, Exa Z h x "java/lang/String" := fun u hu => by
  rcases S with ⟨rfl, -⟩ | ⟨x, c, rfl, -, T, -⟩ | ⟨x, y, c, d, rfl, -, ⟨T, -⟩, T', -⟩
  · exact nomatch hu
  · cases List.mem_singleton.mp hu; exact T.exa
  · simp only [List.mem_cons, List.not_mem_nil, or_false] at hu
    rcases hu with rfl | rfl
    · exact T.exa
    · exact T'.exa
theorem Sps.len {xs : List Addr} {css : List (List Int32)} (S : Sps Z h xs css) : xs.length ≤ 2 := by
  rcases S with ⟨rfl, -⟩ | ⟨x, c, rfl, -⟩ | ⟨x, y, c, d, rfl, -⟩ <;> simp
theorem ltx_len {xs : List Addr} {css : List (List Int32)} (S : Sps Z h xs css) : (ltx css).length ≤ 8 := by
  rcases S with ⟨-, rfl⟩ | ⟨x, c, -, rfl, -, r, -⟩ | ⟨x, y, c, d, -, rfl, ⟨-, r, -⟩, -, r', -⟩
  · decide
  · simp only [ltx, List.length_append, List.length_cons, List.length_nil]; omega
  · simp only [ltx, List.length_append, List.length_cons, List.length_nil]; omega
theorem ltx_ok {xs : List Addr} {css : List (List Int32)} (S : Sps Z h xs css) : ∀ u ∈ ltx css, ¬ u < 0 ∧ ¬ (255 : Int32) < u := by
  rcases S with ⟨-, rfl⟩ | ⟨x, c, -, rfl, -, -, r⟩ | ⟨x, y, c, d, -, rfl, ⟨-, -, r⟩, -, -, r'⟩
  · decide
  · intro u hu
    simp only [ltx, List.mem_append, List.mem_cons, List.not_mem_nil, or_false] at hu
    rcases hu with (rfl | hu) | rfl
    · decide
    · exact r u hu
    · decide
  · intro u hu
    simp only [ltx, List.mem_append, List.mem_cons, List.not_mem_nil, or_false] at hu
    rcases hu with ((((rfl | hu) | rfl) | rfl) | hu) | rfl
    · decide
    · exact r u hu
    · decide
    · decide
    · exact r' u hu
    · decide
theorem SBd.keep {h' : Heap} {b t : Addr} {cs : List Int32} {cap : Nat} {ws : List Addr} (S : SBd Z h b t cs cap) (K : Keep h h' ws) (n1 : b ∉ ws) (n2 : t ∉ ws) : SBd Z h' b t cs cap := by
  obtain ⟨h1, h2, h3, h4, kb, vs, hc, h5, r⟩ := S
  exact ⟨h1.keep K, h2.keep K n1, h3.keep K n1, h4.keep K n1, kb, vs, hc, h5.keep K n2, r⟩
theorem ItD.keep {h' : Heap} {i a : Addr} {n c : Nat} {ws : List Addr} (S : ItD Z h i a n c) (K : Keep h h' ws) (n1 : i ∉ ws) : ItD Z h' i a n c := ⟨S.1.keep K, S.2.1.keep K n1, S.2.2.1.keep K n1, S.2.2.2.keep K n1⟩
/-- the loop's turn: the element at c is appended -/
theorem tos_turn {X : Cx} {R : Room} {Q : Option Value → Heap → Prop} {kc ks k n : Nat} {sf : List Addr} {hs : Heap} {el em a i b t y : Addr} {xs : List Addr} {m c : Nat} {cs ds : List Int32} {s3 : Slot} (hw : ∀ d ∈ tables_1, d.before a0 Z = true) (S : Sta Z Z.heap "java/lang/String" "COMPACT_STRINGS" "Z" (.int z)) (hz : ¬ z = 0) (I : ICS Z el em) (ZS : Ext Z.heap hs) (F : Ext hs h) (hi : hs.size ≤ i) (hb : hs.size ≤ b) (ht : hs.size ≤ t) (nib : i ≠ b) (nit : i ≠ t) (mi : i ∈ sf) (mb : b ∈ sf) (mt : t ∈ sf) (L : ILd Z hs a el em xs) (hxs : ∀ x ∈ xs, x ≠ em) (hy : xs[c]? = some y) (T : Str Z hs y ds) (hds : ∀ u ∈ ds, ¬ u < 0 ∧ ¬ (255 : Int32) < u) (La : Exa Z hs a L12N) (hm : m ≤ 2) (hc : c < 2)
    (It : ItD Z h i a m c) (B : SBd Z h b t cs 16) (hN : cs.length + ds.length ≤ 16) (hst : storeLocals #[.val (.ref a), .val (.ref i), .val (.ref b), s3] 3 (.ref y) = some #[.val (.ref a), .val (.ref i), .val (.ref b), .val (.ref y)]) (hf : Nat.ble 6 R.frames = true) (hl : Nat.ble 150 R.locals = true) (hk : Nat.ble k R.cells = true) (hn : Nat.ble n R.slots = true)
    (G : ∀ h', Ext hs h' → ItD Z h' i a m (c + 1) → SBd Z h' b t (cs ++ ds) 16 → Go X R Z a0 EL nw yACt jdk_22_method_16_code 4 (some (.object "java/lang/String")) Q kc ks sf h' k n (mkF X.m 61 #[.val (.ref a), .val (.ref i), .val (.ref b), .val (.ref y)] [.int (if c + 1 = m then 0 else 1)])) :
    Go X R Z a0 EL nw yACt jdk_22_method_16_code 4 (some (.object "java/lang/String")) Q kc ks sf h k n (mkF X.m 32 #[.val (.ref a), .val (.ref i), .val (.ref b), s3] []) := by
  have f6 := ble hf
  have l150 := ble hl
  have zi := Nat.le_trans ZS.1 hi
  have zb := Nat.le_trans ZS.1 hb
  have zt := Nat.le_trans ZS.1 ht
  have nya : y ≠ a := T.exa.ne La (by decide)
  refine g_aloadN (pc' := 33) dj22_16_32 rfl rfl rfl ?_
  refine g_invokeinterface (pc' := 38) [i] [] dj22_16_33 rfl (wl_AbstractCollection_23 hw) (wd_Iterator_next_lrLjavalangObject hw) (wv_ImmutableCollectionsSListItr_Iterator_next_lrLjavalangObject hw) (wm_ImmutableCollectionsSListItr_next_lrLjavalangObject hw) (wg_Iterator_next_lrLjavalangObject hw) rfl (wp_ImmutableCollectionsSListItr_next_lrLjavalangObject hw) (wu_ImmutableCollectionsSListItr_next_lrLjavalangObject hw) (wx_ImmutableCollectionsSListItr_Iterator hw) (by decide) It.1 (pay_next hw I (ext_trans ZS F) zi (List.mem_singleton.mpr rfl) It (L.ext F) hy hxs (bl (by omega)) (bl (by show 0 + 40 ≤ _; omega))) pd_lrLjavalangObject rfl rfl rfl (bl (by have := ble hk; omega)) (bl (by have := ble hn; omega)) (fun _ q => by cases List.mem_singleton.mp q; exact mi) fun v33 h33 q33 l33 => ?_
  obtain ⟨rfl, K33, I33⟩ := q33
  have F33 : Ext hs h33 := ext_keep F K33 (allS hi all0)
  have B33 := SBd.keep B K33 (fun q => nib (List.mem_singleton.mp q).symm) (fun q => nit (List.mem_singleton.mp q).symm)
  refine g_astoreN (pc' := 39) dj22_16_38 rfl rfl hst ?_
  refine g_aloadN (pc' := 40) dj22_16_39 rfl rfl rfl ?_
  refine g_aloadN (pc' := 41) dj22_16_40 rfl rfl rfl ?_
  refine g_aloadN (pc' := 42) dj22_16_41 rfl rfl rfl ?_
  refine g_acmp (pc' := 45) (pc2 := 50) dj22_16_42 rfl (by decide) rfl rfl rfl (fun c42 => False.elim (absurd c42 (by simp [XT.acmp, nya]))) (fun c42 => ?_)
  refine g_aloadN (pc' := 51) dj22_16_50 rfl rfl rfl ?_
  refine g_invokevirtualN (pc' := 54) [b, t] [_] dj22_16_51 rfl (wl_AbstractCollection_103 hw) (wd_StringBuilder_append_lLjavalangObjectrLjavalangStringBuilder hw) (wv_StringBuilder_StringBuilder_append_lLjavalangObjectrLjavalangStringBuilder hw) (wm_StringBuilder_append_lLjavalangObjectrLjavalangStringBuilder hw) (by decide) (NF.sel (wv_StringBuilder_StringBuilder_append_lLjavalangObjectrLjavalangStringBuilder hw)) B33.1 (Pay.of_met (met_SApOs hw S hz (ext_trans ZS F33) zb zt B33 (T.ext F33) (fun u q => (hds u q).2) hN) (wb_StringBuilder_append_lLjavalangObjectrLjavalangStringBuilder hw) (wi_StringBuilder hw) (bl (by show 5 + 1 ≤ _; omega)) (bl (by show 0 + (2 + 11) + 130 ≤ _; omega))) pd_lLjavalangObjectrLjavalangStringBuilder rfl rfl rfl (bl (by have := ble hk; show k + 0 + 0 ≤ _; omega)) (bl (by have := ble hn; show n + 0 + 0 ≤ _; omega)) (fun _ q => by simp only [List.mem_cons, List.not_mem_nil, or_false] at q; rcases q with rfl | rfl <;> assumption) fun v51 h51 q51 l51 => ?_
  obtain ⟨rfl, K51, B51⟩ := q51
  have F51 : Ext hs h51 := ext_keep F33 K51 (allS hb (allS ht all0))
  have I51 := ItD.keep I33 K51 (fun q => by simp only [List.mem_cons, List.not_mem_nil, or_false] at q; rcases q with q | q; exact nib q; exact nit q)
  refine g_pop (pc' := 55) dj22_16_54 rfl rfl ?_
  refine g_aloadN (pc' := 56) dj22_16_55 rfl rfl rfl ?_
  refine g_invokeinterface (pc' := 61) [] [] dj22_16_56 rfl (wl_AbstractCollection_17 hw) (wd_Iterator_hasNext_lrZ hw) (wv_ImmutableCollectionsSListItr_Iterator_hasNext_lrZ hw) (wm_ImmutableCollectionsSListItr_hasNext_lrZ hw) (wg_Iterator_hasNext_lrZ hw) rfl (wp_ImmutableCollectionsSListItr_hasNext_lrZ hw) (wu_ImmutableCollectionsSListItr_hasNext_lrZ hw) (wx_ImmutableCollectionsSListItr_Iterator hw) (by decide) I51.1 (Pay.of_met (met_ItH hw I51 hm (by omega)) (wb_ImmutableCollectionsSListItr_hasNext_lrZ hw) (wi_ImmutableCollectionsSListItr hw) (bl (by show 0 + 1 ≤ _; omega)) (bl (by show 0 + (1 + 11) + 0 ≤ _; omega))) pd_lrZ rfl rfl rfl (bl (by have := ble hk; show k + 0 + 0 + 0 ≤ _; omega)) (bl (by have := ble hn; show n + 0 + 0 + 0 ≤ _; omega)) (fun _ q => nomatch q) fun v56 h56 q56 l56 => ?_
  obtain ⟨rfl, e56⟩ := q56
  have e56 := e56.symm
  subst e56
  exact G h51 F51 I51 B51
theorem met_ACt (hw : ∀ d ∈ tables_1, d.before a0 Z = true) (S : Sta Z Z.heap "java/lang/String" "COMPACT_STRINGS" "Z" (.int z)) (hz : ¬ z = 0) {el em a : Addr} {xs : List Addr} {css : List (List Int32)} (I : ICS Z el em) (EZ : Ext Z.heap h) (L : ILd Z h a el em xs) (Sp : Sps Z h xs css) :
    MetW [] l yACt jdk_22_method_16_code 4 (some (.object "java/lang/String")) (Rm 7 8 100 170) #[.ref a] Z a0 consts_1 false [] h (fun v h' => ∃ m, v = some (.ref m) ∧ Ext h h' ∧ Str Z h' m (ltx css)) := by
  have hxs : ∀ x ∈ xs, x ≠ em := fun x q => (Sp.exa x q).ne (I.2.2.2.1.ext EZ) (by decide)
  have hac : NI Z "java/util/AbstractCollection" := NI.sel (wv_ImmutableCollectionsSListN_Object_toString_lrLjavalangString hw)
  have hle : xs.length ≤ 2 := Sp.len
  by_cases hxe : xs = []
  · obtain ⟨-, rfl⟩ : xs = [] ∧ a = el := by
      rcases L with q | ⟨x, q, -⟩ | ⟨x, x', q, -⟩
      · exact q
      · rw [hxe] at q; cases q
      · rw [hxe] at q; cases q
    obtain rfl : css = [] := by
      rcases Sp with ⟨-, q⟩ | ⟨x, c, q, -⟩ | ⟨x, y, c, d, q, -⟩
      · exact q
      · rw [hxe] at q; cases q
      · rw [hxe] at q; cases q
    subst hxe
    refine MetW.of (by first | exact plainFor_of_name (by first | (simp [plainName, overriddenIn]; done) | decide +kernel) | decide +kernel) fun X hX => Go.old fun EZ => ?_
    show Go X _ _ _ _ _ _ _ _ _ _ _ _ _ _ _ _ (mkF X.m 0 #[.val (.ref a), .unset, .unset, .unset] [])
    refine g_aloadN (pc' := 1) dj22_16_0 rfl rfl rfl ?_
    refine g_invokevirtualN (pc' := 4) [] [] dj22_16_1 rfl (wl_AbstractCollection_13 hw) (wd_AbstractCollection_iterator_lrLjavautilIterator hw) (wv_ImmutableCollectionsSListN_AbstractCollection_iterator_lrLjavautilIterator hw) (wm_ImmutableCollectionsSAbstractImmutableList_iterator_lrLjavautilIterator hw) (by decide) (nf_ni hac) (I.2.2.1.ext EZ) (Pay.of_met (met_iter hw I EZ L hxs) (wb_ImmutableCollectionsSAbstractImmutableList_iterator_lrLjavautilIterator hw) (wi_ImmutableCollectionsSAbstractImmutableList hw) rfl rfl) pd_lrLjavautilIterator rfl rfl rfl rfl rfl (fun _ q => nomatch q) fun v1 h1 q1 l1 => ?_
    obtain ⟨i, rfl, i1, i2, E1, B1⟩ := q1
    refine g_astoreN (pc' := 5) (Ls' := #[_, _, _, _]) dj22_16_4 rfl rfl rfl ?_
    refine g_aloadN (pc' := 6) dj22_16_5 rfl rfl rfl ?_
    refine g_invokeinterface (pc' := 11) [] [] dj22_16_6 rfl (wl_AbstractCollection_17 hw) (wd_Iterator_hasNext_lrZ hw) (wv_ImmutableCollectionsSListItr_Iterator_hasNext_lrZ hw) (wm_ImmutableCollectionsSListItr_hasNext_lrZ hw) (wg_Iterator_hasNext_lrZ hw) rfl (wp_ImmutableCollectionsSListItr_hasNext_lrZ hw) (wu_ImmutableCollectionsSListItr_hasNext_lrZ hw) (wx_ImmutableCollectionsSListItr_Iterator hw) (by decide) (B1.1) (Pay.of_met (met_ItH hw B1 (by decide) (by decide)) (wb_ImmutableCollectionsSListItr_hasNext_lrZ hw) (wi_ImmutableCollectionsSListItr hw) rfl rfl) pd_lrZ rfl rfl rfl rfl rfl (fun _ q => nomatch q) fun v6 h6 q6 l6 => ?_
    obtain ⟨rfl, e6⟩ := q6
    have e6 := e6.symm
    subst e6
    refine g_ifne (pc' := 14) (pc2 := 17) dj22_16_11 rfl (by decide) rfl (fun c11 => ?_) (fun c11 => False.elim (c11 (by decide)))
    refine g_lit (pc' := 16) rfl [91, 93] 8 dj22_16_14 rfl (wt_AbstractCollection_92 hw) (own_atoms hw) (by decide) ⟨by decide, by decide⟩ (by decide) (by decide) (by decide) rfl rfl rfl rfl rfl fun h14 a14 E14 T14 n14 => ?_
    refine g_areturn dj22_16_16 rfl rfl rfl rfl rfl rfl (⟨a14, rfl, ext_trans E1 E14, T14⟩)
  · have La : Exa Z h a L12N := by
      rcases L with ⟨q, -⟩ | ⟨x, -, E, -, -⟩ | ⟨x, x', -, E, -, -⟩
      · exact absurd q hxe
      · exact E
      · exact E
    have h0 : 0 < xs.length := List.length_pos_iff.mpr hxe
    refine MetW.of (by first | exact plainFor_of_name (by first | (simp [plainName, overriddenIn]; done) | decide +kernel) | decide +kernel) fun X hX => Go.old fun EZ => ?_
    show Go X _ _ _ _ _ _ _ _ _ _ _ _ _ _ _ _ (mkF X.m 0 #[.val (.ref a), .unset, .unset, .unset] [])
    refine g_aloadN (pc' := 1) dj22_16_0 rfl rfl rfl ?_
    refine g_virtualB [] (pc' := 4) [] [] dj22_16_1 rfl (wl_AbstractCollection_13 hw) (wd_AbstractCollection_iterator_lrLjavautilIterator hw) (wv_ImmutableCollectionsSList12_AbstractCollection_iterator_lrLjavautilIterator hw) (wm_ImmutableCollectionsSAbstractImmutableList_iterator_lrLjavautilIterator hw) (by decide) (nf_ni hac) (La) (Pay.of_met (met_iter hw I EZ L hxs) (wb_ImmutableCollectionsSAbstractImmutableList_iterator_lrLjavautilIterator hw) (wi_ImmutableCollectionsSAbstractImmutableList hw) rfl rfl) (fun _ _ q => by obtain ⟨_, -, -, -, q, -⟩ := q; exact keep_ext q) (fun _ q => nomatch q) pd_lrLjavautilIterator rfl rfl rfl rfl rfl (fun _ q => nomatch q) fun v1 h1 q1 l1 => ?_
    obtain ⟨i, rfl, i1, i2, E1, B1⟩ := q1
    refine ⟨[i], fun y hy => by cases List.mem_singleton.mp hy; exact ⟨i1, i2⟩, ?_⟩
    refine g_astoreN (pc' := 5) (Ls' := #[_, _, _, _]) dj22_16_4 rfl rfl rfl ?_
    refine g_aloadN (pc' := 6) dj22_16_5 rfl rfl rfl ?_
    refine g_invokeinterface (pc' := 11) [] [] dj22_16_6 rfl (wl_AbstractCollection_17 hw) (wd_Iterator_hasNext_lrZ hw) (wv_ImmutableCollectionsSListItr_Iterator_hasNext_lrZ hw) (wm_ImmutableCollectionsSListItr_hasNext_lrZ hw) (wg_Iterator_hasNext_lrZ hw) rfl (wp_ImmutableCollectionsSListItr_hasNext_lrZ hw) (wu_ImmutableCollectionsSListItr_hasNext_lrZ hw) (wx_ImmutableCollectionsSListItr_Iterator hw) (by decide) (B1.1) (Pay.of_met (met_ItH hw B1 hle (by omega)) (wb_ImmutableCollectionsSListItr_hasNext_lrZ hw) (wi_ImmutableCollectionsSListItr hw) rfl rfl) pd_lrZ rfl rfl rfl rfl rfl (fun _ q => nomatch q) fun v6 h6 q6 l6 => ?_
    obtain ⟨rfl, e6⟩ := q6
    have e6 := e6.symm
    subst e6
    rw [if_neg (show ¬ 0 = xs.length by omega)]
    refine g_ifne (pc' := 14) (pc2 := 17) dj22_16_11 rfl (by decide) rfl (fun c11 => False.elim (absurd c11 (by decide))) (fun c11 => ?_)
    refine g_new (pc' := 20) dj22_16_17 rfl (wc_AbstractCollection_94 hw) (wn_StringBuilder hw) (wi_StringBuilder hw) rfl rfl fun h17 a17 e17 E17 A17 D17 => ?_
    refine g_dup (pc' := 21) dj22_16_20 rfl rfl ?_
    have zb : Z.heap.size ≤ a17 := by rw [e17]; exact (ext_trans EZ E1).1
    have hb : h.size ≤ a17 := by rw [e17]; exact E1.1
    refine g_specialB [a17] (pc' := 24) [a17] [] dj22_16_21 rfl rfl (wl_AbstractCollection_96 hw) (wm_StringBuilder_init_lrV hw) (wb_StringBuilder_init_lrV hw) (by decide) (Pay.of_met (met_SBi hw S hz zb A17 (D17 (Or.inl (wy_StringBuilder_AbstractStringBuilder_value hw)) (ty := .array .byte) (by decide)) (D17 (Or.inl (wy_StringBuilder_AbstractStringBuilder_coder hw)) (ty := .byte) (by decide)) (D17 (Or.inl (wy_StringBuilder_AbstractStringBuilder_count hw)) (ty := .int) (by decide))) (wb_StringBuilder_init_lrV hw) (wi_StringBuilder hw) rfl rfl) (fun _ _ q => q.2.1) (fun _ q => by cases List.mem_singleton.mp q; simp) pd_lrV rfl rfl rfl rfl rfl (fun _ q => by cases List.mem_singleton.mp q; simp) fun v21 h21 q21 l21 => ?_
    obtain ⟨rfl, K21, t, t1, t2, B21⟩ := q21
    refine ⟨[t], fun y hy => by cases List.mem_singleton.mp hy; exact ⟨t1, t2⟩, Go.sub [i, a17, t] (fun y hy => by simp only [List.mem_cons, List.not_mem_nil, or_false] at hy; rcases hy with rfl | rfl | rfl <;> simp) ?_⟩
    have F17 : Ext h h17 := ext_trans E1 E17
    have F21 : Ext h h21 := ext_keep F17 K21 (allS hb all0)
    have ht : h.size ≤ t := Nat.le_trans F17.1 t1
    have zt : Z.heap.size ≤ t := Nat.le_trans EZ.1 ht
    have nib : i ≠ a17 := Nat.ne_of_lt (by rw [e17]; exact i2)
    have nit : i ≠ t := Nat.ne_of_lt (Nat.lt_of_lt_of_le i2 (Nat.le_trans E17.1 t1))
    have I21 := ItD.keep (B1.ext E17) K21 (fun q => nib (List.mem_singleton.mp q))
    refine g_astoreN (pc' := 25) (Ls' := #[_, _, _, _]) dj22_16_24 rfl rfl rfl ?_
    refine g_aloadN (pc' := 26) dj22_16_25 rfl rfl rfl ?_
    refine g_bipush (pc' := 28) (w := 91) dj22_16_26 rfl (by decide) ?_
    refine g_invokevirtualN (pc' := 31) [a17, t] [_] dj22_16_28 rfl (wl_AbstractCollection_97 hw) (wd_StringBuilder_append_lCrLjavalangStringBuilder hw) (wv_StringBuilder_StringBuilder_append_lCrLjavalangStringBuilder hw) (wm_StringBuilder_append_lCrLjavalangStringBuilder hw) (by decide) (NF.sel (wv_StringBuilder_StringBuilder_append_lCrLjavalangStringBuilder hw)) (B21.1) (Pay.of_met (met_SApC0 hw S hz zb zt B21 (c := 91) (by decide) (by decide)) (wb_StringBuilder_append_lCrLjavalangStringBuilder hw) (wi_StringBuilder hw) rfl rfl) pd_lCrLjavalangStringBuilder rfl rfl rfl rfl rfl (fun _ q => by simp at q ⊢; rcases q with q | q <;> simp [q]) fun v28 h28 q28 l28 => ?_
    obtain ⟨rfl, K28, B28⟩ := q28
    have F28 : Ext h h28 := ext_keep F21 K28 (allS hb (allS ht all0))
    have I28 := ItD.keep I21 K28 (fun q => by simp only [List.mem_cons, List.not_mem_nil, or_false] at q; rcases q with q | q; exact nib q; exact nit q)
    refine g_pop (pc' := 32) dj22_16_31 rfl rfl ?_
    have fin : ∀ {cs : List Int32} {s3 : Slot} {hh : Heap}, cs.length ≤ 15 → (∀ u ∈ cs, ¬ u < 0 ∧ ¬ (255 : Int32) < u) → cs ++ [93] = ltx css → Ext h hh → SBd Z hh a17 t cs 16 → Go X (Rm 7 8 100 170) Z a0 consts_1 false yACt jdk_22_method_16_code 4 (some (.object "java/lang/String")) (fun v h' => ∃ m, v = some (.ref m) ∧ Ext h h' ∧ Str Z h' m (ltx css)) (Rm 7 8 100 170).cells (Rm 7 8 100 170).slots [i, a17, t] hh 5 60 (mkF X.m 64 #[.val (.ref a), .val (.ref i), .val (.ref a17), s3] []) := by
      intro cs s3 hh hl hok htx Fh Bh
      refine g_aloadN (pc' := 65) dj22_16_64 rfl rfl rfl ?_
      refine g_bipush (pc' := 67) (w := 93) dj22_16_65 rfl (by decide) ?_
      refine g_invokevirtualN (pc' := 70) [a17, t] [_] dj22_16_67 rfl (wl_AbstractCollection_97 hw) (wd_StringBuilder_append_lCrLjavalangStringBuilder hw) (wv_StringBuilder_StringBuilder_append_lCrLjavalangStringBuilder hw) (wm_StringBuilder_append_lCrLjavalangStringBuilder hw) (by decide) (NF.sel (wv_StringBuilder_StringBuilder_append_lCrLjavalangStringBuilder hw)) (Bh.1) (Pay.of_met (met_SApC0 hw S hz zb zt Bh (c := 93) (by decide) (by omega)) (wb_StringBuilder_append_lCrLjavalangStringBuilder hw) (wi_StringBuilder hw) rfl rfl) pd_lCrLjavalangStringBuilder rfl rfl rfl rfl rfl (fun _ q => by simp at q ⊢; rcases q with q | q <;> simp [q]) fun v67 h67 q67 l67 => ?_
      obtain ⟨rfl, K67, B67⟩ := q67
      have F67 : Ext h h67 := ext_keep Fh K67 (allS hb (allS ht all0))
      rw [htx] at B67
      have ll : (ltx css).length ≤ 8 := ltx_len Sp
      refine g_invokevirtualN (pc' := 73) [] [] dj22_16_70 rfl (wl_AbstractCollection_106 hw) (wd_StringBuilder_toString_lrLjavalangString hw) (wv_StringBuilder_StringBuilder_toString_lrLjavalangString hw) (wm_StringBuilder_toString_lrLjavalangString hw) (by decide) (NF.sel (wv_StringBuilder_StringBuilder_toString_lrLjavalangString hw)) (B67.1) (Pay.of_met (met_TSg (W := 16) hw S hz (ext_trans EZ F67) B67 (fun {h t kb vs} EZ hc A hvs nw => met_CRs hw EZ A hvs (by decide) (by omega) (by omega)) (ltx_ok Sp)) (wb_StringBuilder_toString_lrLjavalangString hw) (wi_StringBuilder hw) rfl rfl) pd_lrLjavalangString rfl rfl rfl rfl rfl (fun _ q => nomatch q) fun v70 h70 q70 l70 => ?_
      obtain ⟨m, rfl, -, -, E70, T70⟩ := q70
      refine g_areturn dj22_16_73 rfl rfl rfl rfl rfl rfl (⟨m, rfl, ext_trans F67 E70, T70⟩)
    rcases Sp with ⟨q, -⟩ | ⟨x, c, rfl, rfl, T, hc, hok⟩ | ⟨x, y, c, d, rfl, rfl, ⟨T, hc, hok⟩, T', hd, hok'⟩
    · exact absurd q hxe
    · refine tos_turn (c := 0) (y := x) hw S hz I EZ F28 i1 hb ht nib nit (by simp) (by simp) (by simp) L hxs rfl T hok La (by simp) (by simp) I28 B28 (by show 1 + c.length ≤ 16; omega) rfl rfl rfl rfl rfl fun h' F' I' B' => ?_
      refine g_ifne (pc' := 64) (pc2 := 74) dj22_16_61 rfl (by decide) rfl (fun c61 => ?_) (fun c61 => False.elim (c61 (by simp)))
      refine Go.mono 5 60 rfl rfl (fin (cs := [91] ++ c) (by simp; omega) (fun u hu => ?_) rfl F' B')
      simp only [List.mem_append, List.mem_cons, List.not_mem_nil, or_false] at hu
      rcases hu with rfl | hu
      · decide
      · exact hok u hu
    · refine tos_turn (c := 0) (y := x) hw S hz I EZ F28 i1 hb ht nib nit (by simp) (by simp) (by simp) L hxs rfl T hok La (by simp) (by simp) I28 B28 (by show 1 + c.length ≤ 16; omega) rfl rfl rfl rfl rfl fun h' F' I' B' => ?_
      refine g_ifne (pc' := 64) (pc2 := 74) dj22_16_61 rfl (by decide) rfl (fun c61 => False.elim (absurd c61 (by simp))) (fun c61 => ?_)
      refine g_aloadN (pc' := 75) dj22_16_74 rfl rfl rfl ?_
      refine g_bipush (pc' := 77) (w := 44) dj22_16_75 rfl (by decide) ?_
      refine g_invokevirtualN (pc' := 80) [a17, t] [_] dj22_16_77 rfl (wl_AbstractCollection_97 hw) (wd_StringBuilder_append_lCrLjavalangStringBuilder hw) (wv_StringBuilder_StringBuilder_append_lCrLjavalangStringBuilder hw) (wm_StringBuilder_append_lCrLjavalangStringBuilder hw) (by decide) (NF.sel (wv_StringBuilder_StringBuilder_append_lCrLjavalangStringBuilder hw)) (B'.1) (Pay.of_met (met_SApC0 hw S hz zb zt B' (c := 44) (by decide) (by show ([91] ++ c).length + 1 ≤ 16; simp; omega)) (wb_StringBuilder_append_lCrLjavalangStringBuilder hw) (wi_StringBuilder hw) rfl rfl) pd_lCrLjavalangStringBuilder rfl rfl rfl rfl rfl (fun _ q => by simp at q ⊢; rcases q with q | q <;> simp [q]) fun v77 h77 q77 l77 => ?_
      obtain ⟨rfl, K77, B77⟩ := q77
      have F77 : Ext h h77 := ext_keep F' K77 (allS hb (allS ht all0))
      have I77 := ItD.keep I' K77 (fun q => by simp only [List.mem_cons, List.not_mem_nil, or_false] at q; rcases q with q | q; exact nib q; exact nit q)
      refine g_bipush (pc' := 82) (w := 32) dj22_16_80 rfl (by decide) ?_
      refine g_invokevirtualN (pc' := 85) [a17, t] [_] dj22_16_82 rfl (wl_AbstractCollection_97 hw) (wd_StringBuilder_append_lCrLjavalangStringBuilder hw) (wv_StringBuilder_StringBuilder_append_lCrLjavalangStringBuilder hw) (wm_StringBuilder_append_lCrLjavalangStringBuilder hw) (by decide) (NF.sel (wv_StringBuilder_StringBuilder_append_lCrLjavalangStringBuilder hw)) (B77.1) (Pay.of_met (met_SApC0 hw S hz zb zt B77 (c := 32) (by decide) (by show ([91] ++ c ++ [44]).length + 1 ≤ 16; simp; omega)) (wb_StringBuilder_append_lCrLjavalangStringBuilder hw) (wi_StringBuilder hw) rfl rfl) pd_lCrLjavalangStringBuilder rfl rfl rfl rfl rfl (fun _ q => by simp at q ⊢; rcases q with q | q <;> simp [q]) fun v82 h82 q82 l82 => ?_
      obtain ⟨rfl, K82, B82⟩ := q82
      have F82 : Ext h h82 := ext_keep F77 K82 (allS hb (allS ht all0))
      have I82 := ItD.keep I77 K82 (fun q => by simp only [List.mem_cons, List.not_mem_nil, or_false] at q; rcases q with q | q; exact nib q; exact nit q)
      refine g_pop (pc' := 86) dj22_16_85 rfl rfl ?_
      refine g_goto (pc' := 32) dj22_16_86 (by decide) rfl ?_
      refine tos_turn (c := 1) (y := y) hw S hz I EZ F82 i1 hb ht nib nit (by simp) (by simp) (by simp) L hxs rfl T' hok' La (by simp) (by simp) I82 B82 (by show ([91] ++ c ++ [44] ++ [32]).length + d.length ≤ 16; simp; omega) rfl rfl rfl rfl rfl fun h2 F2 I2 B2 => ?_
      refine g_ifne (pc' := 64) (pc2 := 74) dj22_16_61 rfl (by decide) rfl (fun c61 => ?_) (fun c61 => False.elim (c61 (by simp)))
      refine Go.mono 5 60 rfl rfl (fin (cs := [91] ++ c ++ [44] ++ [32] ++ d) (by simp; omega) (fun u hu => ?_) rfl F2 B2)
      simp only [List.mem_append, List.mem_cons, List.not_mem_nil, or_false] at hu
      rcases hu with (((rfl | hu) | rfl) | rfl) | hu
      · decide
      · exact hok u hu
      · decide
      · decide
      · exact hok' u hu
/-- String.valueOf(Object) of the list -/
theorem met_VOl (hw : ∀ d ∈ tables_1, d.before a0 Z = true) (S : Sta Z Z.heap "java/lang/String" "COMPACT_STRINGS" "Z" (.int z)) (hz : ¬ z = 0) {el em a : Addr} {xs : List Addr} {css : List (List Int32)} (I : ICS Z el em) (EZ : Ext Z.heap h) (L : ILd Z h a el em xs) (Sp : Sps Z h xs css) :
    MetW [] l yVO jdk_42_method_133_code 1 (some (.object "java/lang/String")) (Rm 8 8 100 190) #[.ref a] Z a0 consts_1 false [] h (fun v h' => ∃ m, v = some (.ref m) ∧ Ext h h' ∧ Str Z h' m (ltx css)) := by
  have hob : NI Z "java/lang/Object" := NI.sel (wv_Object_Object_getClass_lrLjavalangClass hw)
  refine MetW.of (by first | exact plainFor_of_name (by first | (simp [plainName, overriddenIn]; done) | decide +kernel) | decide +kernel) fun X hX => Go.old fun EZ => ?_
  show Go X _ _ _ _ _ _ _ _ _ _ _ _ _ _ _ _ (mkF X.m 0 #[.val (.ref a)] [])
  refine g_aloadN (pc' := 1) dj42_133_0 rfl rfl rfl ?_
  refine g_ifnonnullY (pc2 := 10) dj42_133_1 (by decide) rfl ?_
  refine g_aloadN (pc' := 11) dj42_133_10 rfl rfl rfl ?_
  by_cases hxe : xs = []
  · obtain ⟨-, rfl⟩ : xs = [] ∧ a = el := by
      rcases L with q | ⟨x, q, -⟩ | ⟨x, x', q, -⟩
      · exact q
      · rw [hxe] at q; cases q
      · rw [hxe] at q; cases q
    refine g_invokevirtualN (pc' := 14) [] [] dj42_133_11 rfl (wl_String_1007 hw) (wd_Object_toString_lrLjavalangString hw) (wv_ImmutableCollectionsSListN_Object_toString_lrLjavalangString hw) (wm_AbstractCollection_toString_lrLjavalangString hw) (by decide) (nf_ni hob) (I.2.2.1.ext EZ) (Pay.of_met (met_ACt hw S hz I EZ L Sp) (wb_AbstractCollection_toString_lrLjavalangString hw) (wi_AbstractCollection hw) rfl rfl) pd_lrLjavalangString rfl rfl rfl rfl rfl (fun _ q => nomatch q) fun v11 h11 q11 l11 => ?_
    obtain ⟨m, rfl, r⟩ := q11
    refine g_areturn dj42_133_14 rfl rfl rfl rfl rfl rfl (⟨m, rfl, r⟩)
  · have La : Exa Z h a L12N := by
      rcases L with ⟨q, -⟩ | ⟨x, -, E, -, -⟩ | ⟨x, x', -, E, -, -⟩
      · exact absurd q hxe
      · exact E
      · exact E
    refine g_invokevirtualN (pc' := 14) [] [] dj42_133_11 rfl (wl_String_1007 hw) (wd_Object_toString_lrLjavalangString hw) (wv_ImmutableCollectionsSList12_Object_toString_lrLjavalangString hw) (wm_AbstractCollection_toString_lrLjavalangString hw) (by decide) (nf_ni hob) (La) (Pay.of_met (met_ACt hw S hz I EZ L Sp) (wb_AbstractCollection_toString_lrLjavalangString hw) (wi_AbstractCollection hw) rfl rfl) pd_lrLjavalangString rfl rfl rfl rfl rfl (fun _ q => nomatch q) fun v11 h11 q11 l11 => ?_
    obtain ⟨m, rfl, r⟩ := q11
    refine g_areturn dj42_133_14 rfl rfl rfl rfl rfl rfl (⟨m, rfl, r⟩)
end Tos
/-! CollectionDocument.Text: made, and its text -/
section Text
variable {l : Launch} {R : Room} {Z : State} {a0 : Array Value} {EL : List (String × Nat)} {nw : Bool} {h : Heap} {W : Nat} {z : Int32}
abbrev TXN : String := "com/example/simple_rocchio/simplerocchio/CollectionDocument$Text"
abbrev yTxi : MethodName := ⟨"com/example/simple_rocchio/simplerocchio/CollectionDocument$Text", "<init>", "(Ljava/lang/String;Ljava/util/List;)V"⟩
abbrev yTxt : MethodName := ⟨"com/example/simple_rocchio/simplerocchio/CollectionDocument$Text", "toString", "()Ljava/lang/String;"⟩
theorem met_Txi (hw : ∀ d ∈ tables_1, d.before a0 Z = true) {el em mir o a t d x : Addr} {xs : List Addr} {v0 v1 : Value} (I : ICS Z el em) (M : Mir Z mir) (EZ : Ext Z.heap h) (ho : Z.heap.size ≤ o) (E : Exa Z h o TXN) (F0 : Fld Z h o TXN "mText" "Ljava/lang/String;" v0) (F1 : Fld Z h o TXN "mFields" "Ljava/util/List;" v1) (B : ALd Z h a t d xs) (h2 : xs.length ≤ 2) (hx : ∀ x ∈ xs, Exa Z h x STN) (hta : Z.heap.size ≤ a) :
    MetW [] l yTxi prog_3_method_1_code 3 none (Rm 8 2 4 160) #[.ref o, .ref x, .ref a] Z a0 EL nw [o] h (fun v h' => v = none ∧ Keep h h' [o] ∧ Exa Z h' o TXN ∧ Fld Z h' o TXN "mText" "Ljava/lang/String;" (.ref x) ∧ ∃ b, Fld Z h' o TXN "mFields" "Ljava/util/List;" (.ref b) ∧ ILd Z h' b el em xs) := by
  have ne : RoadKit.slotOf Z TXN "mFields" "Ljava/util/List;" ≠ RoadKit.slotOf Z TXN "mText" "Ljava/lang/String;" := slot_ne (Or.inr (wy_CollectionDocumentSText_CollectionDocumentSText_mFields hw)) (Or.inr (wy_CollectionDocumentSText_CollectionDocumentSText_mText hw)) (by decide) (t := .object "java/util/List") (t' := .object "java/lang/String") (by decide) (by decide)
  have no : ∀ {b : Addr} {C : String}, C ≠ TXN → Exa Z h b C → b ∉ [o] := fun hC Eb q => by cases List.mem_singleton.mp q; exact Eb.ne E hC rfl
  refine MetW.of (by first | exact plainFor_of_name (by first | (simp [plainName, overriddenIn]; done) | decide +kernel) | decide +kernel) fun X hX => Go.old fun EZ => ?_
  show Go X _ _ _ _ _ _ _ _ _ _ _ _ _ _ _ _ (mkF X.m 0 #[.val (.ref o), .val (.ref x), .val (.ref a)] [])
  refine g_aloadN (pc' := 1) dp3_1_0 rfl rfl rfl ?_
  refine g_objinit (pc' := 4) dp3_1_1 rfl (wl_CollectionDocumentSText_1 hw) (wm_Object_init_lrV hw) (wb_Object_init_lrV hw) rfl rfl rfl ?_
  refine g_aloadN (pc' := 5) dp3_1_4 rfl rfl rfl ?_
  refine g_aloadN (pc' := 6) dp3_1_5 rfl rfl rfl ?_
  refine g_putfield (pc' := 9) dp3_1_6 rfl (wf_CollectionDocumentSText_7 hw) (F0) (E) (Or.inr ⟨wy_CollectionDocumentSText_CollectionDocumentSText_mText hw, rfl, rfl⟩) (wn_CollectionDocumentSText hw) (ty := (.object "java/lang/String")) (by decide) rfl rfl (ho) (by simp) fun h6 W6 => ?_
  refine g_aloadN (pc' := 10) dp3_1_9 rfl rfl rfl ?_
  refine g_aloadN (pc' := 11) dp3_1_10 rfl rfl rfl ?_
  have Kw := Keep.of_wr W6
  have B6 : ALd Z h6 a t d xs := by
    obtain ⟨b1, b2, b3, ⟨mc, b4⟩, b5⟩ := B
    have na := no (by decide) b1
    refine ⟨b1.keep Kw, b2.keep Kw na, b3.keep Kw na, ⟨mc, b4.keep Kw na⟩, b5.imp id fun ⟨q1, q2, q3, k, q4, q5, q6⟩ => ⟨q1, q2, q3, k, q4.keep Kw (fun q => by cases List.mem_singleton.mp q; exact E.neArv q4 (wn_CollectionDocumentSText hw) rfl), q5, q6.keep Kw⟩⟩
  have Z6 : Ext Z.heap h6 := ext_keep EZ Kw (allS ho all0)
  refine g_invokestatic (pc' := 14) [] [_] dp3_1_11 rfl (wl_CollectionDocumentSText_13 hw) (ws_List_copyOf_lLjavautilCollectionrLjavautilList hw) (wi_List hw) (wb_List_copyOf_lLjavautilCollectionrLjavautilList hw) (by decide) (Pay.of_met (met_cp hw I M Z6 B6 h2 (fun x q => (hx x q).keep Kw)) (wb_List_copyOf_lLjavautilCollectionrLjavautilList hw) (wi_List hw) rfl rfl) pd_lLjavautilCollectionrLjavautilList rfl rfl rfl rfl rfl (fun _ q => nomatch q) fun v11 h11 q11 l11 => ?_
  obtain ⟨b, rfl, E11, B11⟩ := q11
  refine g_putfield (pc' := 17) dp3_1_14 rfl (wf_CollectionDocumentSText_19 hw) ((F1.other W6 (Or.inr ne)).ext E11) ((E.wr W6).ext E11) (Or.inr ⟨wy_CollectionDocumentSText_CollectionDocumentSText_mFields hw, rfl, rfl⟩) (wn_CollectionDocumentSText hw) (ty := (.object "java/util/List")) (by decide) rfl rfl (ho) (by simp) fun h14 W14 => ?_
  have Kw2 := Keep.of_wr W14
  have B14 : ILd Z h14 b el em xs := by
    rcases B11 with q | ⟨u, q, h1, h2', h3⟩ | ⟨u, v, q, h1, h2', h3⟩
    · exact Or.inl q
    · have nb : b ∉ [o] := fun q => by cases List.mem_singleton.mp q; exact h1.ne ((E.wr W6).ext E11) (by decide) rfl
      exact Or.inr (Or.inl ⟨u, q, h1.keep Kw2, h2'.keep Kw2 nb, h3.keep Kw2 nb⟩)
    · have nb : b ∉ [o] := fun q => by cases List.mem_singleton.mp q; exact h1.ne ((E.wr W6).ext E11) (by decide) rfl
      exact Or.inr (Or.inr ⟨u, v, q, h1.keep Kw2, h2'.keep Kw2 nb, h3.keep Kw2 nb⟩)
  refine g_return dp3_1_17 rfl rfl rfl (⟨rfl, (((Keep.refl h [o]).wr W6 (Or.inl (List.mem_cons_self ..))).ext E11).wr W14 (Or.inl (List.mem_cons_self ..)), ((E.wr W6).ext E11).wr W14, ((F0.same W6).ext E11).other W14 (Or.inr ne.symm), b, ((F1.other W6 (Or.inr ne)).ext E11).same W14, B14⟩)
theorem met_SApOl (hw : ∀ d ∈ tables_1, d.before a0 Z = true) (S : Sta Z Z.heap "java/lang/String" "COMPACT_STRINGS" "Z" (.int z)) (hz : ¬ z = 0) (EZ : Ext Z.heap h) {b t el em a : Addr} {cs : List Int32} {xs : List Addr} {css : List (List Int32)} (hb : Z.heap.size ≤ b) (ht : Z.heap.size ≤ t) (B : SBd Z h b t cs 16) (I : ICS Z el em) (L : ILd Z h a el em xs) (Sp : Sps Z h xs css) (hN : cs.length ≤ 5) :
    MetW [] l ySApO jdk_67_method_6_code 2 (some (.object SBN)) (Rm 9 8 100 210) #[.ref b, .ref a] Z a0 consts_1 false [b, t] h (fun v h' => v = some (.ref b) ∧ Keep h h' [b, t] ∧ SBd Z h' b t (cs ++ ltx css) 16) := by
  have ll := ltx_len Sp
  refine MetW.of (by first | exact plainFor_of_name (by first | (simp [plainName, overriddenIn]; done) | decide +kernel) | decide +kernel) fun X hX => Go.old fun EZ => ?_
  show Go X _ _ _ _ _ _ _ _ _ _ _ _ _ _ _ _ (mkF X.m 0 #[.val (.ref b), .val (.ref a)] [])
  refine g_aloadN (pc' := 1) dj67_6_0 rfl rfl rfl ?_
  refine g_aloadN (pc' := 2) dj67_6_1 rfl rfl rfl ?_
  refine g_invokestatic (pc' := 5) [] [_] dj67_6_2 rfl (wl_StringBuilder_17 hw) (ws_String_valueOf_lLjavalangObjectrLjavalangString hw) (wi_String hw) (wb_String_valueOf_lLjavalangObjectrLjavalangString hw) (by decide) (Pay.of_met (met_VOl hw S hz I EZ L Sp) (wb_String_valueOf_lLjavalangObjectrLjavalangString hw) (wi_String hw) rfl rfl) pd_lLjavalangObjectrLjavalangString rfl rfl rfl rfl rfl (fun _ q => nomatch q) fun v2 h2 q2 l2 => ?_
  obtain ⟨m, rfl, E2, T2⟩ := q2
  refine g_invokevirtualN (pc' := 8) [b, t] [_] dj67_6_5 rfl (wl_StringBuilder_23 hw) (wd_StringBuilder_append_lLjavalangStringrLjavalangStringBuilder hw) (wv_StringBuilder_StringBuilder_append_lLjavalangStringrLjavalangStringBuilder hw) (wm_StringBuilder_append_lLjavalangStringrLjavalangStringBuilder hw) (by decide) (NF.sel (wv_StringBuilder_StringBuilder_append_lLjavalangStringrLjavalangStringBuilder hw)) ((B.ext E2).1) (Pay.of_met (met_SApS0 hw S hz (ext_trans EZ E2) hb ht (B.ext E2) T2 (fun u q => (ltx_ok Sp u q).2) (by omega)) (wb_StringBuilder_append_lLjavalangStringrLjavalangStringBuilder hw) (wi_StringBuilder hw) rfl rfl) pd_lLjavalangStringrLjavalangStringBuilder rfl rfl rfl rfl rfl (fun _ q => q) fun v5 h5 q5 l5 => ?_
  obtain ⟨rfl, K5, B5⟩ := q5
  refine g_areturn dj67_6_8 rfl rfl rfl rfl rfl rfl (⟨rfl, ((Keep.refl h [b, t]).ext E2).trans K5 (fun _ q => Or.inl q), B5⟩)
theorem met_Txt (hw : ∀ d ∈ tables_1, d.before a0 Z = true) (S : Sta Z Z.heap "java/lang/String" "COMPACT_STRINGS" "Z" (.int z)) (hz : ¬ z = 0) (EZ : Ext Z.heap h) {el em o a x : Addr} {xs : List Addr} {css : List (List Int32)} {tx : List Int32} (I : ICS Z el em) (F0 : Fld Z h o TXN "mText" "Ljava/lang/String;" (.ref x)) (F1 : Fld Z h o TXN "mFields" "Ljava/util/List;" (.ref a)) (L : ILd Z h a el em xs) (Sp : Sps Z h xs css) (T : Str Z h x tx) (htx : tx.length ≤ 3) (hok : ∀ u ∈ tx, ¬ u < 0 ∧ ¬ (255 : Int32) < u) :
    MetW [] l yTxt prog_3_method_6_code 1 (some (.object "java/lang/String")) (Rm 10 16 220 230) #[.ref o] Z a0 consts_1 false [] h (fun v h' => ∃ m, v = some (.ref m) ∧ Ext h h' ∧ Str Z h' m (ltx css ++ [58, 32] ++ tx)) := by
  have ll := ltx_len Sp
  refine MetW.of (by first | exact plainFor_of_name (by first | (simp [plainName, overriddenIn]; done) | decide +kernel) | decide +kernel) fun X hX => Go.old fun EZ => ?_
  show Go X _ _ _ _ _ _ _ _ _ _ _ _ _ _ _ _ (mkF X.m 0 #[.val (.ref o)] [])
  refine g_new (pc' := 3) dp3_6_0 rfl (wc_CollectionDocumentSText_36 hw) (wn_StringBuilder hw) (wi_StringBuilder hw) rfl rfl fun h0 a0 e0 E0 A0 D0 => ?_
  refine g_dup (pc' := 4) dp3_6_3 rfl rfl ?_
  have zb : Z.heap.size ≤ a0 := by rw [e0]; exact EZ.1
  have hb : h.size ≤ a0 := Nat.le_of_eq e0.symm
  refine g_specialB [a0] (pc' := 7) [a0] [] dp3_6_4 rfl rfl (wl_CollectionDocumentSText_38 hw) (wm_StringBuilder_init_lrV hw) (wb_StringBuilder_init_lrV hw) (by decide) (Pay.of_met (met_SBi hw S hz zb A0 (D0 (Or.inl (wy_StringBuilder_AbstractStringBuilder_value hw)) (ty := .array .byte) (by decide)) (D0 (Or.inl (wy_StringBuilder_AbstractStringBuilder_coder hw)) (ty := .byte) (by decide)) (D0 (Or.inl (wy_StringBuilder_AbstractStringBuilder_count hw)) (ty := .int) (by decide))) (wb_StringBuilder_init_lrV hw) (wi_StringBuilder hw) rfl rfl) (fun _ _ q => q.2.1) (fun _ q => by cases List.mem_singleton.mp q; simp) pd_lrV rfl rfl rfl rfl rfl (fun _ q => by cases List.mem_singleton.mp q; simp) fun v4 h4 q4 l4 => ?_
  obtain ⟨rfl, K4, t, t1, t2, B4⟩ := q4
  refine ⟨[t], fun y hy => by cases List.mem_singleton.mp hy; exact ⟨t1, t2⟩, Go.sub [a0, t] (fun y hy => by simp only [List.mem_cons, List.not_mem_nil, or_false] at hy; rcases hy with rfl | rfl <;> simp) ?_⟩
  have F4 : Ext h h4 := ext_keep E0 K4 (allS hb all0)
  have ht : h.size ≤ t := Nat.le_trans E0.1 t1
  have zt : Z.heap.size ≤ t := Nat.le_trans EZ.1 ht
  refine g_aloadN (pc' := 8) dp3_6_7 rfl rfl rfl ?_
  refine g_getfield (pc' := 11) dp3_6_8 rfl (wf_CollectionDocumentSText_19 hw) ((F1.ext F4)) ?_
  refine g_invokevirtualN (pc' := 14) [a0, t] [_] dp3_6_11 rfl (wl_CollectionDocumentSText_39 hw) (wd_StringBuilder_append_lLjavalangObjectrLjavalangStringBuilder hw) (wv_StringBuilder_StringBuilder_append_lLjavalangObjectrLjavalangStringBuilder hw) (wm_StringBuilder_append_lLjavalangObjectrLjavalangStringBuilder hw) (by decide) (NF.sel (wv_StringBuilder_StringBuilder_append_lLjavalangObjectrLjavalangStringBuilder hw)) (B4.1) (Pay.of_met (met_SApOl hw S hz (ext_trans EZ F4) zb zt B4 I (L.ext F4) (Sp.ext F4) (by decide)) (wb_StringBuilder_append_lLjavalangObjectrLjavalangStringBuilder hw) (wi_StringBuilder hw) rfl rfl) pd_lLjavalangObjectrLjavalangStringBuilder rfl rfl rfl rfl rfl (fun _ q => q) fun v11 h11 q11 l11 => ?_
  obtain ⟨rfl, K11, B11⟩ := q11
  rw [List.nil_append] at B11
  have F11 : Ext h h11 := ext_keep F4 K11 (allS hb (allS ht all0))
  refine g_lit (pc' := 16) rfl [58, 32] 8 dp3_6_14 rfl (wt_CollectionDocumentSText_43 hw) (own_atoms hw) (by decide) ⟨by decide, by decide⟩ (by decide) (by decide) (by decide) rfl rfl rfl rfl rfl fun h14 a14 E14 T14 n14 => ?_
  have F14 : Ext h h14 := ext_trans F11 E14
  refine g_invokevirtualN (pc' := 19) [a0, t] [_] dp3_6_16 rfl (wl_CollectionDocumentSText_45 hw) (wd_StringBuilder_append_lLjavalangStringrLjavalangStringBuilder hw) (wv_StringBuilder_StringBuilder_append_lLjavalangStringrLjavalangStringBuilder hw) (wm_StringBuilder_append_lLjavalangStringrLjavalangStringBuilder hw) (by decide) (NF.sel (wv_StringBuilder_StringBuilder_append_lLjavalangStringrLjavalangStringBuilder hw)) ((B11.ext E14).1) (Pay.of_met (met_SApS0 hw S hz (ext_trans EZ F14) zb zt (B11.ext E14) T14 (by decide) (by show (ltx css).length + 2 ≤ 16; omega)) (wb_StringBuilder_append_lLjavalangStringrLjavalangStringBuilder hw) (wi_StringBuilder hw) rfl rfl) pd_lLjavalangStringrLjavalangStringBuilder rfl rfl rfl rfl rfl (fun _ q => q) fun v16 h16 q16 l16 => ?_
  obtain ⟨rfl, K16, B16⟩ := q16
  have F16 : Ext h h16 := ext_keep F14 K16 (allS hb (allS ht all0))
  refine g_aloadN (pc' := 20) dp3_6_19 rfl rfl rfl ?_
  refine g_getfield (pc' := 23) dp3_6_20 rfl (wf_CollectionDocumentSText_7 hw) ((F0.ext F16)) ?_
  refine g_invokevirtualN (pc' := 26) [a0, t] [_] dp3_6_23 rfl (wl_CollectionDocumentSText_45 hw) (wd_StringBuilder_append_lLjavalangStringrLjavalangStringBuilder hw) (wv_StringBuilder_StringBuilder_append_lLjavalangStringrLjavalangStringBuilder hw) (wm_StringBuilder_append_lLjavalangStringrLjavalangStringBuilder hw) (by decide) (NF.sel (wv_StringBuilder_StringBuilder_append_lLjavalangStringrLjavalangStringBuilder hw)) (B16.1) (Pay.of_met (met_SApS0 hw S hz (ext_trans EZ F16) zb zt B16 (T.ext F16) (fun u q => (hok u q).2) (by rw [List.length_append]; show (ltx css).length + 2 + tx.length ≤ 16; omega)) (wb_StringBuilder_append_lLjavalangStringrLjavalangStringBuilder hw) (wi_StringBuilder hw) rfl rfl) pd_lLjavalangStringrLjavalangStringBuilder rfl rfl rfl rfl rfl (fun _ q => q) fun v23 h23 q23 l23 => ?_
  obtain ⟨rfl, K23, B23⟩ := q23
  have F23 : Ext h h23 := ext_keep F16 K23 (allS hb (allS ht all0))
  have lt : (ltx css ++ [58, 32] ++ tx).length ≤ 13 := by
    rw [List.length_append, List.length_append]
    show (ltx css).length + 2 + tx.length ≤ 13
    omega
  have hall : ∀ u ∈ ltx css ++ [58, 32] ++ tx, ¬ u < 0 ∧ ¬ (255 : Int32) < u := fun u q => by
    rcases List.mem_append.mp q with q | q
    · rcases List.mem_append.mp q with q | q
      · exact ltx_ok Sp u q
      · exact (by decide : ∀ u ∈ ([58, 32] : List Int32), ¬ u < 0 ∧ ¬ (255 : Int32) < u) u q
    · exact hok u q
  refine g_invokevirtualN (pc' := 29) [] [] dp3_6_26 rfl (wl_CollectionDocumentSText_48 hw) (wd_StringBuilder_toString_lrLjavalangString hw) (wv_StringBuilder_StringBuilder_toString_lrLjavalangString hw) (wm_StringBuilder_toString_lrLjavalangString hw) (by decide) (NF.sel (wv_StringBuilder_StringBuilder_toString_lrLjavalangString hw)) (B23.1) (Pay.of_met (met_TSg (W := 16) hw S hz (ext_trans EZ F23) B23 (fun {h t kb vs} EZ hc A hvs nw => met_CRs hw EZ A hvs (by decide) (by omega) (by omega)) hall) (wb_StringBuilder_toString_lrLjavalangString hw) (wi_StringBuilder hw) rfl rfl) pd_lrLjavalangString rfl rfl rfl rfl rfl (fun _ q => nomatch q) fun v26 h26 q26 l26 => ?_
  obtain ⟨m, rfl, -, -, E26, T26⟩ := q26
  refine g_areturn dp3_6_29 rfl rfl rfl rfl rfl rfl (⟨m, rfl, ext_trans F23 E26, T26⟩)
end Text
/-! the statics of ArrayList and ImmutableCollections, from the words of the start -/
section Stat258
open Jvm.Free.SBG Jvm.Free.AList Jvm.Free.SB Jvm.Free.SubstrLeaves
variable {s : State} {args : Array Value}
theorem arr0 {t : Term} {a : Addr} (hf : Fit s) (w1 : (Jvm.Cond.arrayOf t (.object OBN)).before args s = true) (w2 : (Jvm.Cond.eq (.length t) (.int 0)).before args s = true) (ev : t.eval args s none [] s = some (.ref a)) : ∃ k, Arv s s.heap a k (.object OBN) 0 [] .null := by
  obtain ⟨cl, A⟩ := Arr.start ev (Cond.before_iff.mp w1)
  have hl := Cond.eq_int w2 rfl
  obtain ⟨d', D', hev', harrAt, hlen⟩ := Term.length_spec hl
  cases ev.symm.trans hev'
  cases (State.arrayAt?_spec harrAt).1.symm.trans A.1
  have h31 := length_lt ev harrAt hl
  have e : (Term.length t).eval args s none [] s = some (.int (Int32.ofNat cl.slots.size)) := by simp [Term.eval, ev, harrAt, h31]
  have e2 : Int32.ofNat cl.slots.size = 0 := by
    have := Option.some.inj (e.symm.trans hl)
    simpa using this
  exact ⟨_, Arv.start hf A h31 e2 (by decide) rfl trivial⟩
end Stat258
/-! the law's helpers -/
section Help
variable {l : Launch} {R : Room} {Z : State} {a0 : Array Value} {EL : List (String × Nat)} {nw : Bool} {h : Heap} {W : Nat} {z : Int32} {fm : Value}
theorem str_keep2 {b t x : Addr} {h' : Heap} {C : String} {nI : Nat} {ds : List Int32} (T : Str Z h x ds) (E : Exa Z h b C) (w : (Jvm.Cond.instantiable C nI).before a0 Z = true) (hC : C ≠ "java/lang/String") (wS : (Jvm.Cond.instantiable "java/lang/String" 4).before a0 Z = true) (At : ∃ (k : ClassId) (n : Int32) (vs : List Value), Arv Z h t k (.object OBN) n vs .null) (K : Keep h h' [b, t]) : Str Z h' x ds := by
  obtain ⟨k, n, vs, A⟩ := At
  obtain ⟨E1, t', kb, cd, N2, ws, V, D, A', r⟩ := T
  have q1 : x ∉ [b, t] := fun q => by
    simp only [List.mem_cons, List.not_mem_nil, or_false] at q
    rcases q with rfl | rfl
    · exact E.ne E1 hC rfl
    · exact E1.neArv A wS rfl
  have q2 : t' ∉ [b, t] := fun q => by
    simp only [List.mem_cons, List.not_mem_nil, or_false] at q
    rcases q with rfl | rfl
    · exact E.neArv A' w rfl
    · obtain ⟨c1, ⟨a1, ⟨-, k1, a2, m1, a3⟩, -⟩, -⟩ := A
      obtain ⟨c2, ⟨b1, ⟨-, k2, b2, m2, b3⟩, -⟩, -⟩ := A'
      cases a1.symm.trans b1
      cases a2.symm.trans b2
      rw [a3] at b3
      cases b3
  exact ⟨E1.keep K, t', kb, cd, N2, ws, V.keep K q1, D.keep K q1, A'.keep K q2, r⟩
abbrev OK8 (c : Int32) : Prop := ¬ c < 0 ∧ ¬ (255 : Int32) < c
abbrev yCh : MethodName := ⟨"com/example/simple_rocchio/simplerocchio/CollectionDocumentTextToStringPinLaw", "ch", "(JI)C"⟩
abbrev yStr : MethodName := ⟨"com/example/simple_rocchio/simplerocchio/CollectionDocumentTextToStringPinLaw", "str", "(ICCC)Ljava/lang/String;"⟩
abbrev yPt : MethodName := ⟨"com/example/simple_rocchio/simplerocchio/CollectionDocumentTextToStringPinLaw", "put", "([CIC)I"⟩
abbrev yPS : MethodName := ⟨"com/example/simple_rocchio/simplerocchio/CollectionDocumentTextToStringPinLaw", "putStr", "([CIICCC)I"⟩
abbrev yAt : MethodName := ⟨"com/example/simple_rocchio/simplerocchio/CollectionDocumentTextToStringPinLaw", "at", "(Ljava/lang/String;[CII)Z"⟩
theorem met_ch (hw : ∀ d ∈ tables_1, d.before a0 Z = true) {v : Int64} {i : Int32} : MetW [] l yCh method_2_code 3 (some .char) (Rm 0 0 0 0) #[.long v, .int i] Z a0 EL nw [] h (fun r h' => (∃ c, r = some (.int c) ∧ OK8 c) ∧ h' = h) := by
  refine MetW.of (by first | exact plainFor_of_name (by first | (simp [plainName, overriddenIn]; done) | decide +kernel) | decide +kernel) fun X hX => Go.old fun EZ => ?_
  show Go X _ _ _ _ _ _ _ _ _ _ _ _ _ _ _ _ (mkF X.m 0 #[.val (.long v), .second, .val (.int i)] [])
  refine g_lloadN (pc' := 1) dm2_0 rfl rfl ?_
  refine g_bipush (pc' := 3) (w := 8) dm2_1 rfl (by decide) ?_
  refine g_iloadN (pc' := 4) dm2_3 rfl rfl ?_
  refine g_imul (pc' := 5) dm2_4 rfl ?_
  refine g_lushr (pc' := 6) dm2_5 rfl ?_
  refine g_ldc2J (pc' := 9) dm2_6 rfl (wk_CollectionDocumentTextToStringPinLaw_7 hw) ?_
  refine g_land (pc' := 10) dm2_9 rfl ?_
  refine g_l2i (pc' := 11) dm2_10 rfl ?_
  refine g_i2c (pc' := 12) dm2_11 rfl ?_
  refine g_ireturn (t := .char) dm2_12 rfl (by simp) (congrArg Value.int (nar_idem _)) rfl rfl (⟨⟨_, rfl, ok8L _⟩, rfl⟩)
theorem met_str (hw : ∀ d ∈ tables_1, d.before a0 Z = true) (S : Sta Z Z.heap "java/lang/String" "COMPACT_STRINGS" "Z" (.int z)) (hz : ¬ z = 0) {n : Nat} (hn : n ≤ 3) {u0 u1 u2 : Int32} (k0 : OK8 u0) (k1 : OK8 u1) (k2 : OK8 u2) : MetW [] l yStr method_3_code 4 (some (.object "java/lang/String")) (Rm 5 6 20 90) #[.int (Int32.ofNat n), .int u0, .int u1, .int u2] Z a0 consts_1 false [] h (fun v h' => ∃ x, v = some (.ref x) ∧ h.size ≤ x ∧ Ext h h' ∧ Str Z h' x ([u0, u1, u2].take n)) := by
  match n, hn with
  | 0, _ =>
    refine MetW.of (by first | exact plainFor_of_name (by first | (simp [plainName, overriddenIn]; done) | decide +kernel) | decide +kernel) fun X hX => Go.old fun EZ => ?_
    show Go X _ _ _ _ _ _ _ _ _ _ _ _ _ _ _ _ (mkF X.m 0 #[.val (.int (Int32.ofNat 0)), .val (.int u0), .val (.int u1), .val (.int u2)] [])
    refine g_iloadN (pc' := 1) dm3_0 rfl rfl ?_
    refine g_ifne (pc' := 4) (pc2 := 15) dm3_1 rfl (by decide) rfl (fun c1 => ?_) (fun c1 => False.elim (c1 rfl))
    refine g_new (pc' := 7) dm3_4 rfl (wc_CollectionDocumentTextToStringPinLaw_9 hw) (wn_String hw) (wi_String hw) rfl rfl fun h4 a4 e4 E4 A4 D4 => ?_
    refine g_dup (pc' := 8) dm3_7 rfl rfl ?_
    refine g_iconst (pc' := 9) (w := 0) dm3_8 rfl (by decide) ?_
    refine g_newarray (pc' := 11) (cap := 0) dm3_9 rfl (wa_char hw) (by decide) (by decide) rfl rfl rfl fun h9 a9 k9 e9 E9 A9 => ?_
    have t4 : a4 < h4.size := A4.lt
    have u4 : h.size ≤ h4.size := E4.1
    have z4 : Z.heap.size ≤ h.size := (EZ).1
    have y4 : a4 ≠ a9 := Nat.ne_of_lt (by omega)
    have F4_9 : Ext h h9 := (ext_trans E4 E9)
    refine g_invokespecial (pc' := 14) [a4] [_] dm3_11 rfl rfl (wl_CollectionDocumentTextToStringPinLaw_11 hw) (wm_String_init_lACrV hw) (wb_String_init_lACrV hw) (by decide) (pay_new0 hw (by decide) (by omega) ((A4).ext E9) ((D4 (Or.inr (wy_String_String_value hw)) (ty := .array .byte) (by decide)).ext E9) ((D4 (Or.inr (wy_String_String_coder hw)) (ty := .byte) (by decide)).ext E9) A9 rfl rfl) pd_lACrV rfl rfl rfl rfl rfl (fun _ q => by cases List.mem_singleton.mp q; simp) fun v11 h11 q11 l11 => ?_
    obtain ⟨rfl, K11, T4⟩ := q11
    have F4 : Ext h h11 := ext_keep F4_9 K11 (allS (by omega) all0)
    refine g_areturn dm3_14 rfl rfl rfl rfl rfl rfl (⟨a4, rfl, Nat.le_of_eq e4.symm, F4, T4⟩)
  | 1, _ =>
    refine MetW.of (by first | exact plainFor_of_name (by first | (simp [plainName, overriddenIn]; done) | decide +kernel) | decide +kernel) fun X hX => Go.old fun EZ => ?_
    show Go X _ _ _ _ _ _ _ _ _ _ _ _ _ _ _ _ (mkF X.m 0 #[.val (.int (Int32.ofNat 1)), .val (.int u0), .val (.int u1), .val (.int u2)] [])
    refine g_iloadN (pc' := 1) dm3_0 rfl rfl ?_
    refine g_ifne (pc' := 4) (pc2 := 15) dm3_1 rfl (by decide) rfl (fun c1 => False.elim (absurd c1 (by decide))) (fun c1 => ?_)
    refine g_iloadN (pc' := 16) dm3_15 rfl rfl ?_
    refine g_iconst (pc' := 17) (w := 1) dm3_16 rfl (by decide) ?_
    refine g_icmpne (pc' := 20) (pc2 := 35) dm3_17 rfl (by decide) rfl (fun c17 => ?_) (fun c17 => False.elim (c17 rfl))
    refine g_new (pc' := 23) dm3_20 rfl (wc_CollectionDocumentTextToStringPinLaw_9 hw) (wn_String hw) (wi_String hw) rfl rfl fun h20 a20 e20 E20 A20 D20 => ?_
    refine g_dup (pc' := 24) dm3_23 rfl rfl ?_
    refine g_iconst (pc' := 25) (w := 1) dm3_24 rfl (by decide) ?_
    refine g_newarray (pc' := 27) (cap := 1) dm3_25 rfl (wa_char hw) (by decide) (by decide) rfl rfl rfl fun h25 a25 k25 e25 E25 A25 => ?_
    have t20 : a20 < h20.size := A20.lt
    have u20 : h.size ≤ h20.size := E20.1
    have z20 : Z.heap.size ≤ h.size := (EZ).1
    have y20 : a20 ≠ a25 := Nat.ne_of_lt (by omega)
    have F20_25 : Ext h h25 := (ext_trans E20 E25)
    refine g_dup (pc' := 28) dm3_27 rfl rfl ?_
    refine g_iconst (pc' := 29) (w := 0) dm3_28 rfl (by decide) ?_
    refine g_iloadN (pc' := 30) dm3_29 rfl rfl ?_
    refine g_castoreX (pc' := 31) (i := 0) dm3_30 rfl (nar8 k0) A25 (by omega) (by decide) (by decide) (ble rfl) fun h30 K30 A30 => ?_
    have F20_30 : Ext h h30 := ext_keep F20_25 K30 (allS (by omega) all0)
    refine g_invokespecial (pc' := 34) [a20] [_] dm3_31 rfl rfl (wl_CollectionDocumentTextToStringPinLaw_11 hw) (wm_String_init_lACrV hw) (wb_String_init_lACrV hw) (by decide) (pay_new (cs := [u0]) (n := 1) (own_new hw) (wn_String hw) S hz (ext_trans (EZ) F20_30) (by omega) (((A20).ext E25).keep K30) (((D20 (Or.inr (wy_String_String_value hw)) (ty := .array .byte) (by decide)).ext E25).keep K30 (ninS y20 nin0)) (((D20 (Or.inr (wy_String_String_coder hw)) (ty := .byte) (by decide)).ext E25).keep K30 (ninS y20 nin0)) A30 rfl rfl rfl rfl (inS (P := OK8) k0 in0) rfl rfl) pd_lACrV rfl rfl rfl rfl rfl (fun _ q => by cases List.mem_singleton.mp q; simp) fun v31 h31 q31 l31 => ?_
    obtain ⟨rfl, K31, T20⟩ := q31
    have F20 : Ext h h31 := ext_keep F20_30 K31 (allS (by omega) all0)
    refine g_areturn dm3_34 rfl rfl rfl rfl rfl rfl (⟨a20, rfl, Nat.le_of_eq e20.symm, F20, T20⟩)
  | 2, _ =>
    refine MetW.of (by first | exact plainFor_of_name (by first | (simp [plainName, overriddenIn]; done) | decide +kernel) | decide +kernel) fun X hX => Go.old fun EZ => ?_
    show Go X _ _ _ _ _ _ _ _ _ _ _ _ _ _ _ _ (mkF X.m 0 #[.val (.int (Int32.ofNat 2)), .val (.int u0), .val (.int u1), .val (.int u2)] [])
    refine g_iloadN (pc' := 1) dm3_0 rfl rfl ?_
    refine g_ifne (pc' := 4) (pc2 := 15) dm3_1 rfl (by decide) rfl (fun c1 => False.elim (absurd c1 (by decide))) (fun c1 => ?_)
    refine g_iloadN (pc' := 16) dm3_15 rfl rfl ?_
    refine g_iconst (pc' := 17) (w := 1) dm3_16 rfl (by decide) ?_
    refine g_icmpne (pc' := 20) (pc2 := 35) dm3_17 rfl (by decide) rfl (fun c17 => False.elim (absurd c17 (by decide))) (fun c17 => ?_)
    refine g_iloadN (pc' := 36) dm3_35 rfl rfl ?_
    refine g_iconst (pc' := 37) (w := 2) dm3_36 rfl (by decide) ?_
    refine g_icmpne (pc' := 40) (pc2 := 59) dm3_37 rfl (by decide) rfl (fun c37 => ?_) (fun c37 => False.elim (c37 rfl))
    refine g_new (pc' := 43) dm3_40 rfl (wc_CollectionDocumentTextToStringPinLaw_9 hw) (wn_String hw) (wi_String hw) rfl rfl fun h40 a40 e40 E40 A40 D40 => ?_
    refine g_dup (pc' := 44) dm3_43 rfl rfl ?_
    refine g_iconst (pc' := 45) (w := 2) dm3_44 rfl (by decide) ?_
    refine g_newarray (pc' := 47) (cap := 2) dm3_45 rfl (wa_char hw) (by decide) (by decide) rfl rfl rfl fun h45 a45 k45 e45 E45 A45 => ?_
    have t40 : a40 < h40.size := A40.lt
    have u40 : h.size ≤ h40.size := E40.1
    have z40 : Z.heap.size ≤ h.size := (EZ).1
    have y40 : a40 ≠ a45 := Nat.ne_of_lt (by omega)
    have F40_45 : Ext h h45 := (ext_trans E40 E45)
    refine g_dup (pc' := 48) dm3_47 rfl rfl ?_
    refine g_iconst (pc' := 49) (w := 0) dm3_48 rfl (by decide) ?_
    refine g_iloadN (pc' := 50) dm3_49 rfl rfl ?_
    refine g_castoreX (pc' := 51) (i := 0) dm3_50 rfl (nar8 k0) A45 (by omega) (by decide) (by decide) (ble rfl) fun h50 K50 A50 => ?_
    have F40_50 : Ext h h50 := ext_keep F40_45 K50 (allS (by omega) all0)
    refine g_dup (pc' := 52) dm3_51 rfl rfl ?_
    refine g_iconst (pc' := 53) (w := 1) dm3_52 rfl (by decide) ?_
    refine g_iloadN (pc' := 54) dm3_53 rfl rfl ?_
    refine g_castoreX (pc' := 55) (i := 1) dm3_54 rfl (nar8 k1) A50 (by omega) (by decide) (by decide) (ble rfl) fun h54 K54 A54 => ?_
    have F40_54 : Ext h h54 := ext_keep F40_50 K54 (allS (by omega) all0)
    refine g_invokespecial (pc' := 58) [a40] [_] dm3_55 rfl rfl (wl_CollectionDocumentTextToStringPinLaw_11 hw) (wm_String_init_lACrV hw) (wb_String_init_lACrV hw) (by decide) (pay_new (cs := [u0, u1]) (n := 2) (own_new hw) (wn_String hw) S hz (ext_trans (EZ) F40_54) (by omega) ((((A40).ext E45).keep K50).keep K54) ((((D40 (Or.inr (wy_String_String_value hw)) (ty := .array .byte) (by decide)).ext E45).keep K50 (ninS y40 nin0)).keep K54 (ninS y40 nin0)) ((((D40 (Or.inr (wy_String_String_coder hw)) (ty := .byte) (by decide)).ext E45).keep K50 (ninS y40 nin0)).keep K54 (ninS y40 nin0)) A54 rfl rfl rfl rfl (inS (P := OK8) k0 (inS (P := OK8) k1 in0)) rfl rfl) pd_lACrV rfl rfl rfl rfl rfl (fun _ q => by cases List.mem_singleton.mp q; simp) fun v55 h55 q55 l55 => ?_
    obtain ⟨rfl, K55, T40⟩ := q55
    have F40 : Ext h h55 := ext_keep F40_54 K55 (allS (by omega) all0)
    refine g_areturn dm3_58 rfl rfl rfl rfl rfl rfl (⟨a40, rfl, Nat.le_of_eq e40.symm, F40, T40⟩)
  | 3, _ =>
    refine MetW.of (by first | exact plainFor_of_name (by first | (simp [plainName, overriddenIn]; done) | decide +kernel) | decide +kernel) fun X hX => Go.old fun EZ => ?_
    show Go X _ _ _ _ _ _ _ _ _ _ _ _ _ _ _ _ (mkF X.m 0 #[.val (.int (Int32.ofNat 3)), .val (.int u0), .val (.int u1), .val (.int u2)] [])
    refine g_iloadN (pc' := 1) dm3_0 rfl rfl ?_
    refine g_ifne (pc' := 4) (pc2 := 15) dm3_1 rfl (by decide) rfl (fun c1 => False.elim (absurd c1 (by decide))) (fun c1 => ?_)
    refine g_iloadN (pc' := 16) dm3_15 rfl rfl ?_
    refine g_iconst (pc' := 17) (w := 1) dm3_16 rfl (by decide) ?_
    refine g_icmpne (pc' := 20) (pc2 := 35) dm3_17 rfl (by decide) rfl (fun c17 => False.elim (absurd c17 (by decide))) (fun c17 => ?_)
    refine g_iloadN (pc' := 36) dm3_35 rfl rfl ?_
    refine g_iconst (pc' := 37) (w := 2) dm3_36 rfl (by decide) ?_
    refine g_icmpne (pc' := 40) (pc2 := 59) dm3_37 rfl (by decide) rfl (fun c37 => False.elim (absurd c37 (by decide))) (fun c37 => ?_)
    refine g_new (pc' := 62) dm3_59 rfl (wc_CollectionDocumentTextToStringPinLaw_9 hw) (wn_String hw) (wi_String hw) rfl rfl fun h59 a59 e59 E59 A59 D59 => ?_
    refine g_dup (pc' := 63) dm3_62 rfl rfl ?_
    refine g_iconst (pc' := 64) (w := 3) dm3_63 rfl (by decide) ?_
    refine g_newarray (pc' := 66) (cap := 3) dm3_64 rfl (wa_char hw) (by decide) (by decide) rfl rfl rfl fun h64 a64 k64 e64 E64 A64 => ?_
    have t59 : a59 < h59.size := A59.lt
    have u59 : h.size ≤ h59.size := E59.1
    have z59 : Z.heap.size ≤ h.size := (EZ).1
    have y59 : a59 ≠ a64 := Nat.ne_of_lt (by omega)
    have F59_64 : Ext h h64 := (ext_trans E59 E64)
    refine g_dup (pc' := 67) dm3_66 rfl rfl ?_
    refine g_iconst (pc' := 68) (w := 0) dm3_67 rfl (by decide) ?_
    refine g_iloadN (pc' := 69) dm3_68 rfl rfl ?_
    refine g_castoreX (pc' := 70) (i := 0) dm3_69 rfl (nar8 k0) A64 (by omega) (by decide) (by decide) (ble rfl) fun h69 K69 A69 => ?_
    have F59_69 : Ext h h69 := ext_keep F59_64 K69 (allS (by omega) all0)
    refine g_dup (pc' := 71) dm3_70 rfl rfl ?_
    refine g_iconst (pc' := 72) (w := 1) dm3_71 rfl (by decide) ?_
    refine g_iloadN (pc' := 73) dm3_72 rfl rfl ?_
    refine g_castoreX (pc' := 74) (i := 1) dm3_73 rfl (nar8 k1) A69 (by omega) (by decide) (by decide) (ble rfl) fun h73 K73 A73 => ?_
    have F59_73 : Ext h h73 := ext_keep F59_69 K73 (allS (by omega) all0)
    refine g_dup (pc' := 75) dm3_74 rfl rfl ?_
    refine g_iconst (pc' := 76) (w := 2) dm3_75 rfl (by decide) ?_
    refine g_iloadN (pc' := 77) dm3_76 rfl rfl ?_
    refine g_castoreX (pc' := 78) (i := 2) dm3_77 rfl (nar8 k2) A73 (by omega) (by decide) (by decide) (ble rfl) fun h77 K77 A77 => ?_
    have F59_77 : Ext h h77 := ext_keep F59_73 K77 (allS (by omega) all0)
    refine g_invokespecial (pc' := 81) [a59] [_] dm3_78 rfl rfl (wl_CollectionDocumentTextToStringPinLaw_11 hw) (wm_String_init_lACrV hw) (wb_String_init_lACrV hw) (by decide) (pay_new (cs := [u0, u1, u2]) (n := 3) (own_new hw) (wn_String hw) S hz (ext_trans (EZ) F59_77) (by omega) (((((A59).ext E64).keep K69).keep K73).keep K77) (((((D59 (Or.inr (wy_String_String_value hw)) (ty := .array .byte) (by decide)).ext E64).keep K69 (ninS y59 nin0)).keep K73 (ninS y59 nin0)).keep K77 (ninS y59 nin0)) (((((D59 (Or.inr (wy_String_String_coder hw)) (ty := .byte) (by decide)).ext E64).keep K69 (ninS y59 nin0)).keep K73 (ninS y59 nin0)).keep K77 (ninS y59 nin0)) A77 rfl rfl rfl rfl (inS (P := OK8) k0 (inS (P := OK8) k1 (inS (P := OK8) k2 in0))) rfl rfl) pd_lACrV rfl rfl rfl rfl rfl (fun _ q => by cases List.mem_singleton.mp q; simp) fun v78 h78 q78 l78 => ?_
    obtain ⟨rfl, K78, T59⟩ := q78
    have F59 : Ext h h78 := ext_keep F59_77 K78 (allS (by omega) all0)
    refine g_areturn dm3_81 rfl rfl rfl rfl rfl rfl (⟨a59, rfl, Nat.le_of_eq e59.symm, F59, T59⟩)
/-- a char[16] filled from its start -/
def FillD (Z : State) (h : Heap) (e : Addr) (k : ClassId) (ds : List Int32) : Prop := Arv Z h e k .char 16 (ds.map Value.int ++ List.replicate (16 - ds.length) (.int 0)) (.int 0)
theorem fill_set (ds : List Int32) (c : Int32) (hl : ds.length < 16) : (ds.map Value.int ++ List.replicate (16 - ds.length) (Value.int 0)).set ds.length (.int c) = (ds ++ [c]).map Value.int ++ List.replicate (16 - (ds ++ [c]).length) (.int 0) := by
  have e : 16 - ds.length = (16 - (ds ++ [c]).length) + 1 := by rw [List.length_append]; simp; omega
  rw [e, List.replicate_succ, List.set_append_right _ _ (by rw [List.length_map]; exact Nat.le_refl _), List.length_map, Nat.sub_self, List.map_append, List.append_assoc]
  rfl
theorem fill_get (ds : List Int32) (i : Nat) (hi : i < ds.length) : (ds.map Value.int ++ List.replicate (16 - ds.length) (Value.int 0)).getD i (.int 0) = .int (ds.getD i 0) := by
  have h1 : i < (ds.map Value.int).length := by rw [List.length_map]; exact hi
  have e1 : (ds.map Value.int ++ List.replicate (16 - ds.length) (Value.int 0))[i]? = some (.int ds[i]) := by
    rw [List.getElem?_append_left h1, List.getElem?_map, List.getElem?_eq_getElem hi]; rfl
  rw [List.getD_eq_getElem?_getD, List.getD_eq_getElem?_getD, e1, List.getElem?_eq_getElem hi]
  rfl
theorem met_pt (hw : ∀ d ∈ tables_1, d.before a0 Z = true) {e : Addr} {k : ClassId} {ds : List Int32} {c : Int32} (hl : ds.length < 16) (he : Z.heap.size ≤ e) (kc : OK8 c) (A : FillD Z h e k ds) : MetW [] l yPt method_4_code 3 (some .int) (Rm 0 0 0 0) #[.ref e, .int (Int32.ofNat ds.length), .int c] Z a0 EL nw [] h (fun v h' => v = some (.int (Int32.ofNat (ds ++ [c]).length)) ∧ Keep h h' [e] ∧ FillD Z h' e k (ds ++ [c])) := by
  refine MetW.of (by first | exact plainFor_of_name (by first | (simp [plainName, overriddenIn]; done) | decide +kernel) | decide +kernel) fun X hX => Go.old fun EZ => ?_
  show Go X _ _ _ _ _ _ _ _ _ _ _ _ _ _ _ _ (mkF X.m 0 #[.val (.ref e), .val (.int (Int32.ofNat ds.length)), .val (.int c)] [])
  refine g_aloadN (pc' := 1) dm4_0 rfl rfl rfl ?_
  refine g_iloadN (pc' := 2) dm4_1 rfl rfl ?_
  refine g_iloadN (pc' := 3) dm4_2 rfl rfl ?_
  refine g_castoreX (pc' := 4) (i := ds.length) dm4_3 rfl (nar8 kc) (A) (he) ⟨ofNat_nn (by omega), (ofNat_lt (b := 16) (by omega) (by omega)).mpr hl⟩ (ofNat_clamp (by omega)) (by rw [List.length_append, List.length_map, List.length_replicate]; omega) fun h3 K3 A3 => ?_
  rw [fill_set ds c hl] at A3
  refine g_iloadN (pc' := 5) dm4_4 rfl rfl ?_
  refine g_iconst (pc' := 6) (w := 1) dm4_5 rfl (by decide) ?_
  refine g_iadd (pc' := 7) dm4_6 rfl ?_
  rw [show Int32.ofNat ds.length + 1 = Int32.ofNat (ds ++ [c]).length by rw [List.length_append]; exact ofNat_add2 _ 1]
  refine g_ireturn (t := .int) dm4_7 rfl (by simp) rfl rfl rfl (⟨rfl, K3, A3⟩)
theorem met_ps (hw : ∀ d ∈ tables_1, d.before a0 Z = true) {e : Addr} {k : ClassId} {ds : List Int32} {n : Nat} (hn : n ≤ 3) {u0 u1 u2 : Int32} (k0 : OK8 u0) (k1 : OK8 u1) (k2 : OK8 u2) (hl : ds.length + n ≤ 16) (he : Z.heap.size ≤ e) (A : FillD Z h e k ds) : MetW [] l yPS method_5_code 7 (some .int) (Rm 1 0 0 20) #[.ref e, .int (Int32.ofNat ds.length), .int (Int32.ofNat n), .int u0, .int u1, .int u2] Z a0 EL nw [] h (fun v h' => v = some (.int (Int32.ofNat (ds ++ [u0, u1, u2].take n).length)) ∧ Keep h h' [e] ∧ FillD Z h' e k (ds ++ [u0, u1, u2].take n)) := by
  match n, hn, hl with
  | 0, _, hl =>
    refine MetW.of (by first | exact plainFor_of_name (by first | (simp [plainName, overriddenIn]; done) | decide +kernel) | decide +kernel) fun X hX => Go.old fun EZ => ?_
    show Go X _ _ _ _ _ _ _ _ _ _ _ _ _ _ _ _ (mkF X.m 0 #[.val (.ref e), .val (.int (Int32.ofNat ds.length)), .val (.int (Int32.ofNat 0)), .val (.int u0), .val (.int u1), .val (.int u2), .unset] [])
    refine g_iloadN (pc' := 1) dm5_0 rfl rfl ?_
    refine g_istore (pc' := 3) (Ls' := #[_, _, _, _, _, _, _]) dm5_1 rfl rfl ?_
    refine g_iloadN (pc' := 4) dm5_3 rfl rfl ?_
    refine g_ifle (pc' := 7) (pc2 := 16) dm5_4 rfl (by decide) rfl (fun c4 => False.elim (absurd c4 (by decide))) (fun c4 => ?_)
    refine g_iloadN (pc' := 17) dm5_16 rfl rfl ?_
    refine g_iconst (pc' := 18) (w := 1) dm5_17 rfl (by decide) ?_
    refine g_icmple (pc' := 21) (pc2 := 31) dm5_18 rfl (by decide) rfl (fun c18 => False.elim (absurd c18 (by decide))) (fun c18 => ?_)
    refine g_iloadN (pc' := 32) dm5_31 rfl rfl ?_
    refine g_iconst (pc' := 33) (w := 2) dm5_32 rfl (by decide) ?_
    refine g_icmple (pc' := 36) (pc2 := 46) dm5_33 rfl (by decide) rfl (fun c33 => False.elim (absurd c33 (by decide))) (fun c33 => ?_)
    refine g_iload (pc' := 48) dm5_46 rfl rfl ?_
    refine g_ireturn (t := .int) dm5_48 rfl (by simp) rfl rfl rfl (⟨by rw [List.take_zero, List.append_nil], Keep.refl _ _, by rw [List.take_zero, List.append_nil]; exact A⟩)
  | 1, _, hl =>
    refine MetW.of (by first | exact plainFor_of_name (by first | (simp [plainName, overriddenIn]; done) | decide +kernel) | decide +kernel) fun X hX => Go.old fun EZ => ?_
    show Go X _ _ _ _ _ _ _ _ _ _ _ _ _ _ _ _ (mkF X.m 0 #[.val (.ref e), .val (.int (Int32.ofNat ds.length)), .val (.int (Int32.ofNat 1)), .val (.int u0), .val (.int u1), .val (.int u2), .unset] [])
    refine g_iloadN (pc' := 1) dm5_0 rfl rfl ?_
    refine g_istore (pc' := 3) (Ls' := #[_, _, _, _, _, _, _]) dm5_1 rfl rfl ?_
    refine g_iloadN (pc' := 4) dm5_3 rfl rfl ?_
    refine g_ifle (pc' := 7) (pc2 := 16) dm5_4 rfl (by decide) rfl (fun c4 => ?_) (fun c4 => False.elim (absurd c4 (by decide)))
    refine g_aloadN (pc' := 8) dm5_7 rfl rfl rfl ?_
    refine g_iload (pc' := 10) dm5_8 rfl rfl ?_
    refine g_iloadN (pc' := 11) dm5_10 rfl rfl ?_
    refine g_invokestatic (pc' := 14) [] [_, _, _] dm5_11 rfl (wl_CollectionDocumentTextToStringPinLaw_14 hw) (ws_CollectionDocumentTextToStringPinLaw_put_lACICrI hw) (wi_CollectionDocumentTextToStringPinLaw hw) (wb_CollectionDocumentTextToStringPinLaw_put_lACICrI hw) (by decide) (Pay.of_met (met_pt hw (ds := ds) (c := u0) (by omega) he k0 A) (wb_CollectionDocumentTextToStringPinLaw_put_lACICrI hw) (wi_CollectionDocumentTextToStringPinLaw hw) rfl rfl) pd_lACICrI rfl rfl rfl rfl rfl (fun _ q => nomatch q) fun v11 h11 q11 l11 => ?_
    obtain ⟨rfl, K11, A11⟩ := q11
    refine g_istore (pc' := 16) (Ls' := #[_, _, _, _, _, _, _]) dm5_14 rfl rfl ?_
    refine g_iloadN (pc' := 17) dm5_16 rfl rfl ?_
    refine g_iconst (pc' := 18) (w := 1) dm5_17 rfl (by decide) ?_
    refine g_icmple (pc' := 21) (pc2 := 31) dm5_18 rfl (by decide) rfl (fun c18 => False.elim (absurd c18 (by decide))) (fun c18 => ?_)
    refine g_iloadN (pc' := 32) dm5_31 rfl rfl ?_
    refine g_iconst (pc' := 33) (w := 2) dm5_32 rfl (by decide) ?_
    refine g_icmple (pc' := 36) (pc2 := 46) dm5_33 rfl (by decide) rfl (fun c33 => False.elim (absurd c33 (by decide))) (fun c33 => ?_)
    refine g_iload (pc' := 48) dm5_46 rfl rfl ?_
    have ed : (ds ++ [u0]) = ds ++ [u0] := by simp
    refine g_ireturn (t := .int) dm5_48 rfl (by simp) rfl rfl rfl (⟨by rw [ed]; rfl, ((Keep.refl h [e]).trans K11 (fun _ q => Or.inl q)), by rw [ed] at A11; exact A11⟩)
  | 2, _, hl =>
    refine MetW.of (by first | exact plainFor_of_name (by first | (simp [plainName, overriddenIn]; done) | decide +kernel) | decide +kernel) fun X hX => Go.old fun EZ => ?_
    show Go X _ _ _ _ _ _ _ _ _ _ _ _ _ _ _ _ (mkF X.m 0 #[.val (.ref e), .val (.int (Int32.ofNat ds.length)), .val (.int (Int32.ofNat 2)), .val (.int u0), .val (.int u1), .val (.int u2), .unset] [])
    refine g_iloadN (pc' := 1) dm5_0 rfl rfl ?_
    refine g_istore (pc' := 3) (Ls' := #[_, _, _, _, _, _, _]) dm5_1 rfl rfl ?_
    refine g_iloadN (pc' := 4) dm5_3 rfl rfl ?_
    refine g_ifle (pc' := 7) (pc2 := 16) dm5_4 rfl (by decide) rfl (fun c4 => ?_) (fun c4 => False.elim (absurd c4 (by decide)))
    refine g_aloadN (pc' := 8) dm5_7 rfl rfl rfl ?_
    refine g_iload (pc' := 10) dm5_8 rfl rfl ?_
    refine g_iloadN (pc' := 11) dm5_10 rfl rfl ?_
    refine g_invokestatic (pc' := 14) [] [_, _, _] dm5_11 rfl (wl_CollectionDocumentTextToStringPinLaw_14 hw) (ws_CollectionDocumentTextToStringPinLaw_put_lACICrI hw) (wi_CollectionDocumentTextToStringPinLaw hw) (wb_CollectionDocumentTextToStringPinLaw_put_lACICrI hw) (by decide) (Pay.of_met (met_pt hw (ds := ds) (c := u0) (by omega) he k0 A) (wb_CollectionDocumentTextToStringPinLaw_put_lACICrI hw) (wi_CollectionDocumentTextToStringPinLaw hw) rfl rfl) pd_lACICrI rfl rfl rfl rfl rfl (fun _ q => nomatch q) fun v11 h11 q11 l11 => ?_
    obtain ⟨rfl, K11, A11⟩ := q11
    refine g_istore (pc' := 16) (Ls' := #[_, _, _, _, _, _, _]) dm5_14 rfl rfl ?_
    refine g_iloadN (pc' := 17) dm5_16 rfl rfl ?_
    refine g_iconst (pc' := 18) (w := 1) dm5_17 rfl (by decide) ?_
    refine g_icmple (pc' := 21) (pc2 := 31) dm5_18 rfl (by decide) rfl (fun c18 => ?_) (fun c18 => False.elim (absurd c18 (by decide)))
    refine g_aloadN (pc' := 22) dm5_21 rfl rfl rfl ?_
    refine g_iload (pc' := 24) dm5_22 rfl rfl ?_
    refine g_iload (pc' := 26) dm5_24 rfl rfl ?_
    refine g_invokestatic (pc' := 29) [] [_, _, _] dm5_26 rfl (wl_CollectionDocumentTextToStringPinLaw_14 hw) (ws_CollectionDocumentTextToStringPinLaw_put_lACICrI hw) (wi_CollectionDocumentTextToStringPinLaw hw) (wb_CollectionDocumentTextToStringPinLaw_put_lACICrI hw) (by decide) (Pay.of_met (met_pt hw (ds := (ds ++ [u0])) (c := u1) (by simp only [List.length_append, List.length_cons, List.length_nil] <;> omega) he k1 A11) (wb_CollectionDocumentTextToStringPinLaw_put_lACICrI hw) (wi_CollectionDocumentTextToStringPinLaw hw) rfl rfl) pd_lACICrI rfl rfl rfl rfl rfl (fun _ q => nomatch q) fun v26 h26 q26 l26 => ?_
    obtain ⟨rfl, K26, A26⟩ := q26
    refine g_istore (pc' := 31) (Ls' := #[_, _, _, _, _, _, _]) dm5_29 rfl rfl ?_
    refine g_iloadN (pc' := 32) dm5_31 rfl rfl ?_
    refine g_iconst (pc' := 33) (w := 2) dm5_32 rfl (by decide) ?_
    refine g_icmple (pc' := 36) (pc2 := 46) dm5_33 rfl (by decide) rfl (fun c33 => False.elim (absurd c33 (by decide))) (fun c33 => ?_)
    refine g_iload (pc' := 48) dm5_46 rfl rfl ?_
    have ed : ((ds ++ [u0]) ++ [u1]) = ds ++ [u0, u1] := by simp
    refine g_ireturn (t := .int) dm5_48 rfl (by simp) rfl rfl rfl (⟨by rw [ed]; rfl, (((Keep.refl h [e]).trans K11 (fun _ q => Or.inl q)).trans K26 (fun _ q => Or.inl q)), by rw [ed] at A26; exact A26⟩)
  | 3, _, hl =>
    refine MetW.of (by first | exact plainFor_of_name (by first | (simp [plainName, overriddenIn]; done) | decide +kernel) | decide +kernel) fun X hX => Go.old fun EZ => ?_
    show Go X _ _ _ _ _ _ _ _ _ _ _ _ _ _ _ _ (mkF X.m 0 #[.val (.ref e), .val (.int (Int32.ofNat ds.length)), .val (.int (Int32.ofNat 3)), .val (.int u0), .val (.int u1), .val (.int u2), .unset] [])
    refine g_iloadN (pc' := 1) dm5_0 rfl rfl ?_
    refine g_istore (pc' := 3) (Ls' := #[_, _, _, _, _, _, _]) dm5_1 rfl rfl ?_
    refine g_iloadN (pc' := 4) dm5_3 rfl rfl ?_
    refine g_ifle (pc' := 7) (pc2 := 16) dm5_4 rfl (by decide) rfl (fun c4 => ?_) (fun c4 => False.elim (absurd c4 (by decide)))
    refine g_aloadN (pc' := 8) dm5_7 rfl rfl rfl ?_
    refine g_iload (pc' := 10) dm5_8 rfl rfl ?_
    refine g_iloadN (pc' := 11) dm5_10 rfl rfl ?_
    refine g_invokestatic (pc' := 14) [] [_, _, _] dm5_11 rfl (wl_CollectionDocumentTextToStringPinLaw_14 hw) (ws_CollectionDocumentTextToStringPinLaw_put_lACICrI hw) (wi_CollectionDocumentTextToStringPinLaw hw) (wb_CollectionDocumentTextToStringPinLaw_put_lACICrI hw) (by decide) (Pay.of_met (met_pt hw (ds := ds) (c := u0) (by omega) he k0 A) (wb_CollectionDocumentTextToStringPinLaw_put_lACICrI hw) (wi_CollectionDocumentTextToStringPinLaw hw) rfl rfl) pd_lACICrI rfl rfl rfl rfl rfl (fun _ q => nomatch q) fun v11 h11 q11 l11 => ?_
    obtain ⟨rfl, K11, A11⟩ := q11
    refine g_istore (pc' := 16) (Ls' := #[_, _, _, _, _, _, _]) dm5_14 rfl rfl ?_
    refine g_iloadN (pc' := 17) dm5_16 rfl rfl ?_
    refine g_iconst (pc' := 18) (w := 1) dm5_17 rfl (by decide) ?_
    refine g_icmple (pc' := 21) (pc2 := 31) dm5_18 rfl (by decide) rfl (fun c18 => ?_) (fun c18 => False.elim (absurd c18 (by decide)))
    refine g_aloadN (pc' := 22) dm5_21 rfl rfl rfl ?_
    refine g_iload (pc' := 24) dm5_22 rfl rfl ?_
    refine g_iload (pc' := 26) dm5_24 rfl rfl ?_
    refine g_invokestatic (pc' := 29) [] [_, _, _] dm5_26 rfl (wl_CollectionDocumentTextToStringPinLaw_14 hw) (ws_CollectionDocumentTextToStringPinLaw_put_lACICrI hw) (wi_CollectionDocumentTextToStringPinLaw hw) (wb_CollectionDocumentTextToStringPinLaw_put_lACICrI hw) (by decide) (Pay.of_met (met_pt hw (ds := (ds ++ [u0])) (c := u1) (by simp only [List.length_append, List.length_cons, List.length_nil] <;> omega) he k1 A11) (wb_CollectionDocumentTextToStringPinLaw_put_lACICrI hw) (wi_CollectionDocumentTextToStringPinLaw hw) rfl rfl) pd_lACICrI rfl rfl rfl rfl rfl (fun _ q => nomatch q) fun v26 h26 q26 l26 => ?_
    obtain ⟨rfl, K26, A26⟩ := q26
    refine g_istore (pc' := 31) (Ls' := #[_, _, _, _, _, _, _]) dm5_29 rfl rfl ?_
    refine g_iloadN (pc' := 32) dm5_31 rfl rfl ?_
    refine g_iconst (pc' := 33) (w := 2) dm5_32 rfl (by decide) ?_
    refine g_icmple (pc' := 36) (pc2 := 46) dm5_33 rfl (by decide) rfl (fun c33 => ?_) (fun c33 => False.elim (absurd c33 (by decide)))
    refine g_aloadN (pc' := 37) dm5_36 rfl rfl rfl ?_
    refine g_iload (pc' := 39) dm5_37 rfl rfl ?_
    refine g_iload (pc' := 41) dm5_39 rfl rfl ?_
    refine g_invokestatic (pc' := 44) [] [_, _, _] dm5_41 rfl (wl_CollectionDocumentTextToStringPinLaw_14 hw) (ws_CollectionDocumentTextToStringPinLaw_put_lACICrI hw) (wi_CollectionDocumentTextToStringPinLaw hw) (wb_CollectionDocumentTextToStringPinLaw_put_lACICrI hw) (by decide) (Pay.of_met (met_pt hw (ds := ((ds ++ [u0]) ++ [u1])) (c := u2) (by simp only [List.length_append, List.length_cons, List.length_nil] <;> omega) he k2 A26) (wb_CollectionDocumentTextToStringPinLaw_put_lACICrI hw) (wi_CollectionDocumentTextToStringPinLaw hw) rfl rfl) pd_lACICrI rfl rfl rfl rfl rfl (fun _ q => nomatch q) fun v41 h41 q41 l41 => ?_
    obtain ⟨rfl, K41, A41⟩ := q41
    refine g_istore (pc' := 46) (Ls' := #[_, _, _, _, _, _, _]) dm5_44 rfl rfl ?_
    refine g_iload (pc' := 48) dm5_46 rfl rfl ?_
    have ed : (((ds ++ [u0]) ++ [u1]) ++ [u2]) = ds ++ [u0, u1, u2] := by simp
    refine g_ireturn (t := .int) dm5_48 rfl (by simp) rfl rfl rfl (⟨by rw [ed]; rfl, ((((Keep.refl h [e]).trans K11 (fun _ q => Or.inl q)).trans K26 (fun _ q => Or.inl q)).trans K41 (fun _ q => Or.inl q)), by rw [ed] at A41; exact A41⟩)
theorem met_at (hw : ∀ d ∈ tables_1, d.before a0 Z = true) (S : Sta Z Z.heap "java/lang/String" "COMPACT_STRINGS" "Z" (.int z)) (hz : ¬ z = 0) (F : Sta Z Z.heap "jdk/internal/util/Preconditions" "SIOOBE_FORMATTER" "Ljava/util/function/BiFunction;" fm) (rf : fm.isRef = true) {m e : Addr} {k : ClassId} {cs : List Int32} {i : Nat} (T : Str Z h m cs) (hok : ∀ u ∈ cs, OK8 u) (A : FillD Z h e k cs) (hl : cs.length ≤ 16) (hi : i ≤ 12) : MetW [] l yAt method_6_code 4 (some .boolean) (Rm 5 0 0 90) #[.ref m, .ref e, .int (Int32.ofNat cs.length), .int (Int32.ofNat i)] Z a0 EL nw [] h (fun v h' => v = some (.int 1) ∧ h' = h) := by
  refine MetW.of (by first | exact plainFor_of_name (by first | (simp [plainName, overriddenIn]; done) | decide +kernel) | decide +kernel) fun X hX => Go.old fun EZ => ?_
  show Go X _ _ _ _ _ _ _ _ _ _ _ _ _ _ _ _ (mkF X.m 0 #[.val (.ref m), .val (.ref e), .val (.int (Int32.ofNat cs.length)), .val (.int (Int32.ofNat i))] [])
  refine g_iloadN (pc' := 1) dm6_0 rfl rfl ?_
  refine g_iloadN (pc' := 2) dm6_1 rfl rfl ?_
  by_cases q : cs.length ≤ i
  · refine g_icmpge (pc' := 5) (pc2 := 16) dm6_2 rfl (by decide) rfl (fun c2 => False.elim (absurd ((ofNat_lt (by omega) (by omega)).mp c2) (by omega))) (fun c2 => ?_)
    refine g_iconst (pc' := 17) (w := 1) dm6_16 rfl (by decide) ?_
    refine g_goto (pc' := 21) dm6_17 (by decide) rfl ?_
    refine g_ireturn (t := .boolean) dm6_21 rfl (by simp) rfl rfl rfl (⟨rfl, rfl⟩)
  · refine g_icmpge (pc' := 5) (pc2 := 16) dm6_2 rfl (by decide) rfl (fun c2 => ?_) (fun c2 => False.elim (c2 ((ofNat_lt (by omega) (by omega)).mpr (by omega))))
    refine g_aloadN (pc' := 6) dm6_5 rfl rfl rfl ?_
    refine g_iloadN (pc' := 7) dm6_6 rfl rfl ?_
    refine g_invokevirtual (pc' := 10) [] [_] dm6_7 rfl (wl_CollectionDocumentTextToStringPinLaw_20 hw) (wd_String_charAt_lIrC hw) (wv_String_String_charAt_lIrC hw) (wm_String_charAt_lIrC hw) (by decide) (T.exa) (pay_ch (own_ch hw) (wn_String hw) S hz F rf EZ T (fun u q => (hok u q).2) (i := i) (by omega) rfl rfl rfl) pd_lIrC rfl rfl rfl rfl rfl (fun _ q => nomatch q) fun v7 h7 q7 l7 => ?_
    obtain ⟨rfl, e7⟩ := q7
    have e7 := e7.symm
    subst e7
    refine g_aloadN (pc' := 11) dm6_10 rfl rfl rfl ?_
    refine g_iloadN (pc' := 12) dm6_11 rfl rfl ?_
    refine g_caload (pc' := 13) (w := cs.getD i 0) dm6_12 rfl (A) (⟨ofNat_nn (by omega), (ofNat_lt (b := 16) (by omega) (by omega)).mpr (by omega)⟩) (by rw [ofNat_clamp (a := i) (by omega)]; exact fill_get cs i (by omega)) ?_
    refine g_icmpne (pc' := 16) (pc2 := 20) dm6_13 rfl (by decide) rfl (fun c13 => ?_) (fun c13 => False.elim (c13 rfl))
    refine g_iconst (pc' := 17) (w := 1) dm6_16 rfl (by decide) ?_
    refine g_goto (pc' := 21) dm6_17 (by decide) rfl ?_
    refine g_ireturn (t := .boolean) dm6_21 rfl (by simp) rfl rfl rfl (⟨rfl, rfl⟩)
end Help
section Law
variable {l : Launch} {R : Room} {Z : State} {a0 : Array Value} {EL : List (String × Nat)} {nw : Bool} {h : Heap} {W : Nat} {z : Int32} {fm : Value}
theorem law_D {X : Cx} (hX : X.l = l) (hw : ∀ d ∈ tables_1, d.before a0 Z = true) (S : Sta Z Z.heap "java/lang/String" "COMPACT_STRINGS" "Z" (.int z)) (hz : ¬ z = 0) (F : Sta Z Z.heap "jdk/internal/util/Preconditions" "SIOOBE_FORMATTER" "Ljava/util/function/BiFunction;" fm) (rf : fm.isRef = true) (EZ : Ext Z.heap h) {sf : List Addr} {s0 s1 s2 s3 s4 s5 s6 s7 s8 s9 s10 s11 s12 s13 s14 s15 s16 s17 : Slot} {m e : Addr} {k : ClassId} {cs : List Int32} (T' : Str Z h m cs) (hok : ∀ u ∈ cs, OK8 u) (A' : FillD Z h e k cs) (hl : cs.length ≤ 16) :
    Go X room_1 Z a0 consts_1 false x code 21 ret (fun v h' => v = some (.int 1)) 64 3456 sf h 50 1000 (mkF X.m 304 #[s0, s1, s2, s3, s4, s5, s6, s7, s8, s9, s10, s11, s12, s13, s14, s15, s16, s17, .val (.ref m), .val (.ref e), .val (.int (Int32.ofNat cs.length))] []) := by
  refine g_aload (pc' := 306) at_304 rfl rfl rfl ?_
  refine g_invokevirtual (pc' := 309) [] [] at_306 rfl (wl_CollectionDocumentTextToStringPinLaw_52 hw) (wd_String_length_lrI hw) (wv_String_String_length_lrI hw) (wm_String_length_lrI hw) (by decide) (T'.exa) (pay_len (own_len hw) (wn_String hw) S hz EZ T' rfl rfl) pd_lrI rfl rfl rfl rfl rfl (fun _ q => nomatch q) fun v306 h306 q306 l306 => ?_
  obtain ⟨rfl, e306⟩ := q306
  have e306 := e306.symm
  subst e306
  refine g_iload (pc' := 311) at_309 rfl rfl ?_
  refine g_icmpne (pc' := 314) (pc2 := 494) at_311 rfl (by decide) rfl (fun c311 => ?_) (fun c311 => False.elim (c311 rfl))
  refine g_aload (pc' := 316) at_314 rfl rfl rfl ?_
  refine g_aload (pc' := 318) at_316 rfl rfl rfl ?_
  refine g_iload (pc' := 320) at_318 rfl rfl ?_
  refine g_iconst (pc' := 321) (w := 0) at_320 rfl (by decide) ?_
  refine g_invokestatic (pc' := 324) [] [_, _, _, _] at_321 rfl (wl_CollectionDocumentTextToStringPinLaw_56 hw) (ws_CollectionDocumentTextToStringPinLaw_at_lLjavalangStringACIIrZ hw) (wi_CollectionDocumentTextToStringPinLaw hw) (wb_CollectionDocumentTextToStringPinLaw_at_lLjavalangStringACIIrZ hw) (by decide) (Pay.of_met (met_at hw S hz F rf T' hok A' hl (i := 0) (by decide)) (wb_CollectionDocumentTextToStringPinLaw_at_lLjavalangStringACIIrZ hw) (wi_CollectionDocumentTextToStringPinLaw hw) rfl rfl) pd_lLjavalangStringACIIrZ rfl rfl rfl rfl rfl (fun _ q => nomatch q) fun v321 h321 q321 l321 => ?_
  obtain ⟨rfl, e321⟩ := q321
  have e321 := e321.symm
  subst e321
  refine g_ifeq (pc' := 327) (pc2 := 494) at_324 rfl (by decide) rfl (fun c324 => ?_) (fun c324 => False.elim (absurd c324 (by decide)))
  refine g_aload (pc' := 329) at_327 rfl rfl rfl ?_
  refine g_aload (pc' := 331) at_329 rfl rfl rfl ?_
  refine g_iload (pc' := 333) at_331 rfl rfl ?_
  refine g_iconst (pc' := 334) (w := 1) at_333 rfl (by decide) ?_
  refine g_invokestatic (pc' := 337) [] [_, _, _, _] at_334 rfl (wl_CollectionDocumentTextToStringPinLaw_56 hw) (ws_CollectionDocumentTextToStringPinLaw_at_lLjavalangStringACIIrZ hw) (wi_CollectionDocumentTextToStringPinLaw hw) (wb_CollectionDocumentTextToStringPinLaw_at_lLjavalangStringACIIrZ hw) (by decide) (Pay.of_met (met_at hw S hz F rf T' hok A' hl (i := 1) (by decide)) (wb_CollectionDocumentTextToStringPinLaw_at_lLjavalangStringACIIrZ hw) (wi_CollectionDocumentTextToStringPinLaw hw) rfl rfl) pd_lLjavalangStringACIIrZ rfl rfl rfl rfl rfl (fun _ q => nomatch q) fun v334 h334 q334 l334 => ?_
  obtain ⟨rfl, e334⟩ := q334
  have e334 := e334.symm
  subst e334
  refine g_ifeq (pc' := 340) (pc2 := 494) at_337 rfl (by decide) rfl (fun c337 => ?_) (fun c337 => False.elim (absurd c337 (by decide)))
  refine g_aload (pc' := 342) at_340 rfl rfl rfl ?_
  refine g_aload (pc' := 344) at_342 rfl rfl rfl ?_
  refine g_iload (pc' := 346) at_344 rfl rfl ?_
  refine g_iconst (pc' := 347) (w := 2) at_346 rfl (by decide) ?_
  refine g_invokestatic (pc' := 350) [] [_, _, _, _] at_347 rfl (wl_CollectionDocumentTextToStringPinLaw_56 hw) (ws_CollectionDocumentTextToStringPinLaw_at_lLjavalangStringACIIrZ hw) (wi_CollectionDocumentTextToStringPinLaw hw) (wb_CollectionDocumentTextToStringPinLaw_at_lLjavalangStringACIIrZ hw) (by decide) (Pay.of_met (met_at hw S hz F rf T' hok A' hl (i := 2) (by decide)) (wb_CollectionDocumentTextToStringPinLaw_at_lLjavalangStringACIIrZ hw) (wi_CollectionDocumentTextToStringPinLaw hw) rfl rfl) pd_lLjavalangStringACIIrZ rfl rfl rfl rfl rfl (fun _ q => nomatch q) fun v347 h347 q347 l347 => ?_
  obtain ⟨rfl, e347⟩ := q347
  have e347 := e347.symm
  subst e347
  refine g_ifeq (pc' := 353) (pc2 := 494) at_350 rfl (by decide) rfl (fun c350 => ?_) (fun c350 => False.elim (absurd c350 (by decide)))
  refine g_aload (pc' := 355) at_353 rfl rfl rfl ?_
  refine g_aload (pc' := 357) at_355 rfl rfl rfl ?_
  refine g_iload (pc' := 359) at_357 rfl rfl ?_
  refine g_iconst (pc' := 360) (w := 3) at_359 rfl (by decide) ?_
  refine g_invokestatic (pc' := 363) [] [_, _, _, _] at_360 rfl (wl_CollectionDocumentTextToStringPinLaw_56 hw) (ws_CollectionDocumentTextToStringPinLaw_at_lLjavalangStringACIIrZ hw) (wi_CollectionDocumentTextToStringPinLaw hw) (wb_CollectionDocumentTextToStringPinLaw_at_lLjavalangStringACIIrZ hw) (by decide) (Pay.of_met (met_at hw S hz F rf T' hok A' hl (i := 3) (by decide)) (wb_CollectionDocumentTextToStringPinLaw_at_lLjavalangStringACIIrZ hw) (wi_CollectionDocumentTextToStringPinLaw hw) rfl rfl) pd_lLjavalangStringACIIrZ rfl rfl rfl rfl rfl (fun _ q => nomatch q) fun v360 h360 q360 l360 => ?_
  obtain ⟨rfl, e360⟩ := q360
  have e360 := e360.symm
  subst e360
  refine g_ifeq (pc' := 366) (pc2 := 494) at_363 rfl (by decide) rfl (fun c363 => ?_) (fun c363 => False.elim (absurd c363 (by decide)))
  refine g_aload (pc' := 368) at_366 rfl rfl rfl ?_
  refine g_aload (pc' := 370) at_368 rfl rfl rfl ?_
  refine g_iload (pc' := 372) at_370 rfl rfl ?_
  refine g_iconst (pc' := 373) (w := 4) at_372 rfl (by decide) ?_
  refine g_invokestatic (pc' := 376) [] [_, _, _, _] at_373 rfl (wl_CollectionDocumentTextToStringPinLaw_56 hw) (ws_CollectionDocumentTextToStringPinLaw_at_lLjavalangStringACIIrZ hw) (wi_CollectionDocumentTextToStringPinLaw hw) (wb_CollectionDocumentTextToStringPinLaw_at_lLjavalangStringACIIrZ hw) (by decide) (Pay.of_met (met_at hw S hz F rf T' hok A' hl (i := 4) (by decide)) (wb_CollectionDocumentTextToStringPinLaw_at_lLjavalangStringACIIrZ hw) (wi_CollectionDocumentTextToStringPinLaw hw) rfl rfl) pd_lLjavalangStringACIIrZ rfl rfl rfl rfl rfl (fun _ q => nomatch q) fun v373 h373 q373 l373 => ?_
  obtain ⟨rfl, e373⟩ := q373
  have e373 := e373.symm
  subst e373
  refine g_ifeq (pc' := 379) (pc2 := 494) at_376 rfl (by decide) rfl (fun c376 => ?_) (fun c376 => False.elim (absurd c376 (by decide)))
  refine g_aload (pc' := 381) at_379 rfl rfl rfl ?_
  refine g_aload (pc' := 383) at_381 rfl rfl rfl ?_
  refine g_iload (pc' := 385) at_383 rfl rfl ?_
  refine g_iconst (pc' := 386) (w := 5) at_385 rfl (by decide) ?_
  refine g_invokestatic (pc' := 389) [] [_, _, _, _] at_386 rfl (wl_CollectionDocumentTextToStringPinLaw_56 hw) (ws_CollectionDocumentTextToStringPinLaw_at_lLjavalangStringACIIrZ hw) (wi_CollectionDocumentTextToStringPinLaw hw) (wb_CollectionDocumentTextToStringPinLaw_at_lLjavalangStringACIIrZ hw) (by decide) (Pay.of_met (met_at hw S hz F rf T' hok A' hl (i := 5) (by decide)) (wb_CollectionDocumentTextToStringPinLaw_at_lLjavalangStringACIIrZ hw) (wi_CollectionDocumentTextToStringPinLaw hw) rfl rfl) pd_lLjavalangStringACIIrZ rfl rfl rfl rfl rfl (fun _ q => nomatch q) fun v386 h386 q386 l386 => ?_
  obtain ⟨rfl, e386⟩ := q386
  have e386 := e386.symm
  subst e386
  refine g_ifeq (pc' := 392) (pc2 := 494) at_389 rfl (by decide) rfl (fun c389 => ?_) (fun c389 => False.elim (absurd c389 (by decide)))
  refine g_aload (pc' := 394) at_392 rfl rfl rfl ?_
  refine g_aload (pc' := 396) at_394 rfl rfl rfl ?_
  refine g_iload (pc' := 398) at_396 rfl rfl ?_
  refine g_bipush (pc' := 400) (w := 6) at_398 rfl (by decide) ?_
  refine g_invokestatic (pc' := 403) [] [_, _, _, _] at_400 rfl (wl_CollectionDocumentTextToStringPinLaw_56 hw) (ws_CollectionDocumentTextToStringPinLaw_at_lLjavalangStringACIIrZ hw) (wi_CollectionDocumentTextToStringPinLaw hw) (wb_CollectionDocumentTextToStringPinLaw_at_lLjavalangStringACIIrZ hw) (by decide) (Pay.of_met (met_at hw S hz F rf T' hok A' hl (i := 6) (by decide)) (wb_CollectionDocumentTextToStringPinLaw_at_lLjavalangStringACIIrZ hw) (wi_CollectionDocumentTextToStringPinLaw hw) rfl rfl) pd_lLjavalangStringACIIrZ rfl rfl rfl rfl rfl (fun _ q => nomatch q) fun v400 h400 q400 l400 => ?_
  obtain ⟨rfl, e400⟩ := q400
  have e400 := e400.symm
  subst e400
  refine g_ifeq (pc' := 406) (pc2 := 494) at_403 rfl (by decide) rfl (fun c403 => ?_) (fun c403 => False.elim (absurd c403 (by decide)))
  refine g_aload (pc' := 408) at_406 rfl rfl rfl ?_
  refine g_aload (pc' := 410) at_408 rfl rfl rfl ?_
  refine g_iload (pc' := 412) at_410 rfl rfl ?_
  refine g_bipush (pc' := 414) (w := 7) at_412 rfl (by decide) ?_
  refine g_invokestatic (pc' := 417) [] [_, _, _, _] at_414 rfl (wl_CollectionDocumentTextToStringPinLaw_56 hw) (ws_CollectionDocumentTextToStringPinLaw_at_lLjavalangStringACIIrZ hw) (wi_CollectionDocumentTextToStringPinLaw hw) (wb_CollectionDocumentTextToStringPinLaw_at_lLjavalangStringACIIrZ hw) (by decide) (Pay.of_met (met_at hw S hz F rf T' hok A' hl (i := 7) (by decide)) (wb_CollectionDocumentTextToStringPinLaw_at_lLjavalangStringACIIrZ hw) (wi_CollectionDocumentTextToStringPinLaw hw) rfl rfl) pd_lLjavalangStringACIIrZ rfl rfl rfl rfl rfl (fun _ q => nomatch q) fun v414 h414 q414 l414 => ?_
  obtain ⟨rfl, e414⟩ := q414
  have e414 := e414.symm
  subst e414
  refine g_ifeq (pc' := 420) (pc2 := 494) at_417 rfl (by decide) rfl (fun c417 => ?_) (fun c417 => False.elim (absurd c417 (by decide)))
  refine g_aload (pc' := 422) at_420 rfl rfl rfl ?_
  refine g_aload (pc' := 424) at_422 rfl rfl rfl ?_
  refine g_iload (pc' := 426) at_424 rfl rfl ?_
  refine g_bipush (pc' := 428) (w := 8) at_426 rfl (by decide) ?_
  refine g_invokestatic (pc' := 431) [] [_, _, _, _] at_428 rfl (wl_CollectionDocumentTextToStringPinLaw_56 hw) (ws_CollectionDocumentTextToStringPinLaw_at_lLjavalangStringACIIrZ hw) (wi_CollectionDocumentTextToStringPinLaw hw) (wb_CollectionDocumentTextToStringPinLaw_at_lLjavalangStringACIIrZ hw) (by decide) (Pay.of_met (met_at hw S hz F rf T' hok A' hl (i := 8) (by decide)) (wb_CollectionDocumentTextToStringPinLaw_at_lLjavalangStringACIIrZ hw) (wi_CollectionDocumentTextToStringPinLaw hw) rfl rfl) pd_lLjavalangStringACIIrZ rfl rfl rfl rfl rfl (fun _ q => nomatch q) fun v428 h428 q428 l428 => ?_
  obtain ⟨rfl, e428⟩ := q428
  have e428 := e428.symm
  subst e428
  refine g_ifeq (pc' := 434) (pc2 := 494) at_431 rfl (by decide) rfl (fun c431 => ?_) (fun c431 => False.elim (absurd c431 (by decide)))
  refine g_aload (pc' := 436) at_434 rfl rfl rfl ?_
  refine g_aload (pc' := 438) at_436 rfl rfl rfl ?_
  refine g_iload (pc' := 440) at_438 rfl rfl ?_
  refine g_bipush (pc' := 442) (w := 9) at_440 rfl (by decide) ?_
  refine g_invokestatic (pc' := 445) [] [_, _, _, _] at_442 rfl (wl_CollectionDocumentTextToStringPinLaw_56 hw) (ws_CollectionDocumentTextToStringPinLaw_at_lLjavalangStringACIIrZ hw) (wi_CollectionDocumentTextToStringPinLaw hw) (wb_CollectionDocumentTextToStringPinLaw_at_lLjavalangStringACIIrZ hw) (by decide) (Pay.of_met (met_at hw S hz F rf T' hok A' hl (i := 9) (by decide)) (wb_CollectionDocumentTextToStringPinLaw_at_lLjavalangStringACIIrZ hw) (wi_CollectionDocumentTextToStringPinLaw hw) rfl rfl) pd_lLjavalangStringACIIrZ rfl rfl rfl rfl rfl (fun _ q => nomatch q) fun v442 h442 q442 l442 => ?_
  obtain ⟨rfl, e442⟩ := q442
  have e442 := e442.symm
  subst e442
  refine g_ifeq (pc' := 448) (pc2 := 494) at_445 rfl (by decide) rfl (fun c445 => ?_) (fun c445 => False.elim (absurd c445 (by decide)))
  refine g_aload (pc' := 450) at_448 rfl rfl rfl ?_
  refine g_aload (pc' := 452) at_450 rfl rfl rfl ?_
  refine g_iload (pc' := 454) at_452 rfl rfl ?_
  refine g_bipush (pc' := 456) (w := 10) at_454 rfl (by decide) ?_
  refine g_invokestatic (pc' := 459) [] [_, _, _, _] at_456 rfl (wl_CollectionDocumentTextToStringPinLaw_56 hw) (ws_CollectionDocumentTextToStringPinLaw_at_lLjavalangStringACIIrZ hw) (wi_CollectionDocumentTextToStringPinLaw hw) (wb_CollectionDocumentTextToStringPinLaw_at_lLjavalangStringACIIrZ hw) (by decide) (Pay.of_met (met_at hw S hz F rf T' hok A' hl (i := 10) (by decide)) (wb_CollectionDocumentTextToStringPinLaw_at_lLjavalangStringACIIrZ hw) (wi_CollectionDocumentTextToStringPinLaw hw) rfl rfl) pd_lLjavalangStringACIIrZ rfl rfl rfl rfl rfl (fun _ q => nomatch q) fun v456 h456 q456 l456 => ?_
  obtain ⟨rfl, e456⟩ := q456
  have e456 := e456.symm
  subst e456
  refine g_ifeq (pc' := 462) (pc2 := 494) at_459 rfl (by decide) rfl (fun c459 => ?_) (fun c459 => False.elim (absurd c459 (by decide)))
  refine g_aload (pc' := 464) at_462 rfl rfl rfl ?_
  refine g_aload (pc' := 466) at_464 rfl rfl rfl ?_
  refine g_iload (pc' := 468) at_466 rfl rfl ?_
  refine g_bipush (pc' := 470) (w := 11) at_468 rfl (by decide) ?_
  refine g_invokestatic (pc' := 473) [] [_, _, _, _] at_470 rfl (wl_CollectionDocumentTextToStringPinLaw_56 hw) (ws_CollectionDocumentTextToStringPinLaw_at_lLjavalangStringACIIrZ hw) (wi_CollectionDocumentTextToStringPinLaw hw) (wb_CollectionDocumentTextToStringPinLaw_at_lLjavalangStringACIIrZ hw) (by decide) (Pay.of_met (met_at hw S hz F rf T' hok A' hl (i := 11) (by decide)) (wb_CollectionDocumentTextToStringPinLaw_at_lLjavalangStringACIIrZ hw) (wi_CollectionDocumentTextToStringPinLaw hw) rfl rfl) pd_lLjavalangStringACIIrZ rfl rfl rfl rfl rfl (fun _ q => nomatch q) fun v470 h470 q470 l470 => ?_
  obtain ⟨rfl, e470⟩ := q470
  have e470 := e470.symm
  subst e470
  refine g_ifeq (pc' := 476) (pc2 := 494) at_473 rfl (by decide) rfl (fun c473 => ?_) (fun c473 => False.elim (absurd c473 (by decide)))
  refine g_aload (pc' := 478) at_476 rfl rfl rfl ?_
  refine g_aload (pc' := 480) at_478 rfl rfl rfl ?_
  refine g_iload (pc' := 482) at_480 rfl rfl ?_
  refine g_bipush (pc' := 484) (w := 12) at_482 rfl (by decide) ?_
  refine g_invokestatic (pc' := 487) [] [_, _, _, _] at_484 rfl (wl_CollectionDocumentTextToStringPinLaw_56 hw) (ws_CollectionDocumentTextToStringPinLaw_at_lLjavalangStringACIIrZ hw) (wi_CollectionDocumentTextToStringPinLaw hw) (wb_CollectionDocumentTextToStringPinLaw_at_lLjavalangStringACIIrZ hw) (by decide) (Pay.of_met (met_at hw S hz F rf T' hok A' hl (i := 12) (by decide)) (wb_CollectionDocumentTextToStringPinLaw_at_lLjavalangStringACIIrZ hw) (wi_CollectionDocumentTextToStringPinLaw hw) rfl rfl) pd_lLjavalangStringACIIrZ rfl rfl rfl rfl rfl (fun _ q => nomatch q) fun v484 h484 q484 l484 => ?_
  obtain ⟨rfl, e484⟩ := q484
  have e484 := e484.symm
  subst e484
  refine g_ifeq (pc' := 490) (pc2 := 494) at_487 rfl (by decide) rfl (fun c487 => ?_) (fun c487 => False.elim (absurd c487 (by decide)))
  refine g_iconst (pc' := 491) (w := 1) at_490 rfl (by decide) ?_
  refine g_goto (pc' := 495) at_491 (by decide) rfl ?_
  refine g_ireturn (t := .boolean) at_495 rfl (by simp) rfl rfl rfl (rfl)
theorem law_C {X : Cx} (hX : X.l = l) (hw : ∀ d ∈ tables_1, d.before a0 Z = true) (S : Sta Z Z.heap "java/lang/String" "COMPACT_STRINGS" "Z" (.int z)) (hz : ¬ z = 0) (F : Sta Z Z.heap "jdk/internal/util/Preconditions" "SIOOBE_FORMATTER" "Ljava/util/function/BiFunction;" fm) (rf : fm.isRef = true) (EZ : Ext Z.heap h) {sf : List Addr} {s0 s1 s2 s3 s4 s5 s6 s7 s12 s13 s14 s15 s16 s17 : Slot} {m e : Addr} {k : ClassId} {bd : List Int32} {tl : Nat} {t0 t1 t2 : Int32} (k0 : OK8 t0) (k1 : OK8 t1) (k2 : OK8 t2) (htl : tl ≤ 3) (hs : Z.heap.size ≤ e) (T' : Str Z h m ((bd ++ [93]) ++ [58, 32] ++ [t0, t1, t2].take tl)) (hok : ∀ u ∈ (bd ++ [93]) ++ [58, 32] ++ [t0, t1, t2].take tl, OK8 u) (A' : FillD Z h e k bd) (hl : bd.length ≤ 7) (hne : ∀ {h' : Heap}, Keep h h' [e] → Str Z h' m ((bd ++ [93]) ++ [58, 32] ++ [t0, t1, t2].take tl)) :
    Go X room_1 Z a0 consts_1 false x code 21 ret (fun v h' => v = some (.int 1)) 64 3456 sf h 50 1000 (mkF X.m 254 #[s0, s1, s2, s3, s4, s5, s6, s7, .val (.int (Int32.ofNat tl)), .val (.int t0), .val (.int t1), .val (.int t2), s12, s13, s14, s15, s16, s17, .val (.ref m), .val (.ref e), .val (.int (Int32.ofNat bd.length))] []) := by
  have ze := hs
  have ltk : ([t0, t1, t2].take tl).length = tl := by rw [List.length_take]; simp; omega
  refine g_aload (pc' := 256) at_254 rfl rfl rfl ?_
  refine g_iload (pc' := 258) at_256 rfl rfl ?_
  refine g_bipush (pc' := 260) (w := 93) at_258 rfl (by decide) ?_
  refine g_invokestatic (pc' := 263) [] [_, _, _] at_260 rfl (wl_CollectionDocumentTextToStringPinLaw_14 hw) (ws_CollectionDocumentTextToStringPinLaw_put_lACICrI hw) (wi_CollectionDocumentTextToStringPinLaw hw) (wb_CollectionDocumentTextToStringPinLaw_put_lACICrI hw) (by decide) (Pay.of_met (met_pt hw (ds := bd) (c := 93) (by omega) ze (by decide) A') (wb_CollectionDocumentTextToStringPinLaw_put_lACICrI hw) (wi_CollectionDocumentTextToStringPinLaw hw) rfl rfl) pd_lACICrI rfl rfl rfl rfl rfl (fun _ q => nomatch q) fun v260 h260 q260 l260 => ?_
  obtain ⟨rfl, K260, A260⟩ := q260
  refine g_istore (pc' := 265) (Ls' := #[_, _, _, _, _, _, _, _, _, _, _, _, _, _, _, _, _, _, _, _, _]) at_263 rfl rfl ?_
  refine g_aload (pc' := 267) at_265 rfl rfl rfl ?_
  refine g_iload (pc' := 269) at_267 rfl rfl ?_
  refine g_bipush (pc' := 271) (w := 58) at_269 rfl (by decide) ?_
  refine g_invokestatic (pc' := 274) [] [_, _, _] at_271 rfl (wl_CollectionDocumentTextToStringPinLaw_14 hw) (ws_CollectionDocumentTextToStringPinLaw_put_lACICrI hw) (wi_CollectionDocumentTextToStringPinLaw hw) (wb_CollectionDocumentTextToStringPinLaw_put_lACICrI hw) (by decide) (Pay.of_met (met_pt hw (ds := (bd ++ [93])) (c := 58) (by simp only [List.length_append, List.length_cons, List.length_nil] <;> omega) ze (by decide) A260) (wb_CollectionDocumentTextToStringPinLaw_put_lACICrI hw) (wi_CollectionDocumentTextToStringPinLaw hw) rfl rfl) pd_lACICrI rfl rfl rfl rfl rfl (fun _ q => nomatch q) fun v271 h271 q271 l271 => ?_
  obtain ⟨rfl, K271, A271⟩ := q271
  refine g_istore (pc' := 276) (Ls' := #[_, _, _, _, _, _, _, _, _, _, _, _, _, _, _, _, _, _, _, _, _]) at_274 rfl rfl ?_
  refine g_aload (pc' := 278) at_276 rfl rfl rfl ?_
  refine g_iload (pc' := 280) at_278 rfl rfl ?_
  refine g_bipush (pc' := 282) (w := 32) at_280 rfl (by decide) ?_
  refine g_invokestatic (pc' := 285) [] [_, _, _] at_282 rfl (wl_CollectionDocumentTextToStringPinLaw_14 hw) (ws_CollectionDocumentTextToStringPinLaw_put_lACICrI hw) (wi_CollectionDocumentTextToStringPinLaw hw) (wb_CollectionDocumentTextToStringPinLaw_put_lACICrI hw) (by decide) (Pay.of_met (met_pt hw (ds := (bd ++ [93] ++ [58])) (c := 32) (by simp only [List.length_append, List.length_cons, List.length_nil] <;> omega) ze (by decide) A271) (wb_CollectionDocumentTextToStringPinLaw_put_lACICrI hw) (wi_CollectionDocumentTextToStringPinLaw hw) rfl rfl) pd_lACICrI rfl rfl rfl rfl rfl (fun _ q => nomatch q) fun v282 h282 q282 l282 => ?_
  obtain ⟨rfl, K282, A282⟩ := q282
  refine g_istore (pc' := 287) (Ls' := #[_, _, _, _, _, _, _, _, _, _, _, _, _, _, _, _, _, _, _, _, _]) at_285 rfl rfl ?_
  refine g_aload (pc' := 289) at_287 rfl rfl rfl ?_
  refine g_iload (pc' := 291) at_289 rfl rfl ?_
  refine g_iload (pc' := 293) at_291 rfl rfl ?_
  refine g_iload (pc' := 295) at_293 rfl rfl ?_
  refine g_iload (pc' := 297) at_295 rfl rfl ?_
  refine g_iload (pc' := 299) at_297 rfl rfl ?_
  refine g_invokestatic (pc' := 302) [] [_, _, _, _, _, _] at_299 rfl (wl_CollectionDocumentTextToStringPinLaw_48 hw) (ws_CollectionDocumentTextToStringPinLaw_putStr_lACIICCCrI hw) (wi_CollectionDocumentTextToStringPinLaw hw) (wb_CollectionDocumentTextToStringPinLaw_putStr_lACIICCCrI hw) (by decide) (Pay.of_met (met_ps hw (ds := bd ++ [93] ++ [58] ++ [32]) (n := tl) htl k0 k1 k2 (by simp only [List.length_append, List.length_cons, List.length_nil] <;> omega) ze A282) (wb_CollectionDocumentTextToStringPinLaw_putStr_lACIICCCrI hw) (wi_CollectionDocumentTextToStringPinLaw hw) rfl rfl) pd_lACIICCCrI rfl rfl rfl rfl rfl (fun _ q => nomatch q) fun v299 h299 q299 l299 => ?_
  obtain ⟨rfl, K299, A299⟩ := q299
  refine g_istore (pc' := 304) (Ls' := #[_, _, _, _, _, _, _, _, _, _, _, _, _, _, _, _, _, _, _, _, _]) at_302 rfl rfl ?_
  have ed : bd ++ [93] ++ [58] ++ [32] ++ [t0, t1, t2].take tl = (bd ++ [93]) ++ [58, 32] ++ [t0, t1, t2].take tl := by simp
  rw [ed] at A299 ⊢
  have K := ((K260.trans K271 (fun _ q => Or.inl q)).trans K282 (fun _ q => Or.inl q)).trans K299 (fun _ q => Or.inl q)
  exact law_D hX hw S hz F rf (ext_keep EZ K (allS hs all0)) (hne K) hok A299 (by simp only [List.length_append, List.length_cons, List.length_nil, ltk] <;> omega)
theorem law_B {X : Cx} (hX : X.l = l) (hw : ∀ d ∈ tables_1, d.before a0 Z = true) (S : Sta Z Z.heap "java/lang/String" "COMPACT_STRINGS" "Z" (.int z)) (hz : ¬ z = 0) (F : Sta Z Z.heap "jdk/internal/util/Preconditions" "SIOOBE_FORMATTER" "Ljava/util/function/BiFunction;" fm) (rf : fm.isRef = true) {el em mir d : Addr} (I : ICS Z el em) (M : Mir Z mir) (EZ : Ext Z.heap h) {sf : List Addr} {s0 s1 s2 s3 s4 : Slot} {kk lf0 lf1 tl : Nat} {t0 t1 t2 u0 u1 w0 w1 : Int32} (k0 : OK8 t0) (k1 : OK8 t1) (k2 : OK8 t2) (l0 : OK8 u0) (l1 : OK8 u1) (m0 : OK8 w0) (m1 : OK8 w1) (htl : tl ≤ 3) (hf0 : lf0 ≤ 2) (hf1 : lf1 ≤ 2) {x16 a17 t : Addr} {xs : List Addr} {css : List (List Int32)} (hcss : (kk = 0 ∧ css = []) ∨ (kk = 1 ∧ css = [[u0, u1, u1].take lf0]) ∨ (kk = 2 ∧ css = [[u0, u1, u1].take lf0, [w0, w1, w1].take lf1])) (za : Z.heap.size ≤ a17) (B : ALd Z h a17 t d xs) (Sp : Sps Z h xs css) (T16 : Str Z h x16 ([t0, t1, t2].take tl)) :
    Go X room_1 Z a0 consts_1 false x code 21 ret (fun v h' => v = some (.int 1)) 64 3456 sf h 22 100 (mkF X.m 154 #[s0, s1, s2, s3, s4, .val (.int (Int32.ofNat kk)), .val (.int (Int32.ofNat lf0)), .val (.int (Int32.ofNat lf1)), .val (.int (Int32.ofNat tl)), .val (.int t0), .val (.int t1), .val (.int t2), .val (.int u0), .val (.int u1), .val (.int w0), .val (.int w1), .val (.ref x16), .val (.ref a17), .unset, .unset, .unset] []) := by
  have okt : ∀ u ∈ [t0, t1, t2].take tl, OK8 u := fun u q => inS (P := OK8) k0 (inS (P := OK8) k1 (inS (P := OK8) k2 in0)) u (List.mem_of_mem_take q)
  have ltk : ([t0, t1, t2].take tl).length = tl := by rw [List.length_take]; simp; omega
  refine g_new (pc' := 157) at_154 rfl (wc_CollectionDocumentTextToStringPinLaw_39 hw) (wn_CollectionDocumentSText hw) (wi_CollectionDocumentSText hw) rfl rfl fun h154 a154 e154 E154 A154 D154 => ?_
  refine g_dup (pc' := 158) at_157 rfl rfl ?_
  refine g_aload (pc' := 160) at_158 rfl rfl rfl ?_
  refine g_aload (pc' := 162) at_160 rfl rfl rfl ?_
  have zo : Z.heap.size ≤ a154 := by rw [e154]; exact EZ.1
  refine g_invokespecial (pc' := 165) [a154] [_, _] at_162 rfl rfl (wl_CollectionDocumentTextToStringPinLaw_41 hw) (wm_CollectionDocumentSText_init_lLjavalangStringLjavautilListrV hw) (wb_CollectionDocumentSText_init_lLjavalangStringLjavautilListrV hw) (by decide) (Pay.of_met (met_Txi hw I M (ext_trans EZ E154) zo A154 (D154 (Or.inr (wy_CollectionDocumentSText_CollectionDocumentSText_mText hw)) (ty := .object "java/lang/String") (by decide)) (D154 (Or.inr (wy_CollectionDocumentSText_CollectionDocumentSText_mFields hw)) (ty := .object "java/util/List") (by decide)) (B.ext E154) Sp.len (fun u q => (Sp.exa u q).ext E154) za) (wb_CollectionDocumentSText_init_lLjavalangStringLjavautilListrV hw) (wi_CollectionDocumentSText hw) rfl rfl) pd_lLjavalangStringLjavautilListrV rfl rfl rfl rfl rfl (fun _ q => by cases List.mem_singleton.mp q; simp) fun v162 h162 q162 l162 => ?_
  obtain ⟨rfl, K162, E162, F0, b, F1, L⟩ := q162
  have F162 : Ext h h162 := ext_keep E154 K162 (allS (Nat.le_of_eq e154.symm) all0)
  have Z162 := ext_trans EZ F162
  refine g_invokevirtualN (pc' := 168) [] [] at_165 rfl (wl_CollectionDocumentTextToStringPinLaw_44 hw) (wd_CollectionDocumentSText_toString_lrLjavalangString hw) (wv_CollectionDocumentSText_CollectionDocumentSText_toString_lrLjavalangString hw) (wm_CollectionDocumentSText_toString_lrLjavalangString hw) (by decide) (NF.sel (wv_CollectionDocumentSText_CollectionDocumentSText_toString_lrLjavalangString hw)) (E162) (Pay.of_met (met_Txt hw S hz Z162 I F0 F1 L (Sp.ext F162) (T16.ext F162) (by omega) okt) (wb_CollectionDocumentSText_toString_lrLjavalangString hw) (wi_CollectionDocumentSText hw) rfl rfl) pd_lrLjavalangString rfl rfl rfl rfl rfl (fun _ q => nomatch q) fun v165 h165 q165 l165 => ?_
  obtain ⟨m, rfl, E165, T165⟩ := q165
  have Z165 := ext_trans Z162 E165
  have okl : ∀ u ∈ ltx css ++ [58, 32] ++ [t0, t1, t2].take tl, OK8 u := fun u q => by
    rcases List.mem_append.mp q with q | q
    · rcases List.mem_append.mp q with q | q
      · exact ltx_ok Sp u q
      · exact (by decide : ∀ u ∈ ([58, 32] : List Int32), ¬ u < 0 ∧ ¬ (255 : Int32) < u) u q
    · exact okt u q
  refine g_astore (pc' := 170) (Ls' := #[_, _, _, _, _, _, _, _, _, _, _, _, _, _, _, _, _, _, _, _, _]) at_168 rfl rfl rfl ?_
  refine g_bipush (pc' := 172) (w := 16) at_170 rfl (by decide) ?_
  refine g_newarray (pc' := 174) (cap := 16) at_172 rfl (wa_char hw) (by decide) (by decide) rfl rfl rfl fun h172 a172 k172 e172 E172 A172 => ?_
  refine g_astore (pc' := 176) (Ls' := #[_, _, _, _, _, _, _, _, _, _, _, _, _, _, _, _, _, _, _, _, _]) at_174 rfl rfl rfl ?_
  have ze : Z.heap.size ≤ a172 := by rw [e172]; exact Z165.1
  have he : h165.size ≤ a172 := Nat.le_of_eq e172.symm
  have Af : FillD Z h172 a172 k172 [] := A172
  have lk0 : ([u0, u1, u1].take lf0).length = lf0 := by rw [List.length_take]; simp; omega
  have lk1 : ([w0, w1, w1].take lf1).length = lf1 := by rw [List.length_take]; simp; omega
  refine g_aload (pc' := 178) at_176 rfl rfl rfl ?_
  refine g_iconst (pc' := 179) (w := 0) at_178 rfl (by decide) ?_
  refine g_bipush (pc' := 181) (w := 91) at_179 rfl (by decide) ?_
  refine g_invokestatic (pc' := 184) [] [_, _, _] at_181 rfl (wl_CollectionDocumentTextToStringPinLaw_14 hw) (ws_CollectionDocumentTextToStringPinLaw_put_lACICrI hw) (wi_CollectionDocumentTextToStringPinLaw hw) (wb_CollectionDocumentTextToStringPinLaw_put_lACICrI hw) (by decide) (Pay.of_met (met_pt hw (ds := []) (c := 91) (by simp only [List.length_append, List.length_cons, List.length_nil, lk0] <;> omega) ze (by decide) Af) (wb_CollectionDocumentTextToStringPinLaw_put_lACICrI hw) (wi_CollectionDocumentTextToStringPinLaw hw) rfl rfl) pd_lACICrI rfl rfl rfl rfl rfl (fun _ q => nomatch q) fun v181 h181 q181 l181 => ?_
  obtain ⟨rfl, K181, A181⟩ := q181
  have G181 : Ext h165 h181 := ext_keep E172 K181 (allS he all0)
  rw [List.nil_append] at A181
  refine g_istore (pc' := 186) (Ls' := #[_, _, _, _, _, _, _, _, _, _, _, _, _, _, _, _, _, _, _, _, _]) at_184 rfl rfl ?_
  refine g_iload (pc' := 188) at_186 rfl rfl ?_
  refine g_iconst (pc' := 189) (w := 1) at_188 rfl (by decide) ?_
  rcases hcss with ⟨rfl, rfl⟩ | ⟨rfl, rfl⟩ | ⟨rfl, rfl⟩
  · refine g_icmplt (pc' := 192) (pc2 := 209) at_189 rfl (by decide) rfl (fun c189 => False.elim (absurd ((ofNat_lt (a := 0) (b := 1) (by omega) (by omega)).mpr (by omega)) c189)) (fun c189 => ?_)
    refine g_iload (pc' := 211) at_209 rfl rfl ?_
    refine g_iconst (pc' := 212) (w := 2) at_211 rfl (by decide) ?_
    refine g_icmplt (pc' := 215) (pc2 := 254) at_212 rfl (by decide) rfl (fun c212 => False.elim (absurd ((ofNat_lt (a := 0) (b := 2) (by omega) (by omega)).mpr (by omega)) c212)) (fun c212 => ?_)
    exact Go.mono 50 1000 rfl rfl (law_C hX hw S hz F rf (ext_trans Z165 (G181)) (bd := [91]) k0 k1 k2 htl ze (T165.ext (G181)) okl A181 (by simp only [List.length_append, List.length_cons, List.length_nil, lk0, lk1] <;> omega) (fun K => T165.ext (ext_keep (G181) K (allS he all0))))
  · refine g_icmplt (pc' := 192) (pc2 := 209) at_189 rfl (by decide) rfl (fun c189 => ?_) (fun c189 => False.elim (absurd ((ofNat_lt (a := 1) (b := 1) (by omega) (by omega)).mp c189) (by omega)))
    refine g_aload (pc' := 194) at_192 rfl rfl rfl ?_
    refine g_iload (pc' := 196) at_194 rfl rfl ?_
    refine g_iload (pc' := 198) at_196 rfl rfl ?_
    refine g_iload (pc' := 200) at_198 rfl rfl ?_
    refine g_iload (pc' := 202) at_200 rfl rfl ?_
    refine g_iload (pc' := 204) at_202 rfl rfl ?_
    refine g_invokestatic (pc' := 207) [] [_, _, _, _, _, _] at_204 rfl (wl_CollectionDocumentTextToStringPinLaw_48 hw) (ws_CollectionDocumentTextToStringPinLaw_putStr_lACIICCCrI hw) (wi_CollectionDocumentTextToStringPinLaw hw) (wb_CollectionDocumentTextToStringPinLaw_putStr_lACIICCCrI hw) (by decide) (Pay.of_met (met_ps hw (ds := [91]) (n := lf0) (by omega) l0 l1 l1 (by simp only [List.length_append, List.length_cons, List.length_nil, lk0] <;> omega) ze A181) (wb_CollectionDocumentTextToStringPinLaw_putStr_lACIICCCrI hw) (wi_CollectionDocumentTextToStringPinLaw hw) rfl rfl) pd_lACIICCCrI rfl rfl rfl rfl rfl (fun _ q => nomatch q) fun v204 h204 q204 l204 => ?_
    obtain ⟨rfl, K204, A204⟩ := q204
    refine g_istore (pc' := 209) (Ls' := #[_, _, _, _, _, _, _, _, _, _, _, _, _, _, _, _, _, _, _, _, _]) at_207 rfl rfl ?_
    refine g_iload (pc' := 211) at_209 rfl rfl ?_
    refine g_iconst (pc' := 212) (w := 2) at_211 rfl (by decide) ?_
    refine g_icmplt (pc' := 215) (pc2 := 254) at_212 rfl (by decide) rfl (fun c212 => False.elim (absurd ((ofNat_lt (a := 1) (b := 2) (by omega) (by omega)).mpr (by omega)) c212)) (fun c212 => ?_)
    exact Go.mono 50 1000 rfl rfl (law_C hX hw S hz F rf (ext_trans Z165 (ext_keep G181 (K204) (allS he all0))) (bd := [91] ++ [u0, u1, u1].take lf0) k0 k1 k2 htl ze (T165.ext (ext_keep G181 (K204) (allS he all0))) okl A204 (by simp only [List.length_append, List.length_cons, List.length_nil, lk0, lk1] <;> omega) (fun K => T165.ext (ext_keep (ext_keep G181 (K204) (allS he all0)) K (allS he all0))))
  · refine g_icmplt (pc' := 192) (pc2 := 209) at_189 rfl (by decide) rfl (fun c189 => ?_) (fun c189 => False.elim (absurd ((ofNat_lt (a := 2) (b := 1) (by omega) (by omega)).mp c189) (by omega)))
    refine g_aload (pc' := 194) at_192 rfl rfl rfl ?_
    refine g_iload (pc' := 196) at_194 rfl rfl ?_
    refine g_iload (pc' := 198) at_196 rfl rfl ?_
    refine g_iload (pc' := 200) at_198 rfl rfl ?_
    refine g_iload (pc' := 202) at_200 rfl rfl ?_
    refine g_iload (pc' := 204) at_202 rfl rfl ?_
    refine g_invokestatic (pc' := 207) [] [_, _, _, _, _, _] at_204 rfl (wl_CollectionDocumentTextToStringPinLaw_48 hw) (ws_CollectionDocumentTextToStringPinLaw_putStr_lACIICCCrI hw) (wi_CollectionDocumentTextToStringPinLaw hw) (wb_CollectionDocumentTextToStringPinLaw_putStr_lACIICCCrI hw) (by decide) (Pay.of_met (met_ps hw (ds := [91]) (n := lf0) (by omega) l0 l1 l1 (by simp only [List.length_append, List.length_cons, List.length_nil, lk0] <;> omega) ze A181) (wb_CollectionDocumentTextToStringPinLaw_putStr_lACIICCCrI hw) (wi_CollectionDocumentTextToStringPinLaw hw) rfl rfl) pd_lACIICCCrI rfl rfl rfl rfl rfl (fun _ q => nomatch q) fun v204 h204 q204 l204 => ?_
    obtain ⟨rfl, K204, A204⟩ := q204
    refine g_istore (pc' := 209) (Ls' := #[_, _, _, _, _, _, _, _, _, _, _, _, _, _, _, _, _, _, _, _, _]) at_207 rfl rfl ?_
    refine g_iload (pc' := 211) at_209 rfl rfl ?_
    refine g_iconst (pc' := 212) (w := 2) at_211 rfl (by decide) ?_
    refine g_icmplt (pc' := 215) (pc2 := 254) at_212 rfl (by decide) rfl (fun c212 => ?_) (fun c212 => False.elim (absurd ((ofNat_lt (a := 2) (b := 2) (by omega) (by omega)).mp c212) (by omega)))
    refine g_aload (pc' := 217) at_215 rfl rfl rfl ?_
    refine g_iload (pc' := 219) at_217 rfl rfl ?_
    refine g_bipush (pc' := 221) (w := 44) at_219 rfl (by decide) ?_
    refine g_invokestatic (pc' := 224) [] [_, _, _] at_221 rfl (wl_CollectionDocumentTextToStringPinLaw_14 hw) (ws_CollectionDocumentTextToStringPinLaw_put_lACICrI hw) (wi_CollectionDocumentTextToStringPinLaw hw) (wb_CollectionDocumentTextToStringPinLaw_put_lACICrI hw) (by decide) (Pay.of_met (met_pt hw (ds := ([91] ++ [u0, u1, u1].take lf0)) (c := 44) (by simp only [List.length_append, List.length_cons, List.length_nil, lk0] <;> omega) ze (by decide) A204) (wb_CollectionDocumentTextToStringPinLaw_put_lACICrI hw) (wi_CollectionDocumentTextToStringPinLaw hw) rfl rfl) pd_lACICrI rfl rfl rfl rfl rfl (fun _ q => nomatch q) fun v221 h221 q221 l221 => ?_
    obtain ⟨rfl, K221, A221⟩ := q221
    refine g_istore (pc' := 226) (Ls' := #[_, _, _, _, _, _, _, _, _, _, _, _, _, _, _, _, _, _, _, _, _]) at_224 rfl rfl ?_
    refine g_aload (pc' := 228) at_226 rfl rfl rfl ?_
    refine g_iload (pc' := 230) at_228 rfl rfl ?_
    refine g_bipush (pc' := 232) (w := 32) at_230 rfl (by decide) ?_
    refine g_invokestatic (pc' := 235) [] [_, _, _] at_232 rfl (wl_CollectionDocumentTextToStringPinLaw_14 hw) (ws_CollectionDocumentTextToStringPinLaw_put_lACICrI hw) (wi_CollectionDocumentTextToStringPinLaw hw) (wb_CollectionDocumentTextToStringPinLaw_put_lACICrI hw) (by decide) (Pay.of_met (met_pt hw (ds := ([91] ++ [u0, u1, u1].take lf0 ++ [44])) (c := 32) (by simp only [List.length_append, List.length_cons, List.length_nil, lk0] <;> omega) ze (by decide) A221) (wb_CollectionDocumentTextToStringPinLaw_put_lACICrI hw) (wi_CollectionDocumentTextToStringPinLaw hw) rfl rfl) pd_lACICrI rfl rfl rfl rfl rfl (fun _ q => nomatch q) fun v232 h232 q232 l232 => ?_
    obtain ⟨rfl, K232, A232⟩ := q232
    refine g_istore (pc' := 237) (Ls' := #[_, _, _, _, _, _, _, _, _, _, _, _, _, _, _, _, _, _, _, _, _]) at_235 rfl rfl ?_
    refine g_aload (pc' := 239) at_237 rfl rfl rfl ?_
    refine g_iload (pc' := 241) at_239 rfl rfl ?_
    refine g_iload (pc' := 243) at_241 rfl rfl ?_
    refine g_iload (pc' := 245) at_243 rfl rfl ?_
    refine g_iload (pc' := 247) at_245 rfl rfl ?_
    refine g_iload (pc' := 249) at_247 rfl rfl ?_
    refine g_invokestatic (pc' := 252) [] [_, _, _, _, _, _] at_249 rfl (wl_CollectionDocumentTextToStringPinLaw_48 hw) (ws_CollectionDocumentTextToStringPinLaw_putStr_lACIICCCrI hw) (wi_CollectionDocumentTextToStringPinLaw hw) (wb_CollectionDocumentTextToStringPinLaw_putStr_lACIICCCrI hw) (by decide) (Pay.of_met (met_ps hw (ds := ([91] ++ [u0, u1, u1].take lf0 ++ [44] ++ [32])) (n := lf1) (by omega) m0 m1 m1 (by simp only [List.length_append, List.length_cons, List.length_nil, lk0] <;> omega) ze A232) (wb_CollectionDocumentTextToStringPinLaw_putStr_lACIICCCrI hw) (wi_CollectionDocumentTextToStringPinLaw hw) rfl rfl) pd_lACIICCCrI rfl rfl rfl rfl rfl (fun _ q => nomatch q) fun v249 h249 q249 l249 => ?_
    obtain ⟨rfl, K249, A249⟩ := q249
    refine g_istore (pc' := 254) (Ls' := #[_, _, _, _, _, _, _, _, _, _, _, _, _, _, _, _, _, _, _, _, _]) at_252 rfl rfl ?_
    exact Go.mono 50 1000 rfl rfl (law_C hX hw S hz F rf (ext_trans Z165 (ext_keep G181 (((K204.trans K221 (fun _ q => Or.inl q)).trans K232 (fun _ q => Or.inl q)).trans K249 (fun _ q => Or.inl q)) (allS he all0))) (bd := [91] ++ [u0, u1, u1].take lf0 ++ [44] ++ [32] ++ [w0, w1, w1].take lf1) k0 k1 k2 htl ze (T165.ext (ext_keep G181 (((K204.trans K221 (fun _ q => Or.inl q)).trans K232 (fun _ q => Or.inl q)).trans K249 (fun _ q => Or.inl q)) (allS he all0))) okl A249 (by simp only [List.length_append, List.length_cons, List.length_nil, lk0, lk1] <;> omega) (fun K => T165.ext (ext_keep (ext_keep G181 (((K204.trans K221 (fun _ q => Or.inl q)).trans K232 (fun _ q => Or.inl q)).trans K249 (fun _ q => Or.inl q)) (allS he all0)) K (allS he all0))))
theorem mod3 (y : Int32) : ∃ j : Nat, j ≤ 2 ∧ (y &&& 3) % 3 = Int32.ofNat j := and_small (P := fun y => ∃ j : Nat, j ≤ 2 ∧ y % 3 = Int32.ofNat j) 3 (by decide) fun i hi => ⟨i % 3, by omega, mod_ofNat (by omega) (by decide) (by decide)⟩
theorem and3 (y : Int32) : ∃ j : Nat, j ≤ 3 ∧ (y &&& 3) = Int32.ofNat j := and_small (P := fun y => ∃ j : Nat, j ≤ 3 ∧ y = Int32.ofNat j) 3 (by decide) fun i hi => ⟨i, hi, rfl⟩
theorem own_cat2 (a : Int64) : (Value.long a).category = 2 := rfl
theorem own_cat1 (a : Int32) : (Value.int a).category = 1 := rfl
theorem own_atl (as' : Array Value) (m : Nat) : argsToLocals as' m = (as'.foldl (fun acc v => if v.category = 2 then (acc.push (Slot.val v)).push .second else acc.push (.val v)) #[]) ++ Array.replicate (m - (as'.foldl (fun acc v => if v.category = 2 then (acc.push (Slot.val v)).push .second else acc.push (.val v)) #[]).size) .unset := rfl
theorem own_lc3 (a b : Int64) (k : Int32) : argsToLocals #[.long a, .long b, .int k] 21 = #[.val (.long a), .second, .val (.long b), .second, .val (.int k), .unset, .unset, .unset, .unset, .unset, .unset, .unset, .unset, .unset, .unset, .unset, .unset, .unset, .unset, .unset, .unset] := by
  rw [own_atl]
  simp [own_cat2, own_cat1]
theorem own_en3 (m : MethodId) (a b : Int64) (k : Int32) : entryFrame m #[.long a, .long b, .int k] maxLocals = mkF m 0 #[.val (.long a), .second, .val (.long b), .second, .val (.int k), .unset, .unset, .unset, .unset, .unset, .unset, .unset, .unset, .unset, .unset, .unset, .unset, .unset, .unset, .unset, .unset] [] := congrArg (fun L => mkF m 0 L []) (own_lc3 a b k)
theorem met_law (hw : ∀ d ∈ tables_1, d.before a0 Z = true) (S : Sta Z Z.heap "java/lang/String" "COMPACT_STRINGS" "Z" (.int z)) (hz : ¬ z = 0) (F : Sta Z Z.heap "jdk/internal/util/Preconditions" "SIOOBE_FORMATTER" "Ljava/util/function/BiFunction;" fm) (rf : fm.isRef = true) {el em mir d : Addr} (DA : DefA Z d) (I : ICS Z el em) (M : Mir Z mir) (ws : List Jvm.Cond) (p0 p1 : Int64) (p2 : Int32) :
    MetW ws l x code maxLocals ret room_1 #[.long p0, .long p1, .int p2] Z a0 consts_1 false [] h (fun v h' => v = some (.int 1)) := by
  refine MetW.of (by first | exact plainFor_of_name (by first | (simp [plainName, overriddenIn]; done) | decide +kernel) | decide +kernel) fun X hX => Go.old fun EZ => ?_
  rw [own_en3]
  refine g_iload (pc' := 2) at_0 rfl rfl ?_
  refine g_iconst (pc' := 3) (w := 3) at_2 rfl (by decide) ?_
  refine g_iand (pc' := 4) at_3 rfl ?_
  refine g_iconst (pc' := 5) (w := 3) at_4 rfl (by decide) ?_
  refine g_irem (pc' := 6) at_5 rfl (by decide) ?_
  obtain ⟨kk, hkk, ek⟩ := mod3 p2
  rw [ek]
  refine g_istore (pc' := 8) (Ls' := #[_, _, _, _, _, _, _, _, _, _, _, _, _, _, _, _, _, _, _, _, _]) at_6 rfl rfl ?_
  refine g_iload (pc' := 10) at_8 rfl rfl ?_
  refine g_iconst (pc' := 11) (w := 2) at_10 rfl (by decide) ?_
  refine g_iushr (pc' := 12) at_11 rfl ?_
  refine g_iconst (pc' := 13) (w := 3) at_12 rfl (by decide) ?_
  refine g_iand (pc' := 14) at_13 rfl ?_
  refine g_iconst (pc' := 15) (w := 3) at_14 rfl (by decide) ?_
  refine g_irem (pc' := 16) at_15 rfl (by decide) ?_
  obtain ⟨lf0, hf0, ef0⟩ := mod3 (p2.toUInt32 >>> ((2 : Int32) &&& 31).toUInt32).toInt32
  rw [ef0]
  refine g_istore (pc' := 18) (Ls' := #[_, _, _, _, _, _, _, _, _, _, _, _, _, _, _, _, _, _, _, _, _]) at_16 rfl rfl ?_
  refine g_iload (pc' := 20) at_18 rfl rfl ?_
  refine g_iconst (pc' := 21) (w := 4) at_20 rfl (by decide) ?_
  refine g_iushr (pc' := 22) at_21 rfl ?_
  refine g_iconst (pc' := 23) (w := 3) at_22 rfl (by decide) ?_
  refine g_iand (pc' := 24) at_23 rfl ?_
  refine g_iconst (pc' := 25) (w := 3) at_24 rfl (by decide) ?_
  refine g_irem (pc' := 26) at_25 rfl (by decide) ?_
  obtain ⟨lf1, hf1, ef1⟩ := mod3 (p2.toUInt32 >>> ((4 : Int32) &&& 31).toUInt32).toInt32
  rw [ef1]
  refine g_istore (pc' := 28) (Ls' := #[_, _, _, _, _, _, _, _, _, _, _, _, _, _, _, _, _, _, _, _, _]) at_26 rfl rfl ?_
  refine g_iload (pc' := 30) at_28 rfl rfl ?_
  refine g_bipush (pc' := 32) (w := 6) at_30 rfl (by decide) ?_
  refine g_iushr (pc' := 33) at_32 rfl ?_
  refine g_iconst (pc' := 34) (w := 3) at_33 rfl (by decide) ?_
  refine g_iand (pc' := 35) at_34 rfl ?_
  obtain ⟨tl, htl, etl⟩ := and3 (p2.toUInt32 >>> ((6 : Int32) &&& 31).toUInt32).toInt32
  rw [etl]
  refine g_istore (pc' := 37) (Ls' := #[_, _, _, _, _, _, _, _, _, _, _, _, _, _, _, _, _, _, _, _, _]) at_35 rfl rfl ?_
  refine g_lloadN (pc' := 38) at_37 rfl rfl ?_
  refine g_iconst (pc' := 39) (w := 0) at_38 rfl (by decide) ?_
  refine g_invokestatic (pc' := 42) [] [_, _] at_39 rfl (wl_CollectionDocumentTextToStringPinLaw_24 hw) (ws_CollectionDocumentTextToStringPinLaw_ch_lJIrC hw) (wi_CollectionDocumentTextToStringPinLaw hw) (wb_CollectionDocumentTextToStringPinLaw_ch_lJIrC hw) (by decide) (Pay.of_met (met_ch hw) (wb_CollectionDocumentTextToStringPinLaw_ch_lJIrC hw) (wi_CollectionDocumentTextToStringPinLaw hw) rfl rfl) pd_lJIrC rfl rfl rfl rfl rfl (fun _ q => nomatch q) fun v39 h39 q39 l39 => ?_
  obtain ⟨⟨t0, rfl, k0⟩, e39⟩ := q39
  have e39 := e39.symm
  subst e39
  refine g_istore (pc' := 44) (Ls' := #[_, _, _, _, _, _, _, _, _, _, _, _, _, _, _, _, _, _, _, _, _]) at_42 rfl rfl ?_
  refine g_lloadN (pc' := 45) at_44 rfl rfl ?_
  refine g_iconst (pc' := 46) (w := 1) at_45 rfl (by decide) ?_
  refine g_invokestatic (pc' := 49) [] [_, _] at_46 rfl (wl_CollectionDocumentTextToStringPinLaw_24 hw) (ws_CollectionDocumentTextToStringPinLaw_ch_lJIrC hw) (wi_CollectionDocumentTextToStringPinLaw hw) (wb_CollectionDocumentTextToStringPinLaw_ch_lJIrC hw) (by decide) (Pay.of_met (met_ch hw) (wb_CollectionDocumentTextToStringPinLaw_ch_lJIrC hw) (wi_CollectionDocumentTextToStringPinLaw hw) rfl rfl) pd_lJIrC rfl rfl rfl rfl rfl (fun _ q => nomatch q) fun v46 h46 q46 l46 => ?_
  obtain ⟨⟨t1, rfl, k1⟩, e46⟩ := q46
  have e46 := e46.symm
  subst e46
  refine g_istore (pc' := 51) (Ls' := #[_, _, _, _, _, _, _, _, _, _, _, _, _, _, _, _, _, _, _, _, _]) at_49 rfl rfl ?_
  refine g_lloadN (pc' := 52) at_51 rfl rfl ?_
  refine g_iconst (pc' := 53) (w := 2) at_52 rfl (by decide) ?_
  refine g_invokestatic (pc' := 56) [] [_, _] at_53 rfl (wl_CollectionDocumentTextToStringPinLaw_24 hw) (ws_CollectionDocumentTextToStringPinLaw_ch_lJIrC hw) (wi_CollectionDocumentTextToStringPinLaw hw) (wb_CollectionDocumentTextToStringPinLaw_ch_lJIrC hw) (by decide) (Pay.of_met (met_ch hw) (wb_CollectionDocumentTextToStringPinLaw_ch_lJIrC hw) (wi_CollectionDocumentTextToStringPinLaw hw) rfl rfl) pd_lJIrC rfl rfl rfl rfl rfl (fun _ q => nomatch q) fun v53 h53 q53 l53 => ?_
  obtain ⟨⟨t2, rfl, k2⟩, e53⟩ := q53
  have e53 := e53.symm
  subst e53
  refine g_istore (pc' := 58) (Ls' := #[_, _, _, _, _, _, _, _, _, _, _, _, _, _, _, _, _, _, _, _, _]) at_56 rfl rfl ?_
  refine g_lloadN (pc' := 59) at_58 rfl rfl ?_
  refine g_iconst (pc' := 60) (w := 0) at_59 rfl (by decide) ?_
  refine g_invokestatic (pc' := 63) [] [_, _] at_60 rfl (wl_CollectionDocumentTextToStringPinLaw_24 hw) (ws_CollectionDocumentTextToStringPinLaw_ch_lJIrC hw) (wi_CollectionDocumentTextToStringPinLaw hw) (wb_CollectionDocumentTextToStringPinLaw_ch_lJIrC hw) (by decide) (Pay.of_met (met_ch hw) (wb_CollectionDocumentTextToStringPinLaw_ch_lJIrC hw) (wi_CollectionDocumentTextToStringPinLaw hw) rfl rfl) pd_lJIrC rfl rfl rfl rfl rfl (fun _ q => nomatch q) fun v60 h60 q60 l60 => ?_
  obtain ⟨⟨u0, rfl, l0⟩, e60⟩ := q60
  have e60 := e60.symm
  subst e60
  refine g_istore (pc' := 65) (Ls' := #[_, _, _, _, _, _, _, _, _, _, _, _, _, _, _, _, _, _, _, _, _]) at_63 rfl rfl ?_
  refine g_lloadN (pc' := 66) at_65 rfl rfl ?_
  refine g_iconst (pc' := 67) (w := 1) at_66 rfl (by decide) ?_
  refine g_invokestatic (pc' := 70) [] [_, _] at_67 rfl (wl_CollectionDocumentTextToStringPinLaw_24 hw) (ws_CollectionDocumentTextToStringPinLaw_ch_lJIrC hw) (wi_CollectionDocumentTextToStringPinLaw hw) (wb_CollectionDocumentTextToStringPinLaw_ch_lJIrC hw) (by decide) (Pay.of_met (met_ch hw) (wb_CollectionDocumentTextToStringPinLaw_ch_lJIrC hw) (wi_CollectionDocumentTextToStringPinLaw hw) rfl rfl) pd_lJIrC rfl rfl rfl rfl rfl (fun _ q => nomatch q) fun v67 h67 q67 l67 => ?_
  obtain ⟨⟨u1, rfl, l1⟩, e67⟩ := q67
  have e67 := e67.symm
  subst e67
  refine g_istore (pc' := 72) (Ls' := #[_, _, _, _, _, _, _, _, _, _, _, _, _, _, _, _, _, _, _, _, _]) at_70 rfl rfl ?_
  refine g_lloadN (pc' := 73) at_72 rfl rfl ?_
  refine g_iconst (pc' := 74) (w := 2) at_73 rfl (by decide) ?_
  refine g_invokestatic (pc' := 77) [] [_, _] at_74 rfl (wl_CollectionDocumentTextToStringPinLaw_24 hw) (ws_CollectionDocumentTextToStringPinLaw_ch_lJIrC hw) (wi_CollectionDocumentTextToStringPinLaw hw) (wb_CollectionDocumentTextToStringPinLaw_ch_lJIrC hw) (by decide) (Pay.of_met (met_ch hw) (wb_CollectionDocumentTextToStringPinLaw_ch_lJIrC hw) (wi_CollectionDocumentTextToStringPinLaw hw) rfl rfl) pd_lJIrC rfl rfl rfl rfl rfl (fun _ q => nomatch q) fun v74 h74 q74 l74 => ?_
  obtain ⟨⟨w0, rfl, m0⟩, e74⟩ := q74
  have e74 := e74.symm
  subst e74
  refine g_istore (pc' := 79) (Ls' := #[_, _, _, _, _, _, _, _, _, _, _, _, _, _, _, _, _, _, _, _, _]) at_77 rfl rfl ?_
  refine g_lloadN (pc' := 80) at_79 rfl rfl ?_
  refine g_iconst (pc' := 81) (w := 3) at_80 rfl (by decide) ?_
  refine g_invokestatic (pc' := 84) [] [_, _] at_81 rfl (wl_CollectionDocumentTextToStringPinLaw_24 hw) (ws_CollectionDocumentTextToStringPinLaw_ch_lJIrC hw) (wi_CollectionDocumentTextToStringPinLaw hw) (wb_CollectionDocumentTextToStringPinLaw_ch_lJIrC hw) (by decide) (Pay.of_met (met_ch hw) (wb_CollectionDocumentTextToStringPinLaw_ch_lJIrC hw) (wi_CollectionDocumentTextToStringPinLaw hw) rfl rfl) pd_lJIrC rfl rfl rfl rfl rfl (fun _ q => nomatch q) fun v81 h81 q81 l81 => ?_
  obtain ⟨⟨w1, rfl, m1⟩, e81⟩ := q81
  have e81 := e81.symm
  subst e81
  refine g_istore (pc' := 86) (Ls' := #[_, _, _, _, _, _, _, _, _, _, _, _, _, _, _, _, _, _, _, _, _]) at_84 rfl rfl ?_
  refine g_iload (pc' := 88) at_86 rfl rfl ?_
  refine g_iload (pc' := 90) at_88 rfl rfl ?_
  refine g_iload (pc' := 92) at_90 rfl rfl ?_
  refine g_iload (pc' := 94) at_92 rfl rfl ?_
  refine g_invokestatic (pc' := 97) [] [_, _, _, _] at_94 rfl (wl_CollectionDocumentTextToStringPinLaw_28 hw) (ws_CollectionDocumentTextToStringPinLaw_str_lICCCrLjavalangString hw) (wi_CollectionDocumentTextToStringPinLaw hw) (wb_CollectionDocumentTextToStringPinLaw_str_lICCCrLjavalangString hw) (by decide) (Pay.of_met (met_str hw S hz (n := tl) (by omega) k0 k1 k2) (wb_CollectionDocumentTextToStringPinLaw_str_lICCCrLjavalangString hw) (wi_CollectionDocumentTextToStringPinLaw hw) rfl rfl) pd_lICCCrLjavalangString rfl rfl rfl rfl rfl (fun _ q => nomatch q) fun v94 h94 q94 l94 => ?_
  obtain ⟨x16, rfl, -, E94, T94⟩ := q94
  refine g_astore (pc' := 99) (Ls' := #[_, _, _, _, _, _, _, _, _, _, _, _, _, _, _, _, _, _, _, _, _]) at_97 rfl rfl rfl ?_
  refine g_new (pc' := 102) at_99 rfl (wc_CollectionDocumentTextToStringPinLaw_32 hw) (wn_ArrayList hw) (wi_ArrayList hw) rfl rfl fun h99 a99 e99 E99 A99 D99 => ?_
  refine g_dup (pc' := 103) at_102 rfl rfl ?_
  have za : Z.heap.size ≤ a99 := by rw [e99]; exact (ext_trans EZ E94).1
  refine g_invokespecial (pc' := 106) [a99] [] at_103 rfl rfl (wl_CollectionDocumentTextToStringPinLaw_34 hw) (wm_ArrayList_init_lrV hw) (wb_ArrayList_init_lrV hw) (by decide) (Pay.of_met (met_ALi hw DA za A99 (D99 (Or.inl (wy_ArrayList_ArrayList_elementData hw)) (ty := .array (.object "java/lang/Object")) (by decide)) (D99 (Or.inl (wy_ArrayList_ArrayList_size hw)) (ty := .int) (by decide)) (D99 (Or.inl (wy_ArrayList_AbstractList_modCount hw)) (ty := .int) (by decide))) (wb_ArrayList_init_lrV hw) (wi_ArrayList hw) rfl rfl) pd_lrV rfl rfl rfl rfl rfl (fun _ q => by cases List.mem_singleton.mp q; simp) fun v103 h103 q103 l103 => ?_
  obtain ⟨rfl, K103, B103⟩ := q103
  have F103 : Ext h94 h103 := ext_keep E99 K103 (allS (Nat.le_of_eq e99.symm) all0)
  have Z103 := ext_trans (ext_trans EZ E94) F103
  have T103 := T94.ext F103
  refine g_astore (pc' := 108) (Ls' := #[_, _, _, _, _, _, _, _, _, _, _, _, _, _, _, _, _, _, _, _, _]) at_106 rfl rfl rfl ?_
  refine g_iload (pc' := 110) at_108 rfl rfl ?_
  refine g_iconst (pc' := 111) (w := 1) at_110 rfl (by decide) ?_
  match kk, hkk with
  | 0, _ =>
    refine g_icmplt (pc' := 114) (pc2 := 131) at_111 rfl (by decide) rfl (fun c111 => False.elim (absurd ((ofNat_lt (a := 0) (b := 1) (by omega) (by omega)).mpr (by omega)) c111)) (fun c111 => ?_)
    refine g_iload (pc' := 133) at_131 rfl rfl ?_
    refine g_iconst (pc' := 134) (w := 2) at_133 rfl (by decide) ?_
    refine g_icmplt (pc' := 137) (pc2 := 154) at_134 rfl (by decide) rfl (fun c134 => False.elim (absurd ((ofNat_lt (a := 0) (b := 2) (by omega) (by omega)).mpr (by omega)) c134)) (fun c134 => ?_)
    exact Go.mono 22 100 rfl rfl (law_B hX hw S hz F rf I M Z103 k0 k1 k2 l0 l1 m0 m1 htl hf0 hf1 (Or.inl ⟨rfl, rfl⟩) za B103 (Or.inl ⟨rfl, rfl⟩) T103)
  | 1, _ =>
    refine g_icmplt (pc' := 114) (pc2 := 131) at_111 rfl (by decide) rfl (fun c111 => ?_) (fun c111 => False.elim (absurd ((ofNat_lt (b := 1) (by omega) (by omega)).mp c111) (by omega)))
    refine g_aload (pc' := 116) at_114 rfl rfl rfl ?_
    refine g_iload (pc' := 118) at_116 rfl rfl ?_
    refine g_iload (pc' := 120) at_118 rfl rfl ?_
    refine g_iload (pc' := 122) at_120 rfl rfl ?_
    refine g_iload (pc' := 124) at_122 rfl rfl ?_
    refine g_invokestatic (pc' := 127) [] [_, _, _, _] at_124 rfl (wl_CollectionDocumentTextToStringPinLaw_28 hw) (ws_CollectionDocumentTextToStringPinLaw_str_lICCCrLjavalangString hw) (wi_CollectionDocumentTextToStringPinLaw hw) (wb_CollectionDocumentTextToStringPinLaw_str_lICCCrLjavalangString hw) (by decide) (Pay.of_met (met_str hw S hz (n := lf0) (by omega) l0 l1 l1) (wb_CollectionDocumentTextToStringPinLaw_str_lICCCrLjavalangString hw) (wi_CollectionDocumentTextToStringPinLaw hw) rfl rfl) pd_lICCCrLjavalangString rfl rfl rfl rfl rfl (fun _ q => nomatch q) fun v124 h124 q124 l124 => ?_
    obtain ⟨x1, rfl, -, E124, T124⟩ := q124
    refine g_virtualB [a99] (pc' := 130) [a99] [_] at_127 rfl (wl_CollectionDocumentTextToStringPinLaw_35 hw) (wd_ArrayList_add_lLjavalangObjectrZ hw) (wv_ArrayList_ArrayList_add_lLjavalangObjectrZ hw) (wm_ArrayList_add_lLjavalangObjectrZ hw) (by decide) (NF.sel (wv_ArrayList_ArrayList_add_lLjavalangObjectrZ hw)) ((B103.ext E124).1) (Pay.of_met (met_addA hw DA (ext_trans Z103 E124) za (B103.ext E124) (Ins.of_exa T124.exa (wx_String_Object hw))) (wb_ArrayList_add_lLjavalangObjectrZ hw) (wi_ArrayList hw) rfl rfl) (fun _ _ q => q.2.1) (fun _ q => by cases List.mem_singleton.mp q; simp) pd_lLjavalangObjectrZ rfl rfl rfl rfl rfl (fun _ q => by cases List.mem_singleton.mp q; simp) fun v127 h127 q127 l127 => ?_
    obtain ⟨rfl, K127, t, y1, y2, B127⟩ := q127
    refine ⟨[t], fun y hy => by cases List.mem_singleton.mp hy; exact ⟨y1, y2⟩, Go.sub [a99, t] (fun y hy => by simp only [List.mem_cons, List.not_mem_nil, or_false] at hy; rcases hy with rfl | rfl <;> simp) ?_⟩
    have zt : Z.heap.size ≤ t := Nat.le_trans (ext_trans Z103 E124).1 y1
    have Z127 : Ext Z.heap h127 := ext_keep (ext_trans Z103 E124) K127 (allS za all0)
    have T127 : Str Z h127 x1 _ := str_keepW T124 (B103.ext E124).1 (wn_ArrayList hw) (by decide) K127
    have T16 : Str Z h127 x16 _ := str_keepW (T103.ext E124) (B103.ext E124).1 (wn_ArrayList hw) (by decide) K127
    refine g_pop (pc' := 131) at_130 rfl rfl ?_
    refine g_iload (pc' := 133) at_131 rfl rfl ?_
    refine g_iconst (pc' := 134) (w := 2) at_133 rfl (by decide) ?_
    refine g_icmplt (pc' := 137) (pc2 := 154) at_134 rfl (by decide) rfl (fun c134 => False.elim (absurd ((ofNat_lt (a := 1) (b := 2) (by omega) (by omega)).mpr (by omega)) c134)) (fun c134 => ?_)
    exact Go.mono 22 100 rfl rfl (law_B hX hw S hz F rf I M Z127 k0 k1 k2 l0 l1 m0 m1 htl hf0 hf1 (Or.inr (Or.inl ⟨rfl, rfl⟩)) za B127 (Or.inr (Or.inl ⟨x1, _, rfl, rfl, T127, by rw [List.length_take]; omega, (fun u q => (inS (P := OK8) l0 (inS (P := OK8) l1 (inS (P := OK8) l1 in0))) u (List.mem_of_mem_take q))⟩)) T16)
  | 2, _ =>
    refine g_icmplt (pc' := 114) (pc2 := 131) at_111 rfl (by decide) rfl (fun c111 => ?_) (fun c111 => False.elim (absurd ((ofNat_lt (b := 1) (by omega) (by omega)).mp c111) (by omega)))
    refine g_aload (pc' := 116) at_114 rfl rfl rfl ?_
    refine g_iload (pc' := 118) at_116 rfl rfl ?_
    refine g_iload (pc' := 120) at_118 rfl rfl ?_
    refine g_iload (pc' := 122) at_120 rfl rfl ?_
    refine g_iload (pc' := 124) at_122 rfl rfl ?_
    refine g_invokestatic (pc' := 127) [] [_, _, _, _] at_124 rfl (wl_CollectionDocumentTextToStringPinLaw_28 hw) (ws_CollectionDocumentTextToStringPinLaw_str_lICCCrLjavalangString hw) (wi_CollectionDocumentTextToStringPinLaw hw) (wb_CollectionDocumentTextToStringPinLaw_str_lICCCrLjavalangString hw) (by decide) (Pay.of_met (met_str hw S hz (n := lf0) (by omega) l0 l1 l1) (wb_CollectionDocumentTextToStringPinLaw_str_lICCCrLjavalangString hw) (wi_CollectionDocumentTextToStringPinLaw hw) rfl rfl) pd_lICCCrLjavalangString rfl rfl rfl rfl rfl (fun _ q => nomatch q) fun v124 h124 q124 l124 => ?_
    obtain ⟨x1, rfl, -, E124, T124⟩ := q124
    refine g_virtualB [a99] (pc' := 130) [a99] [_] at_127 rfl (wl_CollectionDocumentTextToStringPinLaw_35 hw) (wd_ArrayList_add_lLjavalangObjectrZ hw) (wv_ArrayList_ArrayList_add_lLjavalangObjectrZ hw) (wm_ArrayList_add_lLjavalangObjectrZ hw) (by decide) (NF.sel (wv_ArrayList_ArrayList_add_lLjavalangObjectrZ hw)) ((B103.ext E124).1) (Pay.of_met (met_addA hw DA (ext_trans Z103 E124) za (B103.ext E124) (Ins.of_exa T124.exa (wx_String_Object hw))) (wb_ArrayList_add_lLjavalangObjectrZ hw) (wi_ArrayList hw) rfl rfl) (fun _ _ q => q.2.1) (fun _ q => by cases List.mem_singleton.mp q; simp) pd_lLjavalangObjectrZ rfl rfl rfl rfl rfl (fun _ q => by cases List.mem_singleton.mp q; simp) fun v127 h127 q127 l127 => ?_
    obtain ⟨rfl, K127, t, y1, y2, B127⟩ := q127
    refine ⟨[t], fun y hy => by cases List.mem_singleton.mp hy; exact ⟨y1, y2⟩, Go.sub [a99, t] (fun y hy => by simp only [List.mem_cons, List.not_mem_nil, or_false] at hy; rcases hy with rfl | rfl <;> simp) ?_⟩
    have zt : Z.heap.size ≤ t := Nat.le_trans (ext_trans Z103 E124).1 y1
    have Z127 : Ext Z.heap h127 := ext_keep (ext_trans Z103 E124) K127 (allS za all0)
    have T127 : Str Z h127 x1 _ := str_keepW T124 (B103.ext E124).1 (wn_ArrayList hw) (by decide) K127
    have T16 : Str Z h127 x16 _ := str_keepW (T103.ext E124) (B103.ext E124).1 (wn_ArrayList hw) (by decide) K127
    refine g_pop (pc' := 131) at_130 rfl rfl ?_
    refine g_iload (pc' := 133) at_131 rfl rfl ?_
    refine g_iconst (pc' := 134) (w := 2) at_133 rfl (by decide) ?_
    refine g_icmplt (pc' := 137) (pc2 := 154) at_134 rfl (by decide) rfl (fun c134 => ?_) (fun c134 => False.elim (absurd ((ofNat_lt (b := 2) (by omega) (by omega)).mp c134) (by omega)))
    refine g_aload (pc' := 139) at_137 rfl rfl rfl ?_
    refine g_iload (pc' := 141) at_139 rfl rfl ?_
    refine g_iload (pc' := 143) at_141 rfl rfl ?_
    refine g_iload (pc' := 145) at_143 rfl rfl ?_
    refine g_iload (pc' := 147) at_145 rfl rfl ?_
    refine g_invokestatic (pc' := 150) [] [_, _, _, _] at_147 rfl (wl_CollectionDocumentTextToStringPinLaw_28 hw) (ws_CollectionDocumentTextToStringPinLaw_str_lICCCrLjavalangString hw) (wi_CollectionDocumentTextToStringPinLaw hw) (wb_CollectionDocumentTextToStringPinLaw_str_lICCCrLjavalangString hw) (by decide) (Pay.of_met (met_str hw S hz (n := lf1) (by omega) m0 m1 m1) (wb_CollectionDocumentTextToStringPinLaw_str_lICCCrLjavalangString hw) (wi_CollectionDocumentTextToStringPinLaw hw) rfl rfl) pd_lICCCrLjavalangString rfl rfl rfl rfl rfl (fun _ q => nomatch q) fun v147 h147 q147 l147 => ?_
    obtain ⟨x2, rfl, -, E147, T147⟩ := q147
    refine g_invokevirtualN (pc' := 153) [a99, t] [_] at_150 rfl (wl_CollectionDocumentTextToStringPinLaw_35 hw) (wd_ArrayList_add_lLjavalangObjectrZ hw) (wv_ArrayList_ArrayList_add_lLjavalangObjectrZ hw) (wm_ArrayList_add_lLjavalangObjectrZ hw) (by decide) (NF.sel (wv_ArrayList_ArrayList_add_lLjavalangObjectrZ hw)) ((B127.ext E147).1) (Pay.of_met (met_addB hw za (B127.ext E147) (Ins.of_exa T147.exa (wx_String_Object hw))) (wb_ArrayList_add_lLjavalangObjectrZ hw) (wi_ArrayList hw) rfl rfl) pd_lLjavalangObjectrZ rfl rfl rfl rfl rfl (fun _ q => q) fun v150 h150 q150 l150 => ?_
    obtain ⟨rfl, K150, B150⟩ := q150
    have Z150 : Ext Z.heap h150 := ext_keep (ext_trans Z127 E147) K150 (allS za (allS zt all0))
    have ks : ∀ {u : Addr} {cs : List Int32}, Str Z h147 u cs → Str Z h150 u cs := fun T => str_keep2 T (B127.ext E147).1 (wn_ArrayList hw) (by decide) (wn_String hw) (by obtain ⟨-, -, -, -, q⟩ := B127.ext E147; rcases q with ⟨q, -⟩ | ⟨-, -, -, k, A, -⟩; exact absurd q (by simp); exact ⟨_, _, _, A⟩) K150
    refine g_pop (pc' := 154) at_153 rfl rfl ?_
    exact Go.mono 22 100 rfl rfl (law_B hX hw S hz F rf I M Z150 k0 k1 k2 l0 l1 m0 m1 htl hf0 hf1 (Or.inr (Or.inr ⟨rfl, rfl⟩)) za B150 (Or.inr (Or.inr ⟨x1, x2, _, _, rfl, rfl, ⟨ks (T127.ext E147), by rw [List.length_take]; omega, (fun u q => (inS (P := OK8) l0 (inS (P := OK8) l1 (inS (P := OK8) l1 in0))) u (List.mem_of_mem_take q))⟩, ks T147, by rw [List.length_take]; omega, (fun u q => (inS (P := OK8) m0 (inS (P := OK8) m1 (inS (P := OK8) m1 in0))) u (List.mem_of_mem_take q))⟩)) (ks (T16.ext E147)))
end Law
set_option maxRecDepth 65536 in
set_option maxHeartbeats 40000000 in
theorem comes_1 {Post : Tables → Env → Array Value → State → Outcome → State → Prop} (hpost : ∀ tb e args s v u, (limb_1_1.after args s (.returned v) u = true ∧ limb_1_2.after args s (.returned v) u = true ∧ True) → ReturnedEndW s (.returned v) u (Jvm.fieldLocs frame_1_writes args s ++ Jvm.arrayLocs frame_1_arrays args s ++ Jvm.staticLocs frame_1_statics s) 64 3456 → Post tb e args s (.returned v) u) :
    ArmFor flags0 classFile x code maxLocals ret World_1 tables_1 room_1 Calls_1 rest_1 Pre_1 Post := by
  intro l hfl _ _ p e ha hc hk s m args below hf hA hF happ hP
  obtain ⟨hcalls, hrest, hpre⟩ := hP
  obtain ⟨-, -, -, hnamed, -, -, -, hat⟩ := (Spec.applies_iff hf).mp happ
  obtain ⟨hg, hn⟩ := and_e (Cond.before_iff.mp (show (Jvm.Cond.and given_1 narrow_1).before args s = true from hpre))
  obtain ⟨hcount, hg⟩ := and_e hg
  obtain ⟨g0, hg⟩ := and_e hg
  obtain ⟨g1, hg⟩ := and_e hg
  have g2 := hg
  obtain ⟨w0, w1, w2, rfl⟩ : ∃ w0 w1 w2 : Value, args = #[w0, w1, w2] := by
    have hs : args.size = 3 := by simpa [Cond.value, given_1] using hcount
    obtain ⟨L⟩ := args
    match L, hs with
    | [w0, w1, w2], _ => exact ⟨w0, w1, w2, rfl⟩
  have hw := fun d (hd : d ∈ tables_1) => atoms_spec (ws := Jvm.Cond.code x code maxLocals ret :: tables_1) hat d (List.mem_cons_of_mem _ hd)
  obtain ⟨hsets, hown0⟩ := atoms_of _ (rest_1_c_eq ▸ (show rest_1_c.before _ s = true from hrest))
  have hfit : Fit s := fun {y c} hc i hi => by
    obtain ⟨ha, rfl⟩ := Array.getElem?_eq_some_iff.mp hc
    have q := List.all_eq_true.mp ((Array.all_eq_true_iff_forall_mem.mp hF) _ (Array.getElem_mem ha)) i (List.mem_range.mpr hi)
    simpa [Array.getElem?_eq_getElem hi] using q
  obtain ⟨i0, e0⟩ := isL_v g0
  obtain rfl : w0 = (.long i0) := Option.some.inj e0
  obtain ⟨i1, e1⟩ := isL_v g1
  obtain rfl : w1 = (.long i1) := Option.some.inj e1
  obtain ⟨i2, e2⟩ := is_v g2
  obtain rfl : w2 = (.int i2) := Option.some.inj e2
  have n5 := not_v (Cond.before_iff.mp (hsets _ (List.mem_of_getElem? (i := 18) rfl)))
  obtain ⟨zc, ezc⟩ := is_v (Cond.before_iff.mp (hsets _ (List.mem_of_getElem? (i := 17) rfl)))
  have S12 : Sta s s.heap "java/lang/String" "COMPACT_STRINGS" "Z" (.int zc) := Sta.start ezc (Or.inl (hsets _ (List.mem_of_getElem? (i := 16) rfl)))
  have c17 : ¬ (zc = (0 : Int32)) := gotF (Cond.eq_ints ezc (Term.int_eval (0))) n5
  obtain ⟨vf, evf, rvf⟩ := isR_v (Cond.before_iff.mp (hsets _ (List.mem_of_getElem? (i := 24) rfl)))
  have S16 : Sta s s.heap "jdk/internal/util/Preconditions" "SIOOBE_FORMATTER" "Ljava/util/function/BiFunction;" vf := Sta.start evf (Or.inl (hsets _ (List.mem_of_getElem? (i := 23) rfl)))
  obtain ⟨dd, _, _, _, edd, -⟩ := Cond.exactly_spec (hsets _ (List.mem_of_getElem? (i := 7) rfl))
  have DA : DefA s dd := ⟨Sta.start edd (Or.inr ⟨wi_ArrayList hw, hsets _ (List.mem_of_getElem? (i := 2) rfl)⟩), arr0 hfit (hsets _ (List.mem_of_getElem? (i := 6) rfl)) (hsets _ (List.mem_of_getElem? (i := 8) rfl)) edd⟩
  obtain ⟨el, _, _, _, eel, -⟩ := Cond.exactly_spec (hsets _ (List.mem_of_getElem? (i := 11) rfl))
  obtain ⟨em, _, _, _, eem, -⟩ := Cond.exactly_spec (hsets _ (List.mem_of_getElem? (i := 27) rfl))
  obtain ⟨ee, _, _, _, eee, -⟩ := Cond.exactly_spec (hsets _ (List.mem_of_getElem? (i := 13) rfl))
  obtain ⟨kee, Aee⟩ := arr0 hfit (hsets _ (List.mem_of_getElem? (i := 12) rfl)) (hsets _ (List.mem_of_getElem? (i := 14) rfl)) eee
  have Fee : Fld s s.heap el LNN "elements" OAD (.ref ee) := Fld.start (by first | exact (fld_at eel).symm.trans eee | simpa [Term.eval, eel] using eee)
  have IC : ICS s el em := ⟨Sta.start eel (Or.inl (hsets _ (List.mem_of_getElem? (i := 10) rfl))), Sta.start eem (Or.inl (hsets _ (List.mem_of_getElem? (i := 26) rfl))), Exa.start eel (Cond.before_iff.mp (hsets _ (List.mem_of_getElem? (i := 11) rfl))), Exa.start eem (Cond.before_iff.mp (hsets _ (List.mem_of_getElem? (i := 27) rfl))), ee, kee, Fee, Aee⟩
  obtain ⟨cO, kO, mir, mm1, mm2, mm3, -⟩ := hcalls.1
  have MI : Mir s mir := ⟨cO, kO, mm1, mm2, mm3⟩
  have hheld : ∀ p ∈ consts_1, Jvm.Lit.constHeld s p.1 p.2 := fun p hp => hcalls.2.1 p hp
  have hcw : Jvm.Lit.compactW.before _ s = true := hsets _ (List.mem_of_getElem? (i := 18) rfl)
  have hEL : EW s _ consts_1 := EW.cons (wt_CollectionDocumentSText_43 hw) (by decide) (EW.cons (wt_String_7 hw) (by decide) (EW.cons (wt_AbstractCollection_92 hw) (by decide) (EW.nil)))
  have hCH : CHv s consts_1 s.vm s.heap := CHv.start hEL hheld hcw (wa_byte hw) (wn_String hw)
  obtain ⟨n, o, h1, h2, h3, _, L, rfl, ⟨rfl, N, -⟩, -, -, hq⟩ := met_law (l := l) hw S12 c17 S16 rvf DA IC MI tables_1 i0 i1 i2 p e ha hc hk s m _ below hf ((Spec.applies_iff_loose hf).mp happ).1 ⟨rfl, State.Warmed39.refl s, rfl, hCH, ext_refl _, hEL, fun _ q => nomatch q⟩ trivial
  refine ⟨n, _, h1, h2, h3, hpost _ _ _ _ _ _ ⟨Cond.after_iff.mpr rfl, Cond.after_iff.mpr (eq_i res_at (Term.int_eval (1)) rfl), trivial⟩ ⟨hq.1, hq.2.1, hq.2.2.1, (hq.2.2.2.sift fun y hy => Or.inr (N y hy)).mono (by decide) (by decide)⟩⟩
theorem main_1_1 : Claimed_1_1 := comes_1 fun _ _ _ _ _ _ h hF => ⟨h.1, hF⟩
theorem main_1_2 : Claimed_1_2 := comes_1 fun _ _ _ _ _ _ h hF => ⟨h.2.1, hF⟩
end Jvm.Pilot.@@N@@
namespace Jvm.Pilot.@@N@@
open Jvm Jvm.ClassFile Sem Op Lib Jvm.Free Jvm.Stand Jvm.Pilot.@@N@@.Jvm.D
/-! MADE BY PROGRAM (witnessworld.py) out of the Statement's table words and the real class files: 45 classes; the members and pool entries that the words name. The judged class is class 1, her method 6. -/
namespace start1
open Jvm.ClassFile
def u (s : String) : CpInfo := .utf8 (stringToUtf16 s)
/-- a pool by its gaps: so many unusable entries, then the entry; so many at the end -/
def gap : Nat → List CpInfo → List CpInfo
  | 0, r => r
  | n + 1, r => .unusable :: gap n r
def poolList (es : List (Nat × CpInfo)) (last : Nat) : List CpInfo := es.foldr (fun e r => gap e.1 (e.2 :: r)) (gap last [])
def pool (es : List (Nat × CpInfo)) (last : Nat) : Array CpInfo := ⟨poolList es last⟩
def fileOf (pool : Array CpInfo) (this : Nat) (attrs : Array Attribute := #[]) (ms : Array MethodInfo := #[]) (fl : Nat := 33) (sup : Nat := 0) (ifs : Array Nat := #[]) (fds : Array FieldInfo := #[]) : ClassFile where
  minorVersion := 0
  majorVersion := 65
  constantPool := pool
  accessFlags := fl
  thisClass := this
  superClass := sup
  interfaces := ifs
  fields := fds
  methods := ms
  attributes := attrs
def plain (name : String) (sup : Option ClassId) : Class where
  name := name
  kind := .ordinary
  loader := none
  accessFlags := 33
  super := sup
  interfaces := #[]
  cf := none
  fields := #[]
  methods := #[]
  instanceTypes := #[]
  staticTypes := #[]
  resolved := #[]
  callSites := []
  init := .initialized
  statics := none
  mirror := none

def pool0 : Array CpInfo := pool [(5, u "<init>"), (0, u "()V"), (1, .class_ 10), (1, u "java/lang/Object"), (0, u "getClass"), (0, u "()Ljava/lang/Class;"), (5, u "()Ljava/lang/String;"), (18, u "toString")] 86

def k0c0 : Code := { maxStack := 0, maxLocals := 1, code := object_method_1_code, exceptionTable := #[], attributes := #[] }
def k0m0 : Method := { name := "<init>", desc := "()V", sig := { parameters := [], returnType := none }, accessFlags := 1, code := some k0c0 }
def k0m1 : Method := { name := "getClass", desc := "()Ljava/lang/Class;", sig := { parameters := [], returnType := some (.object "java/lang/Class") }, accessFlags := 273, code := none }
def k0c2 : Code := { maxStack := 2, maxLocals := 1, code := ⟨#[0xbb, 0x00, 0x01, 0x59, 0xb7, 0x00, 0x03, 0x2a, 0xb6, 0x00, 0x07, 0xb6, 0x00, 0x0d, 0xb6, 0x00, 0x13, 0x12, 0x17, 0xb6, 0x00, 0x13, 0x2a, 0xb6, 0x00, 0x19, 0xb8, 0x00, 0x1d, 0xb6, 0x00, 0x13, 0xb6, 0x00, 0x23, 0xb0]⟩, exceptionTable := #[], attributes := #[] }
def k0m2 : Method := { name := "toString", desc := "()Ljava/lang/String;", sig := { parameters := [], returnType := some (.object "java/lang/String") }, accessFlags := 1, code := some k0c2 }
/-- java/lang/Object -/
def k0 : Class := { plain "java/lang/Object" none with
  accessFlags := 33
  interfaces := #[]
  cf := some (fileOf pool0 8 #[] #[{ accessFlags := 1, nameIndex := 5, descriptorIndex := 6, attributes := #[] }, { accessFlags := 273, nameIndex := 11, descriptorIndex := 12, attributes := #[] }, { accessFlags := 1, nameIndex := 37, descriptorIndex := 18, attributes := #[] }] 33 0 #[] #[])
  fields := #[]
  methods := #[k0m0, k0m1, k0m2]
  instanceTypes := #[]
  staticTypes := #[]
  resolved := Array.replicate 124 none
  statics := none }

def pool1 : Array CpInfo := pool [(2, .class_ 4), (0, .nameAndType 5 6), (0, u "java/lang/Object"), (0, u "<init>"), (0, u "()V"), (0, .long 255), (1, .class_ 10), (0, u "java/lang/String"), (0, .methodref 9 12), (0, .nameAndType 5 13), (0, u "([C)V"), (0, .methodref 15 16), (0, .class_ 17), (0, .nameAndType 18 19), (0, u "com/example/simple_rocchio/simplerocchio/CollectionDocumentTextToStringPinLaw"), (0, u "put"), (0, u "([CIC)I"), (0, .methodref 9 21), (0, .nameAndType 22 23), (0, u "charAt"), (0, u "(I)C"), (0, .methodref 15 25), (0, .nameAndType 26 27), (0, u "ch"), (0, u "(JI)C"), (0, .methodref 15 29), (0, .nameAndType 30 31), (0, u "str"), (0, u "(ICCC)Ljava/lang/String;"), (0, .class_ 33), (0, u "java/util/ArrayList"), (0, .methodref 32 3), (0, .methodref 32 36), (0, .nameAndType 37 38), (0, u "add"), (0, u "(Ljava/lang/Object;)Z"), (0, .class_ 40), (0, u "com/example/simple_rocchio/simplerocchio/CollectionDocument$Text"), (0, .methodref 39 42), (0, .nameAndType 5 43), (0, u "(Ljava/lang/String;Ljava/util/List;)V"), (0, .methodref 39 45), (0, .nameAndType 46 47), (0, u "toString"), (0, u "()Ljava/lang/String;"), (0, .methodref 15 49), (0, .nameAndType 50 51), (0, u "putStr"), (0, u "([CIICCC)I"), (0, .methodref 9 53), (0, .nameAndType 54 55), (0, u "length"), (0, u "()I"), (0, .methodref 15 57), (0, .nameAndType 58 59), (0, u "at"), (0, u "(Ljava/lang/String;[CII)Z"), (3, u "law"), (0, u "(JJI)Z")] 8

def k1m0 : Method := { name := "<init>", desc := "()V", sig := { parameters := [], returnType := none }, accessFlags := 2, code := none }
def k1c1 : Code := { maxStack := 4, maxLocals := 3, code := method_2_code, exceptionTable := #[], attributes := #[] }
def k1m1 : Method := { name := "ch", desc := "(JI)C", sig := { parameters := [.long, .int], returnType := some .char }, accessFlags := 10, code := some k1c1 }
def k1c2 : Code := { maxStack := 6, maxLocals := 4, code := method_3_code, exceptionTable := #[], attributes := #[] }
def k1m2 : Method := { name := "str", desc := "(ICCC)Ljava/lang/String;", sig := { parameters := [.int, .char, .char, .char], returnType := some (.object "java/lang/String") }, accessFlags := 10, code := some k1c2 }
def k1c3 : Code := { maxStack := 3, maxLocals := 3, code := method_4_code, exceptionTable := #[], attributes := #[] }
def k1m3 : Method := { name := "put", desc := "([CIC)I", sig := { parameters := [(.array .char), .int, .char], returnType := some .int }, accessFlags := 10, code := some k1c3 }
def k1c4 : Code := { maxStack := 3, maxLocals := 7, code := method_5_code, exceptionTable := #[], attributes := #[] }
def k1m4 : Method := { name := "putStr", desc := "([CIICCC)I", sig := { parameters := [(.array .char), .int, .int, .char, .char, .char], returnType := some .int }, accessFlags := 10, code := some k1c4 }
def k1c5 : Code := { maxStack := 3, maxLocals := 4, code := method_6_code, exceptionTable := #[], attributes := #[] }
def k1m5 : Method := { name := "at", desc := "(Ljava/lang/String;[CII)Z", sig := { parameters := [(.object "java/lang/String"), (.array .char), .int, .int], returnType := some .boolean }, accessFlags := 10, code := some k1c5 }
def k1c6 : Code := { maxStack := 6, maxLocals := 21, code := code, exceptionTable := #[], attributes := #[] }
def k1m6 : Method := { name := "law", desc := "(JJI)Z", sig := { parameters := [.long, .long, .int], returnType := some .boolean }, accessFlags := 9, code := some k1c6 }
/-- com/example/simple_rocchio/simplerocchio/CollectionDocumentTextToStringPinLaw -/
def k1 : Class := { plain "com/example/simple_rocchio/simplerocchio/CollectionDocumentTextToStringPinLaw" (some 0) with
  accessFlags := 49
  interfaces := #[]
  cf := some (fileOf pool1 15 #[] #[{ accessFlags := 2, nameIndex := 5, descriptorIndex := 6, attributes := #[] }, { accessFlags := 10, nameIndex := 26, descriptorIndex := 27, attributes := #[] }, { accessFlags := 10, nameIndex := 30, descriptorIndex := 31, attributes := #[] }, { accessFlags := 10, nameIndex := 18, descriptorIndex := 19, attributes := #[] }, { accessFlags := 10, nameIndex := 50, descriptorIndex := 51, attributes := #[] }, { accessFlags := 10, nameIndex := 58, descriptorIndex := 59, attributes := #[] }, { accessFlags := 9, nameIndex := 63, descriptorIndex := 64, attributes := #[] }] 49 2 #[] #[])
  fields := #[]
  methods := #[k1m0, k1m1, k1m2, k1m3, k1m4, k1m5, k1m6]
  instanceTypes := #[]
  staticTypes := #[]
  resolved := Array.replicate 73 none
  statics := none }

def pool2 : Array CpInfo := pool [(1, .class_ 2), (0, u "java/io/Serializable"), (0, .class_ 4), (0, u "java/lang/Object")] 2

/-- java/io/Serializable -/
def k2 : Class := { plain "java/io/Serializable" (some 0) with
  accessFlags := 1537
  interfaces := #[]
  cf := some (fileOf pool2 1 #[] #[] 1537 3 #[] #[])
  fields := #[]
  methods := #[]
  instanceTypes := #[]
  staticTypes := #[]
  resolved := Array.replicate 7 none
  statics := none }

def pool3 : Array CpInfo := pool [(1, .class_ 2), (0, u "java/lang/Comparable"), (0, .class_ 4), (0, u "java/lang/Object")] 7

/-- java/lang/Comparable -/
def k3 : Class := { plain "java/lang/Comparable" (some 0) with
  accessFlags := 1537
  interfaces := #[]
  cf := some (fileOf pool3 1 #[] #[] 1537 3 #[] #[])
  fields := #[]
  methods := #[]
  instanceTypes := #[]
  staticTypes := #[]
  resolved := Array.replicate 12 none
  statics := none }

def pool4 : Array CpInfo := pool [(2, .class_ 4), (1, u "java/lang/CharSequence"), (42, .class_ 48), (0, u "java/lang/CharSequence$1CodePointIterator"), (10, .class_ 60), (0, u "java/lang/CharSequence$1CharIterator"), (5, .class_ 67), (0, u "java/lang/Object")] 63

/-- java/lang/CharSequence -/
def k4 : Class := { plain "java/lang/CharSequence" (some 0) with
  accessFlags := 1537
  interfaces := #[]
  cf := some (fileOf pool4 2 #[.nestMembers #[47, 59]] #[] 1537 66 #[] #[])
  fields := #[]
  methods := #[]
  instanceTypes := #[]
  staticTypes := #[]
  resolved := Array.replicate 131 none
  statics := none }

def pool5 : Array CpInfo := pool [(1, .class_ 2), (0, u "java/lang/constant/Constable"), (0, .class_ 4), (0, u "java/lang/Object")] 6

/-- java/lang/constant/Constable -/
def k5 : Class := { plain "java/lang/constant/Constable" (some 0) with
  accessFlags := 1537
  interfaces := #[]
  cf := some (fileOf pool5 1 #[] #[] 1537 3 #[] #[])
  fields := #[]
  methods := #[]
  instanceTypes := #[]
  staticTypes := #[]
  resolved := Array.replicate 11 none
  statics := none }

def pool6 : Array CpInfo := pool [(1, .class_ 2), (0, u "java/lang/constant/ConstantDesc"), (0, .class_ 4), (0, u "java/lang/Object")] 32

/-- java/lang/constant/ConstantDesc -/
def k6 : Class := { plain "java/lang/constant/ConstantDesc" (some 0) with
  accessFlags := 1537
  interfaces := #[]
  cf := some (fileOf pool6 1 #[] #[] 1537 3 #[] #[])
  fields := #[]
  methods := #[]
  instanceTypes := #[]
  staticTypes := #[]
  resolved := Array.replicate 37 none
  statics := none }

def pool7 : Array CpInfo := pool [(1, .methodref 2 3), (0, .class_ 4), (0, .nameAndType 5 6), (0, u "java/lang/Object"), (0, u "<init>"), (0, u "()V"), (0, .string 8), (0, u ""), (0, .fieldref 10 11), (0, .class_ 12), (0, .nameAndType 13 14), (0, u "java/lang/String"), (0, u "value"), (0, u "[B"), (0, .fieldref 10 16), (0, .nameAndType 17 18), (0, u "coder"), (0, u "B"), (2, u "hash"), (0, u "I"), (2, u "hashIsZero"), (0, u "Z"), (0, .methodref 10 28), (0, .nameAndType 5 29), (0, u "([CIILjava/lang/Void;)V"), (8, .fieldref 10 39), (0, .nameAndType 40 26), (0, u "COMPACT_STRINGS"), (1, .class_ 44), (1, u "java/lang/StringUTF16"), (0, u "compress"), (1, .methodref 42 48), (0, .nameAndType 49 50), (0, u "coderFromArrayLen"), (0, u "([BI)B"), (3, .methodref 55 56), (0, .class_ 57), (0, .nameAndType 58 59), (0, u "java/util/Arrays"), (0, u "copyOfRange"), (0, u "([BII)[B"), (47, .class_ 109), (1, u "java/lang/StringLatin1"), (32, u "()Z"), (34, .methodref 42 178), (0, .nameAndType 45 179), (0, u "([CII)[B"), (13, .class_ 195), (1, u "java/lang/System"), (16, .methodref 193 213), (0, .nameAndType 214 215), (0, u "arraycopy"), (0, u "(Ljava/lang/Object;ILjava/lang/Object;II)V"), (118, u "()I"), (0, .methodref 10 336), (0, .nameAndType 17 337), (0, u "()B"), (2, u "()[B"), (22, u "([BI)C"), (27, u "(II)V"), (35, u "(I)C"), (34, .nameAndType 463 464), (0, u "toString"), (0, u "()Ljava/lang/String;"), (24, .methodref 10 490), (0, .nameAndType 5 491), (0, u "(Ljava/lang/AbstractStringBuilder;Ljava/lang/Void;)V"), (0, .methodref 10 493), (0, .nameAndType 494 142), (0, u "isLatin1"), (0, .methodref 107 496), (0, .nameAndType 497 363), (0, u "charAt"), (3, u "checkIndex"), (4, .nameAndType 507 334), (0, u "length"), (24, u "getBytes"), (16, .methodref 550 506), (0, .class_ 551), (0, u "java/lang/AbstractStringBuilder"), (0, .methodref 550 553), (0, .nameAndType 554 340), (0, u "getValue"), (20, .class_ 576), (0, u "java/lang/CharSequence"), (22, u "CASE_INSENSITIVE_ORDER"), (0, u "Ljava/util/Comparator;"), (181, u "valueOf"), (25, u "(Ljava/lang/Object;)Ljava/lang/String;"), (12, u "([BIB)V"), (185, .methodref 2 462), (2, u "([C)V"), (36, .methodref 550 493), (5, .fieldref 1054 1055), (0, .class_ 1056), (0, .nameAndType 1057 1058), (0, u "jdk/internal/util/Preconditions"), (0, u "SIOOBE_FORMATTER"), (0, u "Ljava/util/function/BiFunction;"), (0, .methodref 1054 1060), (0, .nameAndType 501 1061), (0, u "(IILjava/util/function/BiFunction;)I"), (39, u "serialPersistentFields"), (0, u "[Ljava/io/ObjectStreamField;"), (0, .class_ 1104), (0, u "java/lang/String$CaseInsensitiveComparator"), (1, .class_ 1107), (0, u "java/io/Serializable"), (0, .class_ 1109), (0, u "java/lang/Comparable"), (0, .class_ 1111), (0, u "java/lang/constant/Constable"), (0, .class_ 1113), (0, u "java/lang/constant/ConstantDesc"), (2, u "serialVersionUID"), (0, u "J"), (3, u "REPL"), (0, u "C"), (2, u "LATIN1"), (1, u "UTF16"), (105, u "(Ljava/lang/StringBuilder;)V")] 217

def k7m0 : Method := { name := "<init>", desc := "()V", sig := { parameters := [], returnType := none }, accessFlags := 1, code := none }
def k7c1 : Code := { maxStack := 5, maxLocals := 2, code := jdk_42_method_3_code, exceptionTable := #[], attributes := #[] }
def k7m1 : Method := { name := "<init>", desc := "([C)V", sig := { parameters := [(.array .char)], returnType := none }, accessFlags := 1, code := some k7c1 }
def k7c2 : Code := { maxStack := 3, maxLocals := 2, code := jdk_42_method_53_code, exceptionTable := #[], attributes := #[] }
def k7m2 : Method := { name := "<init>", desc := "(Ljava/lang/StringBuilder;)V", sig := { parameters := [(.object "java/lang/StringBuilder")], returnType := none }, accessFlags := 1, code := some k7c2 }
def k7c3 : Code := { maxStack := 2, maxLocals := 1, code := jdk_42_method_54_code, exceptionTable := #[], attributes := #[] }
def k7m3 : Method := { name := "length", desc := "()I", sig := { parameters := [], returnType := some .int }, accessFlags := 1, code := some k7c3 }
def k7c4 : Code := { maxStack := 2, maxLocals := 2, code := jdk_42_method_56_code, exceptionTable := #[], attributes := #[] }
def k7m4 : Method := { name := "charAt", desc := "(I)C", sig := { parameters := [.int], returnType := some .char }, accessFlags := 1, code := some k7c4 }
def k7c5 : Code := { maxStack := 1, maxLocals := 1, code := jdk_42_method_126_code, exceptionTable := #[], attributes := #[] }
def k7m5 : Method := { name := "toString", desc := "()Ljava/lang/String;", sig := { parameters := [], returnType := some (.object "java/lang/String") }, accessFlags := 1, code := some k7c5 }
def k7c6 : Code := { maxStack := 1, maxLocals := 1, code := jdk_42_method_133_code, exceptionTable := #[], attributes := #[] }
def k7m6 : Method := { name := "valueOf", desc := "(Ljava/lang/Object;)Ljava/lang/String;", sig := { parameters := [(.object "java/lang/Object")], returnType := some (.object "java/lang/String") }, accessFlags := 9, code := some k7c6 }
def k7c7 : Code := { maxStack := 5, maxLocals := 4, code := jdk_42_method_147_code, exceptionTable := #[], attributes := #[] }
def k7m7 : Method := { name := "getBytes", desc := "([BIB)V", sig := { parameters := [(.array .byte), .int, .byte], returnType := none }, accessFlags := 0, code := some k7c7 }
def k7c8 : Code := { maxStack := 4, maxLocals := 6, code := jdk_42_method_149_code, exceptionTable := #[], attributes := #[] }
def k7m8 : Method := { name := "<init>", desc := "([CIILjava/lang/Void;)V", sig := { parameters := [(.array .char), .int, .int, (.object "java/lang/Void")], returnType := none }, accessFlags := 2, code := some k7c8 }
def k7c9 : Code := { maxStack := 5, maxLocals := 5, code := jdk_42_method_150_code, exceptionTable := #[], attributes := #[] }
def k7m9 : Method := { name := "<init>", desc := "(Ljava/lang/AbstractStringBuilder;Ljava/lang/Void;)V", sig := { parameters := [(.object "java/lang/AbstractStringBuilder"), (.object "java/lang/Void")], returnType := none }, accessFlags := 0, code := some k7c9 }
def k7c10 : Code := { maxStack := 1, maxLocals := 1, code := jdk_42_method_152_code, exceptionTable := #[], attributes := #[] }
def k7m10 : Method := { name := "coder", desc := "()B", sig := { parameters := [], returnType := some .byte }, accessFlags := 0, code := some k7c10 }
def k7c11 : Code := { maxStack := 1, maxLocals := 1, code := jdk_42_method_154_code, exceptionTable := #[], attributes := #[] }
def k7m11 : Method := { name := "isLatin1", desc := "()Z", sig := { parameters := [], returnType := some .boolean }, accessFlags := 0, code := some k7c11 }
def k7c12 : Code := { maxStack := 3, maxLocals := 2, code := jdk_42_method_155_code, exceptionTable := #[], attributes := #[] }
def k7m12 : Method := { name := "checkIndex", desc := "(II)V", sig := { parameters := [.int, .int], returnType := none }, accessFlags := 8, code := some k7c12 }
/-- java/lang/String -/
def k7 : Class := { plain "java/lang/String" (some 0) with
  accessFlags := 49
  interfaces := #[2, 3, 4, 5, 6]
  cf := some (fileOf pool7 10 #[.nestMembers #[1103]] #[{ accessFlags := 1, nameIndex := 5, descriptorIndex := 6, attributes := #[] }, { accessFlags := 1, nameIndex := 5, descriptorIndex := 1010, attributes := #[] }, { accessFlags := 1, nameIndex := 5, descriptorIndex := 1233, attributes := #[] }, { accessFlags := 1, nameIndex := 507, descriptorIndex := 334, attributes := #[] }, { accessFlags := 1, nameIndex := 497, descriptorIndex := 427, attributes := #[] }, { accessFlags := 1, nameIndex := 463, descriptorIndex := 464, attributes := #[] }, { accessFlags := 9, nameIndex := 782, descriptorIndex := 808, attributes := #[] }, { accessFlags := 0, nameIndex := 532, descriptorIndex := 821, attributes := #[] }, { accessFlags := 2, nameIndex := 5, descriptorIndex := 29, attributes := #[] }, { accessFlags := 0, nameIndex := 5, descriptorIndex := 491, attributes := #[] }, { accessFlags := 0, nameIndex := 17, descriptorIndex := 337, attributes := #[] }, { accessFlags := 0, nameIndex := 494, descriptorIndex := 142, attributes := #[] }, { accessFlags := 8, nameIndex := 501, descriptorIndex := 391, attributes := #[] }] 49 2 #[1106, 1108, 575, 1110, 1112] #[{ accessFlags := 18, nameIndex := 13, descriptorIndex := 14, attributes := #[] }, { accessFlags := 18, nameIndex := 17, descriptorIndex := 18, attributes := #[] }, { accessFlags := 2, nameIndex := 21, descriptorIndex := 22, attributes := #[] }, { accessFlags := 2, nameIndex := 25, descriptorIndex := 26, attributes := #[] }, { accessFlags := 26, nameIndex := 1116, descriptorIndex := 1117, attributes := #[] }, { accessFlags := 24, nameIndex := 40, descriptorIndex := 26, attributes := #[] }, { accessFlags := 26, nameIndex := 1101, descriptorIndex := 1102, attributes := #[] }, { accessFlags := 26, nameIndex := 1121, descriptorIndex := 1122, attributes := #[] }, { accessFlags := 25, nameIndex := 599, descriptorIndex := 600, attributes := #[] }, { accessFlags := 24, nameIndex := 1125, descriptorIndex := 18, attributes := #[] }, { accessFlags := 24, nameIndex := 1127, descriptorIndex := 18, attributes := #[] }])
  fields := #[{ name := "value", type := (.array .byte), accessFlags := 18, slot := 0, constantValue := 0 }, { name := "coder", type := .byte, accessFlags := 18, slot := 1, constantValue := 0 }, { name := "hash", type := .int, accessFlags := 2, slot := 2, constantValue := 0 }, { name := "hashIsZero", type := .boolean, accessFlags := 2, slot := 3, constantValue := 0 }, { name := "serialVersionUID", type := .long, accessFlags := 26, slot := 0, constantValue := 0 }, { name := "COMPACT_STRINGS", type := .boolean, accessFlags := 24, slot := 1, constantValue := 0 }, { name := "serialPersistentFields", type := (.array (.object "java/io/ObjectStreamField")), accessFlags := 26, slot := 2, constantValue := 0 }, { name := "REPL", type := .char, accessFlags := 26, slot := 3, constantValue := 0 }, { name := "CASE_INSENSITIVE_ORDER", type := (.object "java/util/Comparator"), accessFlags := 25, slot := 4, constantValue := 0 }, { name := "LATIN1", type := .byte, accessFlags := 24, slot := 5, constantValue := 0 }, { name := "UTF16", type := .byte, accessFlags := 24, slot := 6, constantValue := 0 }]
  methods := #[k7m0, k7m1, k7m2, k7m3, k7m4, k7m5, k7m6, k7m7, k7m8, k7m9, k7m10, k7m11, k7m12]
  instanceTypes := #[(.array .byte), .byte, .int, .boolean]
  staticTypes := #[.long, .boolean, (.array (.object "java/io/ObjectStreamField")), .char, (.object "java/util/Comparator"), .byte, .byte]
  resolved := Array.replicate 1451 none
  statics := some 0 }

def pool8 : Array CpInfo := pool [(8, .class_ 10), (1, u "java/lang/Iterable"), (24, .class_ 36), (0, u "java/lang/Object")] 25

/-- java/lang/Iterable -/
def k8 : Class := { plain "java/lang/Iterable" (some 0) with
  accessFlags := 1537
  interfaces := #[]
  cf := some (fileOf pool8 8 #[] #[] 1537 35 #[] #[])
  fields := #[]
  methods := #[]
  instanceTypes := #[]
  staticTypes := #[]
  resolved := Array.replicate 62 none
  statics := none }

def pool9 : Array CpInfo := pool [(10, .class_ 12), (1, u "java/util/Collection"), (0, u "toArray"), (16, u "()Z"), (29, .class_ 61), (0, u "java/lang/Object"), (0, .class_ 63), (0, u "java/lang/Iterable"), (2, u "isEmpty"), (3, u "()[Ljava/lang/Object;")] 44

def k9m0 : Method := { name := "isEmpty", desc := "()Z", sig := { parameters := [], returnType := some .boolean }, accessFlags := 1025, code := none }
def k9m1 : Method := { name := "toArray", desc := "()[Ljava/lang/Object;", sig := { parameters := [], returnType := some (.array (.object "java/lang/Object")) }, accessFlags := 1025, code := none }
/-- java/util/Collection -/
def k9 : Class := { plain "java/util/Collection" (some 0) with
  accessFlags := 1537
  interfaces := #[8]
  cf := some (fileOf pool9 10 #[] #[{ accessFlags := 1025, nameIndex := 66, descriptorIndex := 30, attributes := #[] }, { accessFlags := 1025, nameIndex := 13, descriptorIndex := 70, attributes := #[] }] 1537 60 #[62] #[])
  fields := #[]
  methods := #[k9m0, k9m1]
  instanceTypes := #[]
  staticTypes := #[]
  resolved := Array.replicate 115 none
  statics := none }

def pool10 : Array CpInfo := pool [(1, .methodref 2 3), (0, .class_ 4), (0, .nameAndType 5 6), (0, u "java/lang/Object"), (0, u "<init>"), (0, u "()V"), (1, .class_ 10), (1, u "java/util/AbstractCollection"), (0, u "size"), (0, u "()I"), (0, .methodref 8 14), (0, .nameAndType 15 16), (0, u "iterator"), (0, u "()Ljava/util/Iterator;"), (0, .interfaceMethodref 18 19), (0, .class_ 20), (0, .nameAndType 21 22), (0, u "java/util/Iterator"), (0, u "hasNext"), (0, u "()Z"), (0, .interfaceMethodref 18 24), (0, .nameAndType 25 26), (0, u "next"), (0, u "()Ljava/lang/Object;"), (50, .class_ 78), (0, u "java/util/Collection"), (13, .string 93), (0, u "[]"), (0, .class_ 95), (0, u "java/lang/StringBuilder"), (0, .methodref 94 3), (0, .methodref 94 98), (0, .nameAndType 99 100), (0, u "append"), (0, u "(C)Ljava/lang/StringBuilder;"), (2, .methodref 94 104), (0, .nameAndType 99 105), (0, u "(Ljava/lang/Object;)Ljava/lang/StringBuilder;"), (0, .methodref 94 107), (0, .nameAndType 108 109), (0, u "toString"), (0, u "()Ljava/lang/String;")] 50

def k10c0 : Code := { maxStack := 1, maxLocals := 1, code := jdk_22_method_1_code, exceptionTable := #[], attributes := #[] }
def k10m0 : Method := { name := "<init>", desc := "()V", sig := { parameters := [], returnType := none }, accessFlags := 4, code := some k10c0 }
def k10m1 : Method := { name := "iterator", desc := "()Ljava/util/Iterator;", sig := { parameters := [], returnType := some (.object "java/util/Iterator") }, accessFlags := 1025, code := none }
def k10m2 : Method := { name := "size", desc := "()I", sig := { parameters := [], returnType := some .int }, accessFlags := 1025, code := none }
def k10c3 : Code := { maxStack := 3, maxLocals := 4, code := jdk_22_method_16_code, exceptionTable := #[], attributes := #[] }
def k10m3 : Method := { name := "toString", desc := "()Ljava/lang/String;", sig := { parameters := [], returnType := some (.object "java/lang/String") }, accessFlags := 1, code := some k10c3 }
/-- java/util/AbstractCollection -/
def k10 : Class := { plain "java/util/AbstractCollection" (some 0) with
  accessFlags := 1057
  interfaces := #[9]
  cf := some (fileOf pool10 8 #[] #[{ accessFlags := 4, nameIndex := 5, descriptorIndex := 6, attributes := #[] }, { accessFlags := 1025, nameIndex := 15, descriptorIndex := 16, attributes := #[] }, { accessFlags := 1025, nameIndex := 11, descriptorIndex := 12, attributes := #[] }, { accessFlags := 1, nameIndex := 108, descriptorIndex := 109, attributes := #[] }] 1057 2 #[77] #[])
  fields := #[]
  methods := #[k10m0, k10m1, k10m2, k10m3]
  instanceTypes := #[]
  staticTypes := #[]
  resolved := Array.replicate 160 none
  statics := none }

def pool11 : Array CpInfo := pool [(8, .class_ 10), (1, u "java/util/SequencedCollection"), (15, .class_ 27), (0, u "java/lang/Object"), (0, .class_ 29), (0, u "java/util/Collection")] 27

/-- java/util/SequencedCollection -/
def k11 : Class := { plain "java/util/SequencedCollection" (some 0) with
  accessFlags := 1537
  interfaces := #[9]
  cf := some (fileOf pool11 8 #[] #[] 1537 26 #[28] #[])
  fields := #[]
  methods := #[]
  instanceTypes := #[]
  staticTypes := #[]
  resolved := Array.replicate 57 none
  statics := none }

def pool12 : Array CpInfo := pool [(8, .class_ 10), (1, u "java/util/List"), (20, u "(Ljava/lang/Object;)V"), (16, u "<init>"), (26, u "get"), (0, u "(I)Ljava/lang/Object;"), (11, u "of"), (1, .fieldref 91 92), (0, .class_ 93), (0, .nameAndType 94 95), (0, u "java/util/ImmutableCollections"), (0, u "EMPTY_LIST"), (0, u "Ljava/util/ImmutableCollections$ListN;"), (0, .class_ 97), (0, u "java/util/ImmutableCollections$List12"), (0, .methodref 96 99), (0, .nameAndType 48 31), (0, .methodref 96 101), (0, .nameAndType 48 102), (0, u "(Ljava/lang/Object;Ljava/lang/Object;)V"), (0, .class_ 104), (0, u "java/lang/Object"), (3, u "([Ljava/lang/Object;)Ljava/util/List;"), (3, .methodref 91 113), (0, .nameAndType 114 115), (0, u "listCopy"), (0, u "(Ljava/util/Collection;)Ljava/util/List;"), (3, u "()Ljava/util/List;"), (0, .class_ 121), (0, u "java/util/SequencedCollection"), (112, u "copyOf")] 16

def k12m0 : Method := { name := "get", desc := "(I)Ljava/lang/Object;", sig := { parameters := [.int], returnType := some (.object "java/lang/Object") }, accessFlags := 1025, code := none }
def k12c1 : Code := { maxStack := 1, maxLocals := 0, code := jdk_40_method_36_code, exceptionTable := #[], attributes := #[] }
def k12m1 : Method := { name := "of", desc := "()Ljava/util/List;", sig := { parameters := [], returnType := some (.object "java/util/List") }, accessFlags := 9, code := some k12c1 }
def k12c2 : Code := { maxStack := 5, maxLocals := 2, code := jdk_40_method_47_code, exceptionTable := #[], attributes := #[] }
def k12m2 : Method := { name := "of", desc := "([Ljava/lang/Object;)Ljava/util/List;", sig := { parameters := [(.array (.object "java/lang/Object"))], returnType := some (.object "java/util/List") }, accessFlags := 137, code := some k12c2 }
def k12c3 : Code := { maxStack := 1, maxLocals := 1, code := jdk_40_method_48_code, exceptionTable := #[], attributes := #[] }
def k12m3 : Method := { name := "copyOf", desc := "(Ljava/util/Collection;)Ljava/util/List;", sig := { parameters := [(.object "java/util/Collection")], returnType := some (.object "java/util/List") }, accessFlags := 9, code := some k12c3 }
/-- java/util/List -/
def k12 : Class := { plain "java/util/List" (some 0) with
  accessFlags := 1537
  interfaces := #[11]
  cf := some (fileOf pool12 8 #[] #[{ accessFlags := 1025, nameIndex := 75, descriptorIndex := 76, attributes := #[] }, { accessFlags := 9, nameIndex := 88, descriptorIndex := 119, attributes := #[] }, { accessFlags := 137, nameIndex := 88, descriptorIndex := 108, attributes := #[] }, { accessFlags := 9, nameIndex := 234, descriptorIndex := 115, attributes := #[] }] 1537 103 #[120] #[])
  fields := #[]
  methods := #[k12m0, k12m1, k12m2, k12m3]
  instanceTypes := #[]
  staticTypes := #[]
  resolved := Array.replicate 251 none
  statics := none }

def pool13 : Array CpInfo := pool [(1, .methodref 2 3), (0, .class_ 4), (0, .nameAndType 5 6), (0, u "java/util/AbstractCollection"), (0, u "<init>"), (0, u "()V"), (0, .fieldref 8 9), (0, .class_ 10), (0, .nameAndType 11 12), (0, u "java/util/AbstractList"), (0, u "modCount"), (0, u "I"), (64, .class_ 78), (0, u "java/util/AbstractList$Itr"), (3, .class_ 83), (0, u "java/util/AbstractList$ListItr"), (9, .class_ 94), (0, u "java/util/AbstractList$RandomAccessSubList"), (3, .class_ 99), (0, u "java/util/AbstractList$SubList"), (33, .class_ 134), (0, u "java/util/List"), (73, .class_ 209), (0, u "java/util/AbstractList$SubList$1"), (0, .class_ 211), (0, u "java/util/AbstractList$RandomAccessSpliterator")] 6

def k13c0 : Code := { maxStack := 2, maxLocals := 1, code := jdk_39_method_1_code, exceptionTable := #[], attributes := #[] }
def k13m0 : Method := { name := "<init>", desc := "()V", sig := { parameters := [], returnType := none }, accessFlags := 4, code := some k13c0 }
/-- java/util/AbstractList -/
def k13 : Class := { plain "java/util/AbstractList" (some 10) with
  accessFlags := 1057
  interfaces := #[12]
  cf := some (fileOf pool13 8 #[.nestMembers #[93, 98, 208, 210, 82, 77]] #[{ accessFlags := 4, nameIndex := 5, descriptorIndex := 6, attributes := #[] }] 1057 2 #[133] #[{ accessFlags := 132, nameIndex := 11, descriptorIndex := 12, attributes := #[] }])
  fields := #[{ name := "modCount", type := .int, accessFlags := 132, slot := 0, constantValue := 0 }]
  methods := #[k13m0]
  instanceTypes := #[.int]
  staticTypes := #[]
  resolved := Array.replicate 218 none
  statics := none }

def pool14 : Array CpInfo := pool [(1, .class_ 2), (0, u "java/util/RandomAccess"), (0, .class_ 4), (0, u "java/lang/Object")] 2

/-- java/util/RandomAccess -/
def k14 : Class := { plain "java/util/RandomAccess" (some 0) with
  accessFlags := 1537
  interfaces := #[]
  cf := some (fileOf pool14 1 #[] #[] 1537 3 #[] #[])
  fields := #[]
  methods := #[]
  instanceTypes := #[]
  staticTypes := #[]
  resolved := Array.replicate 7 none
  statics := none }

def pool15 : Array CpInfo := pool [(1, .class_ 2), (0, u "java/lang/Cloneable"), (0, .class_ 4), (0, u "java/lang/Object")] 2

/-- java/lang/Cloneable -/
def k15 : Class := { plain "java/lang/Cloneable" (some 0) with
  accessFlags := 1537
  interfaces := #[]
  cf := some (fileOf pool15 1 #[] #[] 1537 3 #[] #[])
  fields := #[]
  methods := #[]
  instanceTypes := #[]
  staticTypes := #[]
  resolved := Array.replicate 7 none
  statics := none }

def pool16 : Array CpInfo := pool [(1, .methodref 2 3), (0, .class_ 4), (0, .nameAndType 5 6), (0, u "java/util/AbstractList"), (0, u "<init>"), (0, u "()V"), (0, .class_ 8), (0, u "java/lang/Object"), (0, .fieldref 10 11), (0, .class_ 12), (0, .nameAndType 13 14), (0, u "java/util/ArrayList"), (0, u "elementData"), (0, u "[Ljava/lang/Object;"), (2, u "EMPTY_ELEMENTDATA"), (21, .fieldref 10 40), (0, .nameAndType 41 14), (0, u "DEFAULTCAPACITY_EMPTY_ELEMENTDATA"), (4, u "toArray"), (0, u "()[Ljava/lang/Object;"), (0, .fieldref 10 49), (0, .nameAndType 50 51), (0, u "size"), (0, u "I"), (6, .class_ 60), (1, u "java/util/Arrays"), (0, u "copyOf"), (1, .fieldref 10 64), (0, .nameAndType 65 51), (0, u "modCount"), (0, .methodref 58 67), (0, .nameAndType 61 68), (0, u "([Ljava/lang/Object;I)[Ljava/lang/Object;"), (0, .methodref 10 70), (0, .nameAndType 71 72), (0, u "grow"), (0, u "(I)[Ljava/lang/Object;"), (6, .methodref 80 81), (0, .class_ 82), (0, .nameAndType 83 84), (0, u "java/lang/Math"), (0, u "max"), (0, u "(II)I"), (11, u "(Ljava/lang/Object;)Z"), (32, .methodref 10 130), (0, .nameAndType 71 47), (0, .methodref 10 132), (0, .nameAndType 133 134), (0, u "add"), (0, u "(Ljava/lang/Object;[Ljava/lang/Object;I)V"), (13, .class_ 149), (0, u "java/util/List"), (23, u "()Z"), (88, .class_ 263), (0, u "java/util/ArrayList$ListItr"), (3, .class_ 268), (0, u "java/util/ArrayList$Itr"), (7, .class_ 277), (0, u "java/util/ArrayList$SubList"), (12, .class_ 291), (0, u "java/util/ArrayList$ArrayListSpliterator"), (37, .class_ 330), (0, u "java/util/RandomAccess"), (0, .class_ 332), (0, u "java/lang/Cloneable"), (0, .class_ 334), (0, u "java/io/Serializable"), (0, u "serialVersionUID"), (0, u "J"), (3, u "DEFAULT_CAPACITY"), (22, u "isEmpty"), (136, .class_ 501), (0, u "java/util/ArrayList$SubList$2"), (0, .class_ 503), (0, u "java/util/ArrayList$SubList$1")] 5

def k16c0 : Code := { maxStack := 2, maxLocals := 1, code := jdk_38_method_2_code, exceptionTable := #[], attributes := #[] }
def k16m0 : Method := { name := "<init>", desc := "()V", sig := { parameters := [], returnType := none }, accessFlags := 1, code := some k16c0 }
def k16c1 : Code := { maxStack := 4, maxLocals := 4, code := jdk_38_method_6_code, exceptionTable := #[], attributes := #[] }
def k16m1 : Method := { name := "grow", desc := "(I)[Ljava/lang/Object;", sig := { parameters := [.int], returnType := some (.array (.object "java/lang/Object")) }, accessFlags := 2, code := some k16c1 }
def k16c2 : Code := { maxStack := 3, maxLocals := 1, code := jdk_38_method_7_code, exceptionTable := #[], attributes := #[] }
def k16m2 : Method := { name := "grow", desc := "()[Ljava/lang/Object;", sig := { parameters := [], returnType := some (.array (.object "java/lang/Object")) }, accessFlags := 2, code := some k16c2 }
def k16c3 : Code := { maxStack := 1, maxLocals := 1, code := jdk_38_method_9_code, exceptionTable := #[], attributes := #[] }
def k16m3 : Method := { name := "isEmpty", desc := "()Z", sig := { parameters := [], returnType := some .boolean }, accessFlags := 1, code := some k16c3 }
def k16c4 : Code := { maxStack := 2, maxLocals := 1, code := jdk_38_method_16_code, exceptionTable := #[], attributes := #[] }
def k16m4 : Method := { name := "toArray", desc := "()[Ljava/lang/Object;", sig := { parameters := [], returnType := some (.array (.object "java/lang/Object")) }, accessFlags := 1, code := some k16c4 }
def k16c5 : Code := { maxStack := 3, maxLocals := 4, code := jdk_38_method_24_code, exceptionTable := #[], attributes := #[] }
def k16m5 : Method := { name := "add", desc := "(Ljava/lang/Object;[Ljava/lang/Object;I)V", sig := { parameters := [(.object "java/lang/Object"), (.array (.object "java/lang/Object")), .int], returnType := none }, accessFlags := 2, code := some k16c5 }
def k16c6 : Code := { maxStack := 4, maxLocals := 2, code := jdk_38_method_25_code, exceptionTable := #[], attributes := #[] }
def k16m6 : Method := { name := "add", desc := "(Ljava/lang/Object;)Z", sig := { parameters := [(.object "java/lang/Object")], returnType := some .boolean }, accessFlags := 1, code := some k16c6 }
/-- java/util/ArrayList -/
def k16 : Class := { plain "java/util/ArrayList" (some 13) with
  accessFlags := 33
  interfaces := #[12, 14, 15, 2]
  cf := some (fileOf pool16 10 #[.nestMembers #[290, 276, 500, 502, 262, 267]] #[{ accessFlags := 1, nameIndex := 5, descriptorIndex := 6, attributes := #[] }, { accessFlags := 2, nameIndex := 71, descriptorIndex := 72, attributes := #[] }, { accessFlags := 2, nameIndex := 71, descriptorIndex := 47, attributes := #[] }, { accessFlags := 1, nameIndex := 363, descriptorIndex := 173, attributes := #[] }, { accessFlags := 1, nameIndex := 46, descriptorIndex := 47, attributes := #[] }, { accessFlags := 2, nameIndex := 133, descriptorIndex := 134, attributes := #[] }, { accessFlags := 1, nameIndex := 133, descriptorIndex := 96, attributes := #[] }] 33 2 #[148, 329, 331, 333] #[{ accessFlags := 26, nameIndex := 335, descriptorIndex := 336, attributes := #[] }, { accessFlags := 26, nameIndex := 340, descriptorIndex := 51, attributes := #[] }, { accessFlags := 26, nameIndex := 17, descriptorIndex := 14, attributes := #[] }, { accessFlags := 26, nameIndex := 41, descriptorIndex := 14, attributes := #[] }, { accessFlags := 128, nameIndex := 13, descriptorIndex := 14, attributes := #[] }, { accessFlags := 2, nameIndex := 50, descriptorIndex := 51, attributes := #[] }])
  fields := #[{ name := "serialVersionUID", type := .long, accessFlags := 26, slot := 0, constantValue := 0 }, { name := "DEFAULT_CAPACITY", type := .int, accessFlags := 26, slot := 1, constantValue := 0 }, { name := "EMPTY_ELEMENTDATA", type := (.array (.object "java/lang/Object")), accessFlags := 26, slot := 2, constantValue := 0 }, { name := "DEFAULTCAPACITY_EMPTY_ELEMENTDATA", type := (.array (.object "java/lang/Object")), accessFlags := 26, slot := 3, constantValue := 0 }, { name := "elementData", type := (.array (.object "java/lang/Object")), accessFlags := 128, slot := 1, constantValue := 0 }, { name := "size", type := .int, accessFlags := 2, slot := 2, constantValue := 0 }]
  methods := #[k16m0, k16m1, k16m2, k16m3, k16m4, k16m5, k16m6]
  instanceTypes := #[.int, (.array (.object "java/lang/Object")), .int]
  staticTypes := #[.long, .int, (.array (.object "java/lang/Object")), (.array (.object "java/lang/Object"))]
  resolved := Array.replicate 509 none
  statics := some 1 }

def pool17 : Array CpInfo := pool [(1, .methodref 2 3), (0, .class_ 4), (0, .nameAndType 5 6), (0, u "java/lang/Object"), (0, u "<init>"), (0, u "()V"), (0, .fieldref 8 9), (0, .class_ 10), (0, .nameAndType 11 12), (0, u "com/example/simple_rocchio/simplerocchio/CollectionDocument$Text"), (0, u "mText"), (0, u "Ljava/lang/String;"), (0, .interfaceMethodref 14 15), (0, .class_ 16), (0, .nameAndType 17 18), (0, u "java/util/List"), (0, u "copyOf"), (0, u "(Ljava/util/Collection;)Ljava/util/List;"), (0, .fieldref 8 20), (0, .nameAndType 21 22), (0, u "mFields"), (0, u "Ljava/util/List;"), (13, .class_ 37), (0, u "java/lang/StringBuilder"), (0, .methodref 36 3), (0, .methodref 36 40), (0, .nameAndType 41 42), (0, u "append"), (0, u "(Ljava/lang/Object;)Ljava/lang/StringBuilder;"), (0, .string 44), (0, u ": "), (0, .methodref 36 46), (0, .nameAndType 41 47), (0, u "(Ljava/lang/String;)Ljava/lang/StringBuilder;"), (0, .methodref 36 49), (0, .nameAndType 50 51), (0, u "toString"), (0, u "()Ljava/lang/String;"), (2, u "(Ljava/lang/String;Ljava/util/List;)V"), (13, .class_ 69), (0, u "com/example/simple_rocchio/simplerocchio/CollectionDocument")] 2

def k17c0 : Code := { maxStack := 2, maxLocals := 3, code := prog_3_method_1_code, exceptionTable := #[], attributes := #[] }
def k17m0 : Method := { name := "<init>", desc := "(Ljava/lang/String;Ljava/util/List;)V", sig := { parameters := [(.object "java/lang/String"), (.object "java/util/List")], returnType := none }, accessFlags := 1, code := some k17c0 }
def k17c1 : Code := { maxStack := 2, maxLocals := 1, code := prog_3_method_6_code, exceptionTable := #[], attributes := #[] }
def k17m1 : Method := { name := "toString", desc := "()Ljava/lang/String;", sig := { parameters := [], returnType := some (.object "java/lang/String") }, accessFlags := 1, code := some k17c1 }
/-- com/example/simple_rocchio/simplerocchio/CollectionDocument$Text -/
def k17 : Class := { plain "com/example/simple_rocchio/simplerocchio/CollectionDocument$Text" (some 0) with
  accessFlags := 49
  interfaces := #[]
  cf := some (fileOf pool17 8 #[.nestHost 68] #[{ accessFlags := 1, nameIndex := 5, descriptorIndex := 54, attributes := #[] }, { accessFlags := 1, nameIndex := 50, descriptorIndex := 51, attributes := #[] }] 49 2 #[] #[{ accessFlags := 18, nameIndex := 11, descriptorIndex := 12, attributes := #[] }, { accessFlags := 18, nameIndex := 21, descriptorIndex := 22, attributes := #[] }])
  fields := #[{ name := "mText", type := (.object "java/lang/String"), accessFlags := 18, slot := 0, constantValue := 0 }, { name := "mFields", type := (.object "java/util/List"), accessFlags := 18, slot := 1, constantValue := 0 }]
  methods := #[k17m0, k17m1]
  instanceTypes := #[(.object "java/lang/String"), (.object "java/util/List")]
  staticTypes := #[]
  resolved := Array.replicate 72 none
  statics := none }

def pool18 : Array CpInfo := pool [(2, .class_ 4), (1, u "java/lang/Object"), (0, u "<init>"), (0, u "()V"), (3, .class_ 11), (0, u "java/util/ImmutableCollections$List12"), (0, .class_ 13), (0, u "java/util/ImmutableCollections$ListN"), (3, u "Z"), (0, .class_ 19), (0, u "java/util/List"), (0, .interfaceMethodref 21 22), (0, .class_ 23), (0, .nameAndType 24 25), (0, u "java/util/Collection"), (0, u "isEmpty"), (0, u "()Z"), (0, .interfaceMethodref 18 27), (0, .nameAndType 28 29), (0, u "of"), (0, u "()Ljava/util/List;"), (0, .interfaceMethodref 21 31), (0, .nameAndType 32 33), (0, u "toArray"), (0, u "()[Ljava/lang/Object;"), (0, .interfaceMethodref 18 35), (0, .nameAndType 28 36), (0, u "([Ljava/lang/Object;)Ljava/util/List;"), (10, .class_ 49), (1, u "java/util/ImmutableCollections"), (0, u "$assertionsDisabled"), (5, u "[Ljava/lang/Object;"), (5, u "EMPTY_LIST"), (0, u "Ljava/util/ImmutableCollections$ListN;"), (8, u "EMPTY_LIST_NULLS"), (22, u "SALT32L"), (0, u "J"), (2, u "REVERSE"), (6, u "archivedObjects"), (2, u "EMPTY"), (0, u "Ljava/lang/Object;"), (0, .class_ 112), (0, u "java/util/ImmutableCollections$SetN"), (5, u "EMPTY_SET"), (0, u "Ljava/util/ImmutableCollections$SetN;"), (0, .class_ 121), (0, u "java/util/ImmutableCollections$MapN"), (3, u "EMPTY_MAP"), (0, u "Ljava/util/ImmutableCollections$MapN;"), (4, u "EXPAND_FACTOR"), (0, u "I"), (9, u "listCopy"), (0, u "(Ljava/util/Collection;)Ljava/util/List;"), (25, .class_ 170), (0, u "java/util/ImmutableCollections$MapN$MapNIterator"), (0, .class_ 172), (0, u "java/util/ImmutableCollections$MapN$1"), (0, .class_ 174), (0, u "java/util/ImmutableCollections$Map1"), (0, .class_ 176), (0, u "java/util/ImmutableCollections$AbstractImmutableMap"), (0, .class_ 178), (0, u "java/util/ImmutableCollections$SetN$SetNIterator"), (0, .class_ 180), (0, u "java/util/ImmutableCollections$Set12"), (0, .class_ 182), (0, u "java/util/ImmutableCollections$Set12$1"), (0, .class_ 184), (0, u "java/util/ImmutableCollections$AbstractImmutableSet"), (0, .class_ 186), (0, u "java/util/ImmutableCollections$SubList"), (0, .class_ 188), (0, u "java/util/ImmutableCollections$ListItr"), (0, .class_ 190), (0, u "java/util/ImmutableCollections$AbstractImmutableList"), (0, .class_ 192), (0, u "java/util/ImmutableCollections$AbstractImmutableCollection"), (0, .class_ 194), (0, u "java/util/ImmutableCollections$Access"), (0, .class_ 196), (0, u "java/util/ImmutableCollections$Access$1")] 16

def k18m0 : Method := { name := "<init>", desc := "()V", sig := { parameters := [], returnType := none }, accessFlags := 2, code := none }
def k18c1 : Code := { maxStack := 1, maxLocals := 2, code := jdk_56_method_3_code, exceptionTable := #[], attributes := #[] }
def k18m1 : Method := { name := "listCopy", desc := "(Ljava/util/Collection;)Ljava/util/List;", sig := { parameters := [(.object "java/util/Collection")], returnType := some (.object "java/util/List") }, accessFlags := 8, code := some k18c1 }
/-- java/util/ImmutableCollections -/
def k18 : Class := { plain "java/util/ImmutableCollections" (some 0) with
  accessFlags := 32
  interfaces := #[]
  cf := some (fileOf pool18 47 #[.nestMembers #[120, 169, 171, 173, 175, 111, 177, 179, 181, 183, 12, 10, 185, 187, 189, 191, 193, 195]] #[{ accessFlags := 2, nameIndex := 5, descriptorIndex := 6, attributes := #[] }, { accessFlags := 8, nameIndex := 142, descriptorIndex := 143, attributes := #[] }] 32 2 #[] #[{ accessFlags := 26, nameIndex := 95, descriptorIndex := 96, attributes := #[] }, { accessFlags := 26, nameIndex := 99, descriptorIndex := 17, attributes := #[] }, { accessFlags := 10, nameIndex := 106, descriptorIndex := 56, attributes := #[] }, { accessFlags := 26, nameIndex := 109, descriptorIndex := 110, attributes := #[] }, { accessFlags := 24, nameIndex := 62, descriptorIndex := 63, attributes := #[] }, { accessFlags := 24, nameIndex := 72, descriptorIndex := 63, attributes := #[] }, { accessFlags := 24, nameIndex := 118, descriptorIndex := 119, attributes := #[] }, { accessFlags := 24, nameIndex := 125, descriptorIndex := 126, attributes := #[] }, { accessFlags := 24, nameIndex := 131, descriptorIndex := 132, attributes := #[] }, { accessFlags := 4120, nameIndex := 50, descriptorIndex := 17, attributes := #[] }])
  fields := #[{ name := "SALT32L", type := .long, accessFlags := 26, slot := 0, constantValue := 0 }, { name := "REVERSE", type := .boolean, accessFlags := 26, slot := 1, constantValue := 0 }, { name := "archivedObjects", type := (.array (.object "java/lang/Object")), accessFlags := 10, slot := 2, constantValue := 0 }, { name := "EMPTY", type := (.object "java/lang/Object"), accessFlags := 26, slot := 3, constantValue := 0 }, { name := "EMPTY_LIST", type := (.object "java/util/ImmutableCollections$ListN"), accessFlags := 24, slot := 4, constantValue := 0 }, { name := "EMPTY_LIST_NULLS", type := (.object "java/util/ImmutableCollections$ListN"), accessFlags := 24, slot := 5, constantValue := 0 }, { name := "EMPTY_SET", type := (.object "java/util/ImmutableCollections$SetN"), accessFlags := 24, slot := 6, constantValue := 0 }, { name := "EMPTY_MAP", type := (.object "java/util/ImmutableCollections$MapN"), accessFlags := 24, slot := 7, constantValue := 0 }, { name := "EXPAND_FACTOR", type := .int, accessFlags := 24, slot := 8, constantValue := 0 }, { name := "$assertionsDisabled", type := .boolean, accessFlags := 4120, slot := 9, constantValue := 0 }]
  methods := #[k18m0, k18m1]
  instanceTypes := #[]
  staticTypes := #[.long, .boolean, (.array (.object "java/lang/Object")), (.object "java/lang/Object"), (.object "java/util/ImmutableCollections$ListN"), (.object "java/util/ImmutableCollections$ListN"), (.object "java/util/ImmutableCollections$SetN"), (.object "java/util/ImmutableCollections$MapN"), .int, .boolean]
  resolved := Array.replicate 213 none
  statics := some 2 }

def pool19 : Array CpInfo := pool [(1, .methodref 2 3), (0, .class_ 4), (0, .nameAndType 5 6), (0, u "java/util/AbstractCollection"), (0, u "<init>"), (0, u "()V"), (1, .class_ 10), (1, u "java/util/ImmutableCollections"), (2, .class_ 14), (0, u "java/util/ImmutableCollections$AbstractImmutableCollection")] 41

def k19c0 : Code := { maxStack := 1, maxLocals := 1, code := jdk_47_method_1_code, exceptionTable := #[], attributes := #[] }
def k19m0 : Method := { name := "<init>", desc := "()V", sig := { parameters := [], returnType := none }, accessFlags := 0, code := some k19c0 }
/-- java/util/ImmutableCollections$AbstractImmutableCollection -/
def k19 : Class := { plain "java/util/ImmutableCollections$AbstractImmutableCollection" (some 10) with
  accessFlags := 1056
  interfaces := #[]
  cf := some (fileOf pool19 13 #[.nestHost 8] #[{ accessFlags := 0, nameIndex := 5, descriptorIndex := 6, attributes := #[] }] 1056 2 #[] #[])
  fields := #[]
  methods := #[k19m0]
  instanceTypes := #[]
  staticTypes := #[]
  resolved := Array.replicate 56 none
  statics := none }

def pool20 : Array CpInfo := pool [(1, .methodref 2 3), (0, .class_ 4), (0, .nameAndType 5 6), (0, u "java/util/ImmutableCollections$AbstractImmutableCollection"), (0, u "<init>"), (0, u "()V"), (1, .class_ 10), (1, u "java/util/ImmutableCollections"), (2, .methodref 14 15), (0, .class_ 16), (0, .nameAndType 17 18), (0, u "java/util/ImmutableCollections$AbstractImmutableList"), (0, u "size"), (0, u "()I"), (42, .class_ 62), (0, u "java/util/ImmutableCollections$ListItr"), (0, .methodref 61 64), (0, .nameAndType 5 65), (0, u "(Ljava/util/List;I)V"), (11, .class_ 78), (0, u "java/util/List"), (2, u "iterator"), (0, u "()Ljava/util/Iterator;"), (41, .class_ 125), (0, u "java/util/RandomAccess")] 70

def k20c0 : Code := { maxStack := 1, maxLocals := 1, code := jdk_46_method_1_code, exceptionTable := #[], attributes := #[] }
def k20m0 : Method := { name := "<init>", desc := "()V", sig := { parameters := [], returnType := none }, accessFlags := 0, code := some k20c0 }
def k20c1 : Code := { maxStack := 4, maxLocals := 1, code := jdk_46_method_10_code, exceptionTable := #[], attributes := #[] }
def k20m1 : Method := { name := "iterator", desc := "()Ljava/util/Iterator;", sig := { parameters := [], returnType := some (.object "java/util/Iterator") }, accessFlags := 1, code := some k20c1 }
/-- java/util/ImmutableCollections$AbstractImmutableList -/
def k20 : Class := { plain "java/util/ImmutableCollections$AbstractImmutableList" (some 19) with
  accessFlags := 1056
  interfaces := #[12, 14]
  cf := some (fileOf pool20 14 #[.nestHost 8] #[{ accessFlags := 0, nameIndex := 5, descriptorIndex := 6, attributes := #[] }, { accessFlags := 1, nameIndex := 81, descriptorIndex := 82, attributes := #[] }] 1056 2 #[77, 124] #[])
  fields := #[]
  methods := #[k20m0, k20m1]
  instanceTypes := #[]
  staticTypes := #[]
  resolved := Array.replicate 196 none
  statics := none }

def pool21 : Array CpInfo := pool [(1, .methodref 2 3), (0, .class_ 4), (0, .nameAndType 5 6), (0, u "java/util/ImmutableCollections$AbstractImmutableList"), (0, u "<init>"), (0, u "()V"), (0, .methodref 8 9), (0, .class_ 10), (0, .nameAndType 11 12), (0, u "java/util/Objects"), (0, u "requireNonNull"), (0, u "(Ljava/lang/Object;)Ljava/lang/Object;"), (0, .fieldref 14 15), (0, .class_ 16), (0, .nameAndType 17 18), (0, u "java/util/ImmutableCollections$List12"), (0, u "e0"), (0, u "Ljava/lang/Object;"), (0, .fieldref 20 21), (0, .class_ 22), (0, .nameAndType 23 18), (0, u "java/util/ImmutableCollections"), (0, u "EMPTY"), (0, .fieldref 14 25), (0, .nameAndType 26 18), (0, u "e1"), (24, u "size"), (0, u "()I"), (17, .class_ 71), (0, u "java/io/Serializable"), (4, u "(Ljava/lang/Object;)V"), (8, u "(Ljava/lang/Object;Ljava/lang/Object;)V"), (4, u "get"), (0, u "(I)Ljava/lang/Object;")] 33

def k21c0 : Code := { maxStack := 2, maxLocals := 2, code := jdk_44_method_1_code, exceptionTable := #[], attributes := #[] }
def k21m0 : Method := { name := "<init>", desc := "(Ljava/lang/Object;)V", sig := { parameters := [(.object "java/lang/Object")], returnType := none }, accessFlags := 0, code := some k21c0 }
def k21c1 : Code := { maxStack := 2, maxLocals := 3, code := jdk_44_method_2_code, exceptionTable := #[], attributes := #[] }
def k21m1 : Method := { name := "<init>", desc := "(Ljava/lang/Object;Ljava/lang/Object;)V", sig := { parameters := [(.object "java/lang/Object"), (.object "java/lang/Object")], returnType := none }, accessFlags := 0, code := some k21c1 }
def k21c2 : Code := { maxStack := 2, maxLocals := 1, code := jdk_44_method_3_code, exceptionTable := #[], attributes := #[] }
def k21m2 : Method := { name := "size", desc := "()I", sig := { parameters := [], returnType := some .int }, accessFlags := 1, code := some k21c2 }
def k21c3 : Code := { maxStack := 2, maxLocals := 2, code := jdk_44_method_5_code, exceptionTable := #[], attributes := #[] }
def k21m3 : Method := { name := "get", desc := "(I)Ljava/lang/Object;", sig := { parameters := [.int], returnType := some (.object "java/lang/Object") }, accessFlags := 1, code := some k21c3 }
/-- java/util/ImmutableCollections$List12 -/
def k21 : Class := { plain "java/util/ImmutableCollections$List12" (some 20) with
  accessFlags := 48
  interfaces := #[2]
  cf := some (fileOf pool21 14 #[.nestHost 20] #[{ accessFlags := 0, nameIndex := 5, descriptorIndex := 76, attributes := #[] }, { accessFlags := 0, nameIndex := 5, descriptorIndex := 85, attributes := #[] }, { accessFlags := 1, nameIndex := 51, descriptorIndex := 52, attributes := #[] }, { accessFlags := 1, nameIndex := 90, descriptorIndex := 91, attributes := #[] }] 48 2 #[70] #[{ accessFlags := 18, nameIndex := 17, descriptorIndex := 18, attributes := #[] }, { accessFlags := 18, nameIndex := 26, descriptorIndex := 18, attributes := #[] }])
  fields := #[{ name := "e0", type := (.object "java/lang/Object"), accessFlags := 18, slot := 0, constantValue := 0 }, { name := "e1", type := (.object "java/lang/Object"), accessFlags := 18, slot := 1, constantValue := 0 }]
  methods := #[k21m0, k21m1, k21m2, k21m3]
  instanceTypes := #[(.object "java/lang/Object"), (.object "java/lang/Object")]
  staticTypes := #[]
  resolved := Array.replicate 125 none
  statics := none }

def pool22 : Array CpInfo := pool [(2, .class_ 4), (1, u "java/util/ImmutableCollections$AbstractImmutableList"), (2, .fieldref 8 9), (0, .class_ 10), (0, .nameAndType 11 12), (0, u "java/util/ImmutableCollections$ListN"), (0, u "elements"), (0, u "[Ljava/lang/Object;"), (2, u "allowNulls"), (0, u "Z"), (42, .class_ 60), (0, u "java/io/Serializable"), (16, u "size"), (0, u "()I"), (35, .class_ 115), (0, u "java/util/ImmutableCollections")] 3

def k22c0 : Code := { maxStack := 1, maxLocals := 1, code := jdk_45_method_3_code, exceptionTable := #[], attributes := #[] }
def k22m0 : Method := { name := "size", desc := "()I", sig := { parameters := [], returnType := some .int }, accessFlags := 1, code := some k22c0 }
/-- java/util/ImmutableCollections$ListN -/
def k22 : Class := { plain "java/util/ImmutableCollections$ListN" (some 20) with
  accessFlags := 48
  interfaces := #[2]
  cf := some (fileOf pool22 8 #[.nestHost 114] #[{ accessFlags := 1, nameIndex := 77, descriptorIndex := 78, attributes := #[] }] 48 2 #[59] #[{ accessFlags := 18, nameIndex := 11, descriptorIndex := 12, attributes := #[] }, { accessFlags := 18, nameIndex := 15, descriptorIndex := 16, attributes := #[] }])
  fields := #[{ name := "elements", type := (.array (.object "java/lang/Object")), accessFlags := 18, slot := 0, constantValue := 0 }, { name := "allowNulls", type := .boolean, accessFlags := 18, slot := 1, constantValue := 0 }]
  methods := #[k22m0]
  instanceTypes := #[(.array (.object "java/lang/Object")), .boolean]
  staticTypes := #[]
  resolved := Array.replicate 119 none
  statics := none }

def pool23 : Array CpInfo := pool [(1, .class_ 2), (0, u "java/lang/Appendable"), (0, .class_ 4), (0, u "java/lang/Object")] 9

/-- java/lang/Appendable -/
def k23 : Class := { plain "java/lang/Appendable" (some 0) with
  accessFlags := 1537
  interfaces := #[]
  cf := some (fileOf pool23 1 #[] #[] 1537 3 #[] #[])
  fields := #[]
  methods := #[]
  instanceTypes := #[]
  staticTypes := #[]
  resolved := Array.replicate 14 none
  statics := none }

def pool24 : Array CpInfo := pool [(1, .class_ 2), (0, u "java/lang/String"), (0, .methodref 4 5), (0, .class_ 6), (0, .nameAndType 7 8), (0, u "java/lang/Object"), (0, u "<init>"), (0, u "()V"), (1, .class_ 12), (1, u "java/lang/AbstractStringBuilder"), (0, u "EMPTYVALUE"), (0, u "[B"), (0, .fieldref 10 16), (0, .nameAndType 17 14), (0, u "value"), (0, .fieldref 1 19), (0, .nameAndType 20 21), (0, u "COMPACT_STRINGS"), (0, u "Z"), (0, .fieldref 10 23), (0, .nameAndType 24 25), (0, u "coder"), (0, u "B"), (6, .methodref 1 33), (0, .nameAndType 34 35), (0, u "length"), (0, u "()I"), (4, .methodref 1 41), (0, .nameAndType 24 42), (0, u "()B"), (2, u "append"), (0, u "(Ljava/lang/String;)Ljava/lang/AbstractStringBuilder;"), (1, .class_ 49), (0, u "java/lang/CharSequence"), (19, u "(Ljava/lang/String;)V"), (5, u "maybeLatin1"), (3, .fieldref 10 80), (0, .nameAndType 81 82), (0, u "count"), (0, u "I"), (0, .methodref 10 84), (0, .nameAndType 85 86), (0, u "isLatin1"), (0, u "()Z"), (1, .class_ 90), (1, u "java/lang/StringLatin1"), (9, .methodref 10 101), (0, .nameAndType 102 103), (0, u "ensureCapacityInternal"), (0, u "(I)V"), (87, .methodref 88 192), (0, .nameAndType 193 194), (0, u "canEncode"), (0, u "(C)Z"), (13, .methodref 10 209), (0, .nameAndType 210 211), (0, u "putStringAt"), (0, u "(ILjava/lang/String;)V"), (5, u "inflateIfNeededFor"), (2, .nameAndType 221 222), (0, u "getBytes"), (0, u "([BIB)V"), (69, u "(C)Ljava/lang/AbstractStringBuilder;"), (104, .methodref 10 398), (0, .nameAndType 217 69), (0, .methodref 1 220), (3, u "()[B"), (40, .class_ 445), (0, u "java/lang/Appendable"), (106, u "getValue")] 56

def k24m0 : Method := { name := "<init>", desc := "()V", sig := { parameters := [], returnType := none }, accessFlags := 0, code := none }
def k24c1 : Code := { maxStack := 2, maxLocals := 2, code := jdk_68_method_2_code, exceptionTable := #[], attributes := #[] }
def k24m1 : Method := { name := "<init>", desc := "(I)V", sig := { parameters := [.int], returnType := none }, accessFlags := 0, code := some k24c1 }
def k24c2 : Code := { maxStack := 1, maxLocals := 1, code := jdk_68_method_6_code, exceptionTable := #[], attributes := #[] }
def k24m2 : Method := { name := "length", desc := "()I", sig := { parameters := [], returnType := some .int }, accessFlags := 1, code := some k24c2 }
def k24c3 : Code := { maxStack := 4, maxLocals := 3, code := jdk_68_method_9_code, exceptionTable := #[], attributes := #[] }
def k24m3 : Method := { name := "ensureCapacityInternal", desc := "(I)V", sig := { parameters := [.int], returnType := none }, accessFlags := 2, code := some k24c3 }
def k24c4 : Code := { maxStack := 3, maxLocals := 3, code := jdk_68_method_22_code, exceptionTable := #[], attributes := #[] }
def k24m4 : Method := { name := "append", desc := "(Ljava/lang/String;)Ljava/lang/AbstractStringBuilder;", sig := { parameters := [(.object "java/lang/String")], returnType := some (.object "java/lang/AbstractStringBuilder") }, accessFlags := 1, code := some k24c4 }
def k24c5 : Code := { maxStack := 5, maxLocals := 2, code := jdk_68_method_31_code, exceptionTable := #[], attributes := #[] }
def k24m5 : Method := { name := "append", desc := "(C)Ljava/lang/AbstractStringBuilder;", sig := { parameters := [.char], returnType := some (.object "java/lang/AbstractStringBuilder") }, accessFlags := 1, code := some k24c5 }
def k24c6 : Code := { maxStack := 1, maxLocals := 1, code := jdk_68_method_64_code, exceptionTable := #[], attributes := #[] }
def k24m6 : Method := { name := "getValue", desc := "()[B", sig := { parameters := [], returnType := some (.array .byte) }, accessFlags := 16, code := some k24c6 }
def k24c7 : Code := { maxStack := 1, maxLocals := 1, code := jdk_68_method_68_code, exceptionTable := #[], attributes := #[] }
def k24m7 : Method := { name := "isLatin1", desc := "()Z", sig := { parameters := [], returnType := some .boolean }, accessFlags := 16, code := some k24c7 }
def k24c8 : Code := { maxStack := 2, maxLocals := 2, code := jdk_68_method_71_code, exceptionTable := #[], attributes := #[] }
def k24m8 : Method := { name := "inflateIfNeededFor", desc := "(Ljava/lang/String;)V", sig := { parameters := [(.object "java/lang/String")], returnType := none }, accessFlags := 2, code := some k24c8 }
def k24c9 : Code := { maxStack := 4, maxLocals := 3, code := jdk_68_method_73_code, exceptionTable := #[], attributes := #[] }
def k24m9 : Method := { name := "putStringAt", desc := "(ILjava/lang/String;)V", sig := { parameters := [.int, (.object "java/lang/String")], returnType := none }, accessFlags := 2, code := some k24c9 }
/-- java/lang/AbstractStringBuilder -/
def k24 : Class := { plain "java/lang/AbstractStringBuilder" (some 0) with
  accessFlags := 1056
  interfaces := #[23, 4]
  cf := some (fileOf pool24 10 #[] #[{ accessFlags := 0, nameIndex := 7, descriptorIndex := 8, attributes := #[] }, { accessFlags := 0, nameIndex := 7, descriptorIndex := 103, attributes := #[] }, { accessFlags := 1, nameIndex := 34, descriptorIndex := 35, attributes := #[] }, { accessFlags := 2, nameIndex := 102, descriptorIndex := 103, attributes := #[] }, { accessFlags := 1, nameIndex := 45, descriptorIndex := 46, attributes := #[] }, { accessFlags := 1, nameIndex := 45, descriptorIndex := 292, attributes := #[] }, { accessFlags := 16, nameIndex := 552, descriptorIndex := 403, attributes := #[] }, { accessFlags := 16, nameIndex := 85, descriptorIndex := 86, attributes := #[] }, { accessFlags := 2, nameIndex := 217, descriptorIndex := 69, attributes := #[] }, { accessFlags := 2, nameIndex := 210, descriptorIndex := 211, attributes := #[] }] 1056 4 #[444, 48] #[{ accessFlags := 0, nameIndex := 17, descriptorIndex := 14, attributes := #[] }, { accessFlags := 0, nameIndex := 24, descriptorIndex := 25, attributes := #[] }, { accessFlags := 0, nameIndex := 75, descriptorIndex := 21, attributes := #[] }, { accessFlags := 0, nameIndex := 81, descriptorIndex := 82, attributes := #[] }, { accessFlags := 26, nameIndex := 13, descriptorIndex := 14, attributes := #[] }])
  fields := #[{ name := "value", type := (.array .byte), accessFlags := 0, slot := 0, constantValue := 0 }, { name := "coder", type := .byte, accessFlags := 0, slot := 1, constantValue := 0 }, { name := "maybeLatin1", type := .boolean, accessFlags := 0, slot := 2, constantValue := 0 }, { name := "count", type := .int, accessFlags := 0, slot := 3, constantValue := 0 }, { name := "EMPTYVALUE", type := (.array .byte), accessFlags := 26, slot := 0, constantValue := 0 }]
  methods := #[k24m0, k24m1, k24m2, k24m3, k24m4, k24m5, k24m6, k24m7, k24m8, k24m9]
  instanceTypes := #[(.array .byte), .byte, .boolean, .int]
  staticTypes := #[(.array .byte)]
  resolved := Array.replicate 609 none
  statics := none }

def pool25 : Array CpInfo := pool [(1, .methodref 2 3), (0, .class_ 4), (0, .nameAndType 5 6), (0, u "java/lang/AbstractStringBuilder"), (0, u "<init>"), (0, u "(I)V"), (10, .methodref 18 19), (0, .class_ 20), (0, .nameAndType 21 22), (0, u "java/lang/String"), (0, u "valueOf"), (0, u "(Ljava/lang/Object;)Ljava/lang/String;"), (0, .methodref 24 25), (0, .class_ 26), (0, .nameAndType 27 28), (0, u "java/lang/StringBuilder"), (0, u "append"), (0, u "(Ljava/lang/String;)Ljava/lang/StringBuilder;"), (0, .methodref 2 30), (0, .nameAndType 27 31), (0, u "(Ljava/lang/String;)Ljava/lang/AbstractStringBuilder;"), (18, .methodref 2 51), (0, .nameAndType 27 52), (0, u "(C)Ljava/lang/AbstractStringBuilder;"), (84, .methodref 18 138), (0, .nameAndType 5 139), (0, u "(Ljava/lang/StringBuilder;)V"), (5, u "()V"), (10, u "()I"), (129, u "(C)Ljava/lang/StringBuilder;"), (20, u "(Ljava/lang/Object;)Ljava/lang/StringBuilder;"), (35, .methodref 2 344), (0, .nameAndType 345 156), (0, u "length"), (3, .class_ 350), (0, u "java/lang/Appendable"), (0, .class_ 352), (0, u "java/io/Serializable"), (0, .class_ 354), (0, u "java/lang/Comparable"), (0, .class_ 356), (0, u "java/lang/CharSequence"), (0, u "serialVersionUID"), (0, u "J"), (40, u "toString"), (0, u "()Ljava/lang/String;")] 21

def k25c0 : Code := { maxStack := 2, maxLocals := 1, code := jdk_67_method_1_code, exceptionTable := #[], attributes := #[] }
def k25m0 : Method := { name := "<init>", desc := "()V", sig := { parameters := [], returnType := none }, accessFlags := 1, code := some k25c0 }
def k25c1 : Code := { maxStack := 2, maxLocals := 2, code := jdk_67_method_6_code, exceptionTable := #[], attributes := #[] }
def k25m1 : Method := { name := "append", desc := "(Ljava/lang/Object;)Ljava/lang/StringBuilder;", sig := { parameters := [(.object "java/lang/Object")], returnType := some (.object "java/lang/StringBuilder") }, accessFlags := 1, code := some k25c1 }
def k25c2 : Code := { maxStack := 2, maxLocals := 2, code := jdk_67_method_7_code, exceptionTable := #[], attributes := #[] }
def k25m2 : Method := { name := "append", desc := "(Ljava/lang/String;)Ljava/lang/StringBuilder;", sig := { parameters := [(.object "java/lang/String")], returnType := some (.object "java/lang/StringBuilder") }, accessFlags := 1, code := some k25c2 }
def k25c3 : Code := { maxStack := 2, maxLocals := 2, code := jdk_67_method_14_code, exceptionTable := #[], attributes := #[] }
def k25m3 : Method := { name := "append", desc := "(C)Ljava/lang/StringBuilder;", sig := { parameters := [.char], returnType := some (.object "java/lang/StringBuilder") }, accessFlags := 1, code := some k25c3 }
def k25c4 : Code := { maxStack := 3, maxLocals := 1, code := jdk_67_method_42_code, exceptionTable := #[], attributes := #[] }
def k25m4 : Method := { name := "toString", desc := "()Ljava/lang/String;", sig := { parameters := [], returnType := some (.object "java/lang/String") }, accessFlags := 1, code := some k25c4 }
def k25c5 : Code := { maxStack := 1, maxLocals := 1, code := jdk_67_method_93_code, exceptionTable := #[], attributes := #[] }
def k25m5 : Method := { name := "length", desc := "()I", sig := { parameters := [], returnType := some .int }, accessFlags := 4161, code := some k25c5 }
/-- java/lang/StringBuilder -/
def k25 : Class := { plain "java/lang/StringBuilder" (some 24) with
  accessFlags := 49
  interfaces := #[23, 2, 3, 4]
  cf := some (fileOf pool25 24 #[] #[{ accessFlags := 1, nameIndex := 5, descriptorIndex := 145, attributes := #[] }, { accessFlags := 1, nameIndex := 27, descriptorIndex := 307, attributes := #[] }, { accessFlags := 1, nameIndex := 27, descriptorIndex := 28, attributes := #[] }, { accessFlags := 1, nameIndex := 27, descriptorIndex := 286, attributes := #[] }, { accessFlags := 1, nameIndex := 399, descriptorIndex := 400, attributes := #[] }, { accessFlags := 4161, nameIndex := 345, descriptorIndex := 156, attributes := #[] }] 49 2 #[349, 351, 353, 355] #[{ accessFlags := 24, nameIndex := 357, descriptorIndex := 358, attributes := #[] }])
  fields := #[{ name := "serialVersionUID", type := .long, accessFlags := 24, slot := 0, constantValue := 0 }]
  methods := #[k25m0, k25m1, k25m2, k25m3, k25m4, k25m5]
  instanceTypes := #[(.array .byte), .byte, .boolean, .int]
  staticTypes := #[.long]
  resolved := Array.replicate 422 none
  statics := none }

def pool26 : Array CpInfo := pool [(16, .class_ 18), (1, u "java/util/Iterator"), (0, u "hasNext"), (0, u "()Z"), (2, u "next"), (0, u "()Ljava/lang/Object;"), (6, .class_ 32), (0, u "java/lang/Object")] 20

def k26m0 : Method := { name := "hasNext", desc := "()Z", sig := { parameters := [], returnType := some .boolean }, accessFlags := 1025, code := none }
def k26m1 : Method := { name := "next", desc := "()Ljava/lang/Object;", sig := { parameters := [], returnType := some (.object "java/lang/Object") }, accessFlags := 1025, code := none }
/-- java/util/Iterator -/
def k26 : Class := { plain "java/util/Iterator" (some 0) with
  accessFlags := 1537
  interfaces := #[]
  cf := some (fileOf pool26 16 #[] #[{ accessFlags := 1025, nameIndex := 19, descriptorIndex := 20, attributes := #[] }, { accessFlags := 1025, nameIndex := 23, descriptorIndex := 24, attributes := #[] }] 1537 31 #[] #[])
  fields := #[]
  methods := #[k26m0, k26m1]
  instanceTypes := #[]
  staticTypes := #[]
  resolved := Array.replicate 53 none
  statics := none }

def pool27 : Array CpInfo := pool [(1, .class_ 2), (0, u "java/util/ListIterator"), (0, .class_ 4), (0, u "java/lang/Object"), (0, .class_ 6), (0, u "java/util/Iterator")] 20

/-- java/util/ListIterator -/
def k27 : Class := { plain "java/util/ListIterator" (some 0) with
  accessFlags := 1537
  interfaces := #[26]
  cf := some (fileOf pool27 1 #[] #[] 1537 3 #[5] #[])
  fields := #[]
  methods := #[]
  instanceTypes := #[]
  staticTypes := #[]
  resolved := Array.replicate 27 none
  statics := none }

def pool28 : Array CpInfo := pool [(1, .methodref 2 3), (0, .class_ 4), (0, .nameAndType 5 6), (0, u "java/lang/Object"), (0, u "<init>"), (0, u "()V"), (0, .fieldref 8 9), (0, .class_ 10), (0, .nameAndType 11 12), (0, u "java/util/ImmutableCollections$ListItr"), (0, u "list"), (0, u "Ljava/util/List;"), (0, .fieldref 8 14), (0, .nameAndType 15 16), (0, u "size"), (0, u "I"), (0, .fieldref 8 18), (0, .nameAndType 19 16), (0, u "cursor"), (0, .fieldref 8 21), (0, .nameAndType 22 23), (0, u "isListIterator"), (0, u "Z"), (0, .interfaceMethodref 25 26), (0, .class_ 27), (0, .nameAndType 28 29), (0, u "java/util/List"), (0, u "get"), (0, u "(I)Ljava/lang/Object;"), (6, .class_ 38), (1, u "java/util/ImmutableCollections"), (2, .class_ 42), (0, u "java/util/ListIterator"), (4, u "(Ljava/util/List;I)V"), (11, u "hasNext"), (0, u "()Z"), (1, u "next"), (0, u "()Ljava/lang/Object;")] 22

def k28c0 : Code := { maxStack := 2, maxLocals := 3, code := jdk_53_method_1_code, exceptionTable := #[], attributes := #[] }
def k28m0 : Method := { name := "<init>", desc := "(Ljava/util/List;I)V", sig := { parameters := [(.object "java/util/List"), .int], returnType := none }, accessFlags := 0, code := some k28c0 }
def k28c1 : Code := { maxStack := 2, maxLocals := 1, code := jdk_53_method_3_code, exceptionTable := #[], attributes := #[] }
def k28m1 : Method := { name := "hasNext", desc := "()Z", sig := { parameters := [], returnType := some .boolean }, accessFlags := 1, code := some k28c1 }
def k28c2 : Code := { maxStack := 3, maxLocals := 3, code := jdk_53_method_4_code, exceptionTable := #[{ startPc := 0, endPc := 24, handlerPc := 25, catchType := 30 }], attributes := #[] }
def k28m2 : Method := { name := "next", desc := "()Ljava/lang/Object;", sig := { parameters := [], returnType := some (.object "java/lang/Object") }, accessFlags := 1, code := some k28c2 }
/-- java/util/ImmutableCollections$ListItr -/
def k28 : Class := { plain "java/util/ImmutableCollections$ListItr" (some 0) with
  accessFlags := 48
  interfaces := #[27]
  cf := some (fileOf pool28 8 #[.nestHost 36] #[{ accessFlags := 0, nameIndex := 5, descriptorIndex := 47, attributes := #[] }, { accessFlags := 1, nameIndex := 59, descriptorIndex := 60, attributes := #[] }, { accessFlags := 1, nameIndex := 62, descriptorIndex := 63, attributes := #[] }] 48 2 #[41] #[{ accessFlags := 18, nameIndex := 11, descriptorIndex := 12, attributes := #[] }, { accessFlags := 18, nameIndex := 15, descriptorIndex := 16, attributes := #[] }, { accessFlags := 18, nameIndex := 22, descriptorIndex := 23, attributes := #[] }, { accessFlags := 2, nameIndex := 19, descriptorIndex := 16, attributes := #[] }])
  fields := #[{ name := "list", type := (.object "java/util/List"), accessFlags := 18, slot := 0, constantValue := 0 }, { name := "size", type := .int, accessFlags := 18, slot := 1, constantValue := 0 }, { name := "isListIterator", type := .boolean, accessFlags := 18, slot := 2, constantValue := 0 }, { name := "cursor", type := .int, accessFlags := 2, slot := 3, constantValue := 0 }]
  methods := #[k28m0, k28m1, k28m2]
  instanceTypes := #[(.object "java/util/List"), .int, .boolean, .int]
  staticTypes := #[]
  resolved := Array.replicate 86 none
  statics := none }

def pool29 : Array CpInfo := pool [(2, .class_ 4), (1, u "java/lang/Object"), (0, u "<init>"), (0, u "()V"), (1, .class_ 10), (1, u "java/lang/System"), (0, u "allowSecurityManager"), (0, u "I"), (16, u "cons"), (0, u "Ljava/io/Console;"), (77, .class_ 110), (1, u "java/lang/System$CallersHolder"), (43, u "initialErrStream"), (0, u "Ljava/io/PrintStream;"), (19, u "security"), (0, u "Ljava/lang/SecurityManager;"), (31, .class_ 209), (0, u "java/lang/System$1"), (7, u "props"), (0, u "Ljava/util/Properties;"), (2, u "lineSeparator"), (0, u "Ljava/lang/String;"), (96, .class_ 321), (1, u "java/lang/System$LoggerFinder"), (5, .class_ 328), (0, u "java/lang/System$Logger"), (67, u "err"), (2, u "out"), (91, u "notSupportedJnuEncoding"), (15, u "in"), (17, u "initialIn"), (0, u "Ljava/io/InputStream;"), (35, u "bootLayer"), (0, u "Ljava/lang/ModuleLayer;"), (99, .class_ 664), (0, u "java/lang/System$2"), (9, u "NEVER"), (2, u "MAYBE"), (49, u "arraycopy"), (0, u "(Ljava/lang/Object;ILjava/lang/Object;II)V"), (72, .class_ 802), (0, u "java/lang/System$Logger$Level")] 31

def k29m0 : Method := { name := "<init>", desc := "()V", sig := { parameters := [], returnType := none }, accessFlags := 2, code := none }
def k29m1 : Method := { name := "arraycopy", desc := "(Ljava/lang/Object;ILjava/lang/Object;II)V", sig := { parameters := [(.object "java/lang/Object"), .int, (.object "java/lang/Object"), .int, .int], returnType := none }, accessFlags := 265, code := none }
/-- java/lang/System -/
def k29 : Class := { plain "java/lang/System" (some 0) with
  accessFlags := 49
  interfaces := #[]
  cf := some (fileOf pool29 8 #[.nestMembers #[319, 327, 801, 108, 663, 208]] #[{ accessFlags := 2, nameIndex := 5, descriptorIndex := 6, attributes := #[] }, { accessFlags := 265, nameIndex := 727, descriptorIndex := 728, attributes := #[] }] 49 2 #[] #[{ accessFlags := 25, nameIndex := 507, descriptorIndex := 526, attributes := #[] }, { accessFlags := 25, nameIndex := 399, descriptorIndex := 155, attributes := #[] }, { accessFlags := 25, nameIndex := 396, descriptorIndex := 155, attributes := #[] }, { accessFlags := 10, nameIndex := 525, descriptorIndex := 526, attributes := #[] }, { accessFlags := 26, nameIndex := 674, descriptorIndex := 12, attributes := #[] }, { accessFlags := 26, nameIndex := 677, descriptorIndex := 12, attributes := #[] }, { accessFlags := 10, nameIndex := 11, descriptorIndex := 12, attributes := #[] }, { accessFlags := 74, nameIndex := 175, descriptorIndex := 176, attributes := #[] }, { accessFlags := 10, nameIndex := 491, descriptorIndex := 222, attributes := #[] }, { accessFlags := 74, nameIndex := 29, descriptorIndex := 30, attributes := #[] }, { accessFlags := 74, nameIndex := 154, descriptorIndex := 155, attributes := #[] }, { accessFlags := 10, nameIndex := 217, descriptorIndex := 218, attributes := #[] }, { accessFlags := 10, nameIndex := 221, descriptorIndex := 222, attributes := #[] }, { accessFlags := 8, nameIndex := 562, descriptorIndex := 563, attributes := #[] }])
  fields := #[{ name := "in", type := (.object "java/io/InputStream"), accessFlags := 25, slot := 0, constantValue := 0 }, { name := "out", type := (.object "java/io/PrintStream"), accessFlags := 25, slot := 1, constantValue := 0 }, { name := "err", type := (.object "java/io/PrintStream"), accessFlags := 25, slot := 2, constantValue := 0 }, { name := "initialIn", type := (.object "java/io/InputStream"), accessFlags := 10, slot := 3, constantValue := 0 }, { name := "NEVER", type := .int, accessFlags := 26, slot := 4, constantValue := 0 }, { name := "MAYBE", type := .int, accessFlags := 26, slot := 5, constantValue := 0 }, { name := "allowSecurityManager", type := .int, accessFlags := 10, slot := 6, constantValue := 0 }, { name := "security", type := (.object "java/lang/SecurityManager"), accessFlags := 74, slot := 7, constantValue := 0 }, { name := "notSupportedJnuEncoding", type := (.object "java/lang/String"), accessFlags := 10, slot := 8, constantValue := 0 }, { name := "cons", type := (.object "java/io/Console"), accessFlags := 74, slot := 9, constantValue := 0 }, { name := "initialErrStream", type := (.object "java/io/PrintStream"), accessFlags := 74, slot := 10, constantValue := 0 }, { name := "props", type := (.object "java/util/Properties"), accessFlags := 10, slot := 11, constantValue := 0 }, { name := "lineSeparator", type := (.object "java/lang/String"), accessFlags := 10, slot := 12, constantValue := 0 }, { name := "bootLayer", type := (.object "java/lang/ModuleLayer"), accessFlags := 8, slot := 13, constantValue := 0 }]
  methods := #[k29m0, k29m1]
  instanceTypes := #[]
  staticTypes := #[(.object "java/io/InputStream"), (.object "java/io/PrintStream"), (.object "java/io/PrintStream"), (.object "java/io/InputStream"), .int, .int, .int, (.object "java/lang/SecurityManager"), (.object "java/lang/String"), (.object "java/io/Console"), (.object "java/io/PrintStream"), (.object "java/util/Properties"), (.object "java/lang/String"), (.object "java/lang/ModuleLayer")]
  resolved := Array.replicate 834 none
  statics := none }

def pool30 : Array CpInfo := pool [(2, .class_ 4), (1, u "java/lang/Object"), (0, u "<init>"), (0, u "()V"), (7, .class_ 16), (1, u "java/util/Arrays"), (57, .class_ 76), (1, u "java/util/Arrays$NaturalOrder"), (9, .methodref 2 87), (0, .nameAndType 88 89), (0, u "getClass"), (0, u "()Ljava/lang/Class;"), (20, .class_ 111), (0, u "[Ljava/lang/Object;"), (1, .class_ 115), (1, u "java/util/Arrays$LegacyMergeSort"), (1, u "Z"), (21, u "copyOfRange"), (10, .methodref 151 152), (0, .class_ 153), (0, .nameAndType 154 155), (0, u "java/lang/System"), (0, u "arraycopy"), (0, u "(Ljava/lang/Object;ILjava/lang/Object;II)V"), (144, .methodref 14 301), (0, .nameAndType 302 303), (0, u "copyOf"), (0, u "([Ljava/lang/Object;ILjava/lang/Class;)[Ljava/lang/Object;"), (0, .methodref 305 306), (0, .class_ 307), (0, .nameAndType 308 309), (0, u "java/lang/Math"), (0, u "min"), (0, u "(II)I"), (29, .methodref 14 340), (0, .nameAndType 341 342), (0, u "copyOfRangeByte"), (0, u "([BII)[B"), (0, .methodref 14 344), (0, .nameAndType 345 346), (0, u "checkLength"), (0, u "(II)V"), (28, .class_ 376), (0, u "java/util/Arrays$ArrayList"), (68, u "$assertionsDisabled"), (269, u "MIN_ARRAY_SORT_GRAN"), (0, u "I"), (2, u "INSERTIONSORT_THRESHOLD"), (140, u "([Ljava/lang/Object;I)[Ljava/lang/Object;"), (114, .class_ 976), (0, u "java/util/Arrays$ArrayItr")] 52

def k30m0 : Method := { name := "<init>", desc := "()V", sig := { parameters := [], returnType := none }, accessFlags := 2, code := none }
def k30c1 : Code := { maxStack := 3, maxLocals := 2, code := jdk_65_method_119_code, exceptionTable := #[], attributes := #[] }
def k30m1 : Method := { name := "copyOf", desc := "([Ljava/lang/Object;I)[Ljava/lang/Object;", sig := { parameters := [(.array (.object "java/lang/Object")), .int], returnType := some (.array (.object "java/lang/Object")) }, accessFlags := 9, code := some k30c1 }
def k30c2 : Code := { maxStack := 6, maxLocals := 4, code := jdk_65_method_120_code, exceptionTable := #[], attributes := #[] }
def k30m2 : Method := { name := "copyOf", desc := "([Ljava/lang/Object;ILjava/lang/Class;)[Ljava/lang/Object;", sig := { parameters := [(.array (.object "java/lang/Object")), .int, (.object "java/lang/Class")], returnType := some (.array (.object "java/lang/Object")) }, accessFlags := 9, code := some k30c2 }
def k30c3 : Code := { maxStack := 4, maxLocals := 2, code := jdk_65_method_131_code, exceptionTable := #[], attributes := #[] }
def k30m3 : Method := { name := "checkLength", desc := "(II)V", sig := { parameters := [.int, .int], returnType := none }, accessFlags := 10, code := some k30c3 }
def k30c4 : Code := { maxStack := 3, maxLocals := 3, code := jdk_65_method_132_code, exceptionTable := #[], attributes := #[] }
def k30m4 : Method := { name := "copyOfRange", desc := "([BII)[B", sig := { parameters := [(.array .byte), .int, .int], returnType := some (.array .byte) }, accessFlags := 9, code := some k30c4 }
def k30c5 : Code := { maxStack := 6, maxLocals := 5, code := jdk_65_method_133_code, exceptionTable := #[], attributes := #[] }
def k30m5 : Method := { name := "copyOfRangeByte", desc := "([BII)[B", sig := { parameters := [(.array .byte), .int, .int], returnType := some (.array .byte) }, accessFlags := 10, code := some k30c5 }
/-- java/util/Arrays -/
def k30 : Class := { plain "java/util/Arrays" (some 0) with
  accessFlags := 49
  interfaces := #[]
  cf := some (fileOf pool30 14 #[.nestMembers #[975, 375, 113, 74]] #[{ accessFlags := 2, nameIndex := 5, descriptorIndex := 6, attributes := #[] }, { accessFlags := 9, nameIndex := 302, descriptorIndex := 860, attributes := #[] }, { accessFlags := 9, nameIndex := 302, descriptorIndex := 303, attributes := #[] }, { accessFlags := 10, nameIndex := 345, descriptorIndex := 346, attributes := #[] }, { accessFlags := 9, nameIndex := 139, descriptorIndex := 342, attributes := #[] }, { accessFlags := 10, nameIndex := 341, descriptorIndex := 342, attributes := #[] }] 49 2 #[] #[{ accessFlags := 26, nameIndex := 715, descriptorIndex := 716, attributes := #[] }, { accessFlags := 26, nameIndex := 719, descriptorIndex := 716, attributes := #[] }, { accessFlags := 4120, nameIndex := 445, descriptorIndex := 117, attributes := #[] }])
  fields := #[{ name := "MIN_ARRAY_SORT_GRAN", type := .int, accessFlags := 26, slot := 0, constantValue := 0 }, { name := "INSERTIONSORT_THRESHOLD", type := .int, accessFlags := 26, slot := 1, constantValue := 0 }, { name := "$assertionsDisabled", type := .boolean, accessFlags := 4120, slot := 2, constantValue := 0 }]
  methods := #[k30m0, k30m1, k30m2, k30m3, k30m4, k30m5]
  instanceTypes := #[]
  staticTypes := #[.int, .int, .boolean]
  resolved := Array.replicate 1029 none
  statics := none }

def pool31 : Array CpInfo := pool [(1, .class_ 2), (0, u "java/lang/Math"), (1, .class_ 6), (1, u "java/lang/Object"), (0, u "<init>"), (0, u "()V"), (89, .class_ 100), (1, u "java/lang/Math$RandomNumberGeneratorHolder"), (71, u "negativeZeroFloatBits"), (0, u "J"), (2, u "negativeZeroDoubleBits"), (21, u "max"), (2, u "min"), (43, u "$assertionsDisabled"), (0, u "Z"), (88, u "(II)I"), (2, u "twoToTheDoubleScaleDown"), (0, u "D"), (4, u "twoToTheDoubleScaleUp"), (9, u "E"), (3, u "PI"), (2, u "TAU"), (2, u "DEGREES_TO_RADIANS"), (0, u "RADIANS_TO_DEGREES")] 94

def k31m0 : Method := { name := "<init>", desc := "()V", sig := { parameters := [], returnType := none }, accessFlags := 2, code := none }
def k31c1 : Code := { maxStack := 2, maxLocals := 2, code := jdk_29_method_65_code, exceptionTable := #[], attributes := #[] }
def k31m1 : Method := { name := "max", desc := "(II)I", sig := { parameters := [.int, .int], returnType := some .int }, accessFlags := 9, code := some k31c1 }
def k31c2 : Code := { maxStack := 2, maxLocals := 2, code := jdk_29_method_69_code, exceptionTable := #[], attributes := #[] }
def k31m2 : Method := { name := "min", desc := "(II)I", sig := { parameters := [.int, .int], returnType := some .int }, accessFlags := 9, code := some k31c2 }
/-- java/lang/Math -/
def k31 : Class := { plain "java/lang/Math" (some 0) with
  accessFlags := 49
  interfaces := #[]
  cf := some (fileOf pool31 1 #[.nestMembers #[98]] #[{ accessFlags := 2, nameIndex := 7, descriptorIndex := 8, attributes := #[] }, { accessFlags := 9, nameIndex := 198, descriptorIndex := 335, attributes := #[] }, { accessFlags := 9, nameIndex := 201, descriptorIndex := 335, attributes := #[] }] 49 4 #[] #[{ accessFlags := 25, nameIndex := 354, descriptorIndex := 339, attributes := #[] }, { accessFlags := 25, nameIndex := 358, descriptorIndex := 339, attributes := #[] }, { accessFlags := 25, nameIndex := 361, descriptorIndex := 339, attributes := #[] }, { accessFlags := 26, nameIndex := 364, descriptorIndex := 339, attributes := #[] }, { accessFlags := 26, nameIndex := 365, descriptorIndex := 339, attributes := #[] }, { accessFlags := 26, nameIndex := 172, descriptorIndex := 173, attributes := #[] }, { accessFlags := 26, nameIndex := 176, descriptorIndex := 173, attributes := #[] }, { accessFlags := 8, nameIndex := 344, descriptorIndex := 339, attributes := #[] }, { accessFlags := 8, nameIndex := 338, descriptorIndex := 339, attributes := #[] }, { accessFlags := 4120, nameIndex := 245, descriptorIndex := 246, attributes := #[] }])
  fields := #[{ name := "E", type := .double, accessFlags := 25, slot := 0, constantValue := 0 }, { name := "PI", type := .double, accessFlags := 25, slot := 1, constantValue := 0 }, { name := "TAU", type := .double, accessFlags := 25, slot := 2, constantValue := 0 }, { name := "DEGREES_TO_RADIANS", type := .double, accessFlags := 26, slot := 3, constantValue := 0 }, { name := "RADIANS_TO_DEGREES", type := .double, accessFlags := 26, slot := 4, constantValue := 0 }, { name := "negativeZeroFloatBits", type := .long, accessFlags := 26, slot := 5, constantValue := 0 }, { name := "negativeZeroDoubleBits", type := .long, accessFlags := 26, slot := 6, constantValue := 0 }, { name := "twoToTheDoubleScaleUp", type := .double, accessFlags := 8, slot := 7, constantValue := 0 }, { name := "twoToTheDoubleScaleDown", type := .double, accessFlags := 8, slot := 8, constantValue := 0 }, { name := "$assertionsDisabled", type := .boolean, accessFlags := 4120, slot := 9, constantValue := 0 }]
  methods := #[k31m0, k31m1, k31m2]
  instanceTypes := #[]
  staticTypes := #[.double, .double, .double, .double, .double, .long, .long, .double, .double, .boolean]
  resolved := Array.replicate 460 none
  statics := none }

def pool32 : Array CpInfo := pool [(1, .class_ 2), (0, u "java/lang/String"), (1, .class_ 6), (1, u "java/lang/Object"), (0, u "<init>"), (0, u "()V"), (0, .methodref 1 10), (0, .nameAndType 11 12), (0, u "checkIndex"), (0, u "(II)V"), (1, .class_ 16), (1, u "java/lang/StringLatin1"), (36, u "([BI)C"), (36, u "canEncode"), (14, u "(C)Z"), (15, u "$assertionsDisabled"), (0, u "Z"), (98, .class_ 223), (1, u "java/lang/StringLatin1$LinesSpliterator"), (28, u "charAt"), (137, .class_ 391), (0, u "java/lang/StringLatin1$CharsSpliterator")] 3

def k32m0 : Method := { name := "<init>", desc := "()V", sig := { parameters := [], returnType := none }, accessFlags := 0, code := none }
def k32c1 : Code := { maxStack := 2, maxLocals := 2, code := jdk_43_method_2_code, exceptionTable := #[], attributes := #[] }
def k32m1 : Method := { name := "charAt", desc := "([BI)C", sig := { parameters := [(.array .byte), .int], returnType := some .char }, accessFlags := 9, code := some k32c1 }
def k32c2 : Code := { maxStack := 2, maxLocals := 1, code := jdk_43_method_3_code, exceptionTable := #[], attributes := #[] }
def k32m2 : Method := { name := "canEncode", desc := "(C)Z", sig := { parameters := [.char], returnType := some .boolean }, accessFlags := 9, code := some k32c2 }
/-- java/lang/StringLatin1 -/
def k32 : Class := { plain "java/lang/StringLatin1" (some 0) with
  accessFlags := 48
  interfaces := #[]
  cf := some (fileOf pool32 14 #[.nestMembers #[390, 221]] #[{ accessFlags := 0, nameIndex := 7, descriptorIndex := 8, attributes := #[] }, { accessFlags := 9, nameIndex := 252, descriptorIndex := 53, attributes := #[] }, { accessFlags := 9, nameIndex := 90, descriptorIndex := 105, attributes := #[] }] 48 4 #[] #[{ accessFlags := 4120, nameIndex := 121, descriptorIndex := 122, attributes := #[] }])
  fields := #[{ name := "$assertionsDisabled", type := .boolean, accessFlags := 4120, slot := 0, constantValue := 0 }]
  methods := #[k32m0, k32m1, k32m2]
  instanceTypes := #[]
  staticTypes := #[.boolean]
  resolved := Array.replicate 395 none
  statics := none }

def pool33 : Array CpInfo := pool [(2, .class_ 4), (1, u "java/lang/Object"), (0, u "<init>"), (0, u "()V"), (17, .class_ 26), (1, u "jdk/internal/util/Preconditions"), (6, u "checkIndex"), (21, .class_ 56), (0, u "jdk/internal/util/Preconditions$4"), (57, .class_ 115), (0, u "jdk/internal/util/Preconditions$1"), (7, u "SIOOBE_FORMATTER"), (0, u "Ljava/util/function/BiFunction;"), (0, .class_ 126), (0, u "jdk/internal/util/Preconditions$2"), (3, u "AIOOBE_FORMATTER"), (0, .class_ 132), (0, u "jdk/internal/util/Preconditions$3"), (3, u "IOOBE_FORMATTER"), (41, u "(IILjava/util/function/BiFunction;)I")] 15

def k33m0 : Method := { name := "<init>", desc := "()V", sig := { parameters := [], returnType := none }, accessFlags := 1, code := none }
def k33c1 : Code := { maxStack := 3, maxLocals := 3, code := jdk_41_method_11_code, exceptionTable := #[], attributes := #[] }
def k33m1 : Method := { name := "checkIndex", desc := "(IILjava/util/function/BiFunction;)I", sig := { parameters := [.int, .int, (.object "java/util/function/BiFunction")], returnType := some .int }, accessFlags := 9, code := some k33c1 }
/-- jdk/internal/util/Preconditions -/
def k33 : Class := { plain "jdk/internal/util/Preconditions" (some 0) with
  accessFlags := 33
  interfaces := #[]
  cf := some (fileOf pool33 24 #[.nestMembers #[55, 131, 125, 114]] #[{ accessFlags := 1, nameIndex := 5, descriptorIndex := 6, attributes := #[] }, { accessFlags := 9, nameIndex := 33, descriptorIndex := 178, attributes := #[] }] 33 2 #[] #[{ accessFlags := 25, nameIndex := 123, descriptorIndex := 124, attributes := #[] }, { accessFlags := 25, nameIndex := 130, descriptorIndex := 124, attributes := #[] }, { accessFlags := 25, nameIndex := 136, descriptorIndex := 124, attributes := #[] }])
  fields := #[{ name := "SIOOBE_FORMATTER", type := (.object "java/util/function/BiFunction"), accessFlags := 25, slot := 0, constantValue := 0 }, { name := "AIOOBE_FORMATTER", type := (.object "java/util/function/BiFunction"), accessFlags := 25, slot := 1, constantValue := 0 }, { name := "IOOBE_FORMATTER", type := (.object "java/util/function/BiFunction"), accessFlags := 25, slot := 2, constantValue := 0 }]
  methods := #[k33m0, k33m1]
  instanceTypes := #[]
  staticTypes := #[(.object "java/util/function/BiFunction"), (.object "java/util/function/BiFunction"), (.object "java/util/function/BiFunction")]
  resolved := Array.replicate 194 none
  statics := some 3 }

def pool34 : Array CpInfo := pool [(6, .class_ 8), (1, u "java/lang/Object"), (0, u "<init>"), (0, u "()V"), (1, .class_ 14), (1, u "java/lang/StringUTF16"), (31, u "$assertionsDisabled"), (0, u "Z"), (13, u "HI_BYTE_SHIFT"), (0, u "I"), (2, u "LO_BYTE_SHIFT"), (49, .methodref 12 116), (0, .nameAndType 117 118), (0, u "compress"), (0, u "([CI[BII)I"), (3, u "([CII)[B"), (138, u "coderFromArrayLen"), (0, u "([BI)B"), (106, .class_ 371), (1, u "java/lang/StringUTF16$LinesSpliterator"), (58, u "MAX_LENGTH"), (196, .class_ 628), (0, u "java/lang/StringUTF16$CodePointsSpliterator"), (0, .class_ 630), (0, u "java/lang/StringUTF16$CharsSpliterator")] 4

def k34m0 : Method := { name := "<init>", desc := "()V", sig := { parameters := [], returnType := none }, accessFlags := 0, code := none }
def k34c1 : Code := { maxStack := 2, maxLocals := 2, code := jdk_52_method_15_code, exceptionTable := #[], attributes := #[] }
def k34m1 : Method := { name := "coderFromArrayLen", desc := "([BI)B", sig := { parameters := [(.array .byte), .int], returnType := some .byte }, accessFlags := 8, code := some k34c1 }
def k34c2 : Code := { maxStack := 5, maxLocals := 6, code := jdk_52_method_16_code, exceptionTable := #[], attributes := #[] }
def k34m2 : Method := { name := "compress", desc := "([CII)[B", sig := { parameters := [(.array .char), .int, .int], returnType := some (.array .byte) }, accessFlags := 9, code := some k34c2 }
def k34c3 : Code := { maxStack := 3, maxLocals := 7, code := jdk_52_method_21_code, exceptionTable := #[], attributes := #[] }
def k34m3 : Method := { name := "compress", desc := "([CI[BII)I", sig := { parameters := [(.array .char), .int, (.array .byte), .int, .int], returnType := some .int }, accessFlags := 9, code := some k34c3 }
/-- java/lang/StringUTF16 -/
def k34 : Class := { plain "java/lang/StringUTF16" (some 0) with
  accessFlags := 48
  interfaces := #[]
  cf := some (fileOf pool34 12 #[.nestMembers #[627, 629, 369]] #[{ accessFlags := 0, nameIndex := 9, descriptorIndex := 10, attributes := #[] }, { accessFlags := 8, nameIndex := 261, descriptorIndex := 262, attributes := #[] }, { accessFlags := 9, nameIndex := 117, descriptorIndex := 122, attributes := #[] }, { accessFlags := 9, nameIndex := 117, descriptorIndex := 118, attributes := #[] }] 48 6 #[] #[{ accessFlags := 26, nameIndex := 61, descriptorIndex := 62, attributes := #[] }, { accessFlags := 26, nameIndex := 65, descriptorIndex := 62, attributes := #[] }, { accessFlags := 24, nameIndex := 430, descriptorIndex := 62, attributes := #[] }, { accessFlags := 4120, nameIndex := 46, descriptorIndex := 47, attributes := #[] }])
  fields := #[{ name := "HI_BYTE_SHIFT", type := .int, accessFlags := 26, slot := 0, constantValue := 0 }, { name := "LO_BYTE_SHIFT", type := .int, accessFlags := 26, slot := 1, constantValue := 0 }, { name := "MAX_LENGTH", type := .int, accessFlags := 24, slot := 2, constantValue := 0 }, { name := "$assertionsDisabled", type := .boolean, accessFlags := 4120, slot := 3, constantValue := 0 }]
  methods := #[k34m0, k34m1, k34m2, k34m3]
  instanceTypes := #[]
  staticTypes := #[.int, .int, .int, .boolean]
  resolved := Array.replicate 635 none
  statics := none }

def pool35 : Array CpInfo := pool [(2, .class_ 4), (1, u "java/lang/Object"), (0, u "<init>"), (0, u "()V"), (35, .class_ 44), (1, u "java/util/Objects"), (0, u "requireNonNull"), (0, u "(Ljava/lang/Object;)Ljava/lang/Object;")] 137

def k35m0 : Method := { name := "<init>", desc := "()V", sig := { parameters := [], returnType := none }, accessFlags := 2, code := none }
def k35c1 : Code := { maxStack := 2, maxLocals := 1, code := jdk_31_method_10_code, exceptionTable := #[], attributes := #[] }
def k35m1 : Method := { name := "requireNonNull", desc := "(Ljava/lang/Object;)Ljava/lang/Object;", sig := { parameters := [(.object "java/lang/Object")], returnType := some (.object "java/lang/Object") }, accessFlags := 9, code := some k35c1 }
/-- java/util/Objects -/
def k35 : Class := { plain "java/util/Objects" (some 0) with
  accessFlags := 49
  interfaces := #[]
  cf := some (fileOf pool35 42 #[] #[{ accessFlags := 2, nameIndex := 5, descriptorIndex := 6, attributes := #[] }, { accessFlags := 9, nameIndex := 45, descriptorIndex := 46, attributes := #[] }] 49 2 #[] #[])
  fields := #[]
  methods := #[k35m0, k35m1]
  instanceTypes := #[]
  staticTypes := #[]
  resolved := Array.replicate 184 none
  statics := none }

def pool36 : Array CpInfo := pool [(9, u "<init>"), (6, .class_ 18), (1, u "java/lang/Object"), (0, u "()V"), (1, .class_ 23), (1, u "jdk/internal/util/ArraysSupport"), (0, u "LOG2_ARRAY_LONG_INDEX_SCALE"), (0, u "I"), (2, u "U"), (0, u "Ljdk/internal/misc/Unsafe;"), (8, u "BIG_ENDIAN"), (0, u "Z"), (8, u "LOG2_BYTE_BIT_SIZE"), (4, u "LOG2_ARRAY_INT_INDEX_SCALE"), (54, u "JLA"), (0, u "Ljdk/internal/access/JavaLangAccess;"), (11, u "LOG2_ARRAY_BOOLEAN_INDEX_SCALE"), (9, u "LOG2_ARRAY_BYTE_INDEX_SCALE"), (5, u "LOG2_ARRAY_CHAR_INDEX_SCALE"), (5, u "LOG2_ARRAY_SHORT_INDEX_SCALE"), (18, u "LOG2_ARRAY_FLOAT_INDEX_SCALE"), (24, u "LOG2_ARRAY_DOUBLE_INDEX_SCALE"), (89, u "T_BOOLEAN"), (2, u "T_CHAR"), (1, u "T_FLOAT"), (1, u "T_DOUBLE"), (1, u "T_BYTE"), (1, u "T_SHORT"), (1, u "T_INT"), (1, u "T_LONG"), (1, u "SOFT_MAX_ARRAY_LENGTH")] 83

def k36m0 : Method := { name := "<init>", desc := "()V", sig := { parameters := [], returnType := none }, accessFlags := 2, code := none }
/-- jdk/internal/util/ArraysSupport -/
def k36 : Class := { plain "jdk/internal/util/ArraysSupport" (some 0) with
  accessFlags := 33
  interfaces := #[]
  cf := some (fileOf pool36 21 #[] #[{ accessFlags := 2, nameIndex := 9, descriptorIndex := 19, attributes := #[] }] 33 16 #[] #[{ accessFlags := 24, nameIndex := 28, descriptorIndex := 29, attributes := #[] }, { accessFlags := 26, nameIndex := 38, descriptorIndex := 39, attributes := #[] }, { accessFlags := 25, nameIndex := 121, descriptorIndex := 25, attributes := #[] }, { accessFlags := 25, nameIndex := 131, descriptorIndex := 25, attributes := #[] }, { accessFlags := 25, nameIndex := 137, descriptorIndex := 25, attributes := #[] }, { accessFlags := 25, nameIndex := 143, descriptorIndex := 25, attributes := #[] }, { accessFlags := 25, nameIndex := 53, descriptorIndex := 25, attributes := #[] }, { accessFlags := 25, nameIndex := 24, descriptorIndex := 25, attributes := #[] }, { accessFlags := 25, nameIndex := 162, descriptorIndex := 25, attributes := #[] }, { accessFlags := 25, nameIndex := 187, descriptorIndex := 25, attributes := #[] }, { accessFlags := 26, nameIndex := 48, descriptorIndex := 25, attributes := #[] }, { accessFlags := 25, nameIndex := 277, descriptorIndex := 25, attributes := #[] }, { accessFlags := 25, nameIndex := 280, descriptorIndex := 25, attributes := #[] }, { accessFlags := 25, nameIndex := 282, descriptorIndex := 25, attributes := #[] }, { accessFlags := 25, nameIndex := 284, descriptorIndex := 25, attributes := #[] }, { accessFlags := 25, nameIndex := 286, descriptorIndex := 25, attributes := #[] }, { accessFlags := 25, nameIndex := 288, descriptorIndex := 25, attributes := #[] }, { accessFlags := 25, nameIndex := 290, descriptorIndex := 25, attributes := #[] }, { accessFlags := 25, nameIndex := 292, descriptorIndex := 25, attributes := #[] }, { accessFlags := 26, nameIndex := 108, descriptorIndex := 109, attributes := #[] }, { accessFlags := 25, nameIndex := 294, descriptorIndex := 25, attributes := #[] }])
  fields := #[{ name := "U", type := (.object "jdk/internal/misc/Unsafe"), accessFlags := 24, slot := 0, constantValue := 0 }, { name := "BIG_ENDIAN", type := .boolean, accessFlags := 26, slot := 1, constantValue := 0 }, { name := "LOG2_ARRAY_BOOLEAN_INDEX_SCALE", type := .int, accessFlags := 25, slot := 2, constantValue := 0 }, { name := "LOG2_ARRAY_BYTE_INDEX_SCALE", type := .int, accessFlags := 25, slot := 3, constantValue := 0 }, { name := "LOG2_ARRAY_CHAR_INDEX_SCALE", type := .int, accessFlags := 25, slot := 4, constantValue := 0 }, { name := "LOG2_ARRAY_SHORT_INDEX_SCALE", type := .int, accessFlags := 25, slot := 5, constantValue := 0 }, { name := "LOG2_ARRAY_INT_INDEX_SCALE", type := .int, accessFlags := 25, slot := 6, constantValue := 0 }, { name := "LOG2_ARRAY_LONG_INDEX_SCALE", type := .int, accessFlags := 25, slot := 7, constantValue := 0 }, { name := "LOG2_ARRAY_FLOAT_INDEX_SCALE", type := .int, accessFlags := 25, slot := 8, constantValue := 0 }, { name := "LOG2_ARRAY_DOUBLE_INDEX_SCALE", type := .int, accessFlags := 25, slot := 9, constantValue := 0 }, { name := "LOG2_BYTE_BIT_SIZE", type := .int, accessFlags := 26, slot := 10, constantValue := 0 }, { name := "T_BOOLEAN", type := .int, accessFlags := 25, slot := 11, constantValue := 0 }, { name := "T_CHAR", type := .int, accessFlags := 25, slot := 12, constantValue := 0 }, { name := "T_FLOAT", type := .int, accessFlags := 25, slot := 13, constantValue := 0 }, { name := "T_DOUBLE", type := .int, accessFlags := 25, slot := 14, constantValue := 0 }, { name := "T_BYTE", type := .int, accessFlags := 25, slot := 15, constantValue := 0 }, { name := "T_SHORT", type := .int, accessFlags := 25, slot := 16, constantValue := 0 }, { name := "T_INT", type := .int, accessFlags := 25, slot := 17, constantValue := 0 }, { name := "T_LONG", type := .int, accessFlags := 25, slot := 18, constantValue := 0 }, { name := "JLA", type := (.object "jdk/internal/access/JavaLangAccess"), accessFlags := 26, slot := 19, constantValue := 0 }, { name := "SOFT_MAX_ARRAY_LENGTH", type := .int, accessFlags := 25, slot := 20, constantValue := 0 }]
  methods := #[k36m0]
  instanceTypes := #[]
  staticTypes := #[(.object "jdk/internal/misc/Unsafe"), .boolean, .int, .int, .int, .int, .int, .int, .int, .int, .int, .int, .int, .int, .int, .int, .int, .int, .int, (.object "jdk/internal/access/JavaLangAccess"), .int]
  resolved := Array.replicate 378 none
  statics := none }

def pool37 : Array CpInfo := pool [(1, u "java/lang/Class"), (0, .class_ 1), (0, u "java/lang/Object"), (0, .class_ 3)] 3

/-- java/lang/Class -/
def k37 : Class := { plain "java/lang/Class" (some 0) with
  accessFlags := 49
  interfaces := #[]
  cf := some (fileOf pool37 2 #[] #[] 49 4 #[] #[])
  fields := #[]
  methods := #[]
  instanceTypes := #[]
  staticTypes := #[]
  resolved := Array.replicate 8 none
  statics := none }

/-- the primitive byte -/
def k38 : Class := { plain "byte" none with kind := .primitive 'B', accessFlags := 0x411 }
/-- [B -/
def k39 : Class := { plain "[B" (some 0) with kind := .array 38 .byte, interfaces := #[15, 2], accessFlags := 1041 }

/-- the primitive char -/
def k40 : Class := { plain "char" none with kind := .primitive 'C', accessFlags := 0x411 }
/-- [C -/
def k41 : Class := { plain "[C" (some 0) with kind := .array 40 .char, interfaces := #[15, 2], accessFlags := 1041 }

/-- the primitive int -/
def k42 : Class := { plain "int" none with kind := .primitive 'I', accessFlags := 0x411 }
/-- [I -/
def k43 : Class := { plain "[I" (some 0) with kind := .array 42 .int, interfaces := #[15, 2], accessFlags := 1041 }

/-- [Ljava/lang/Object; -/
def k44 : Class := { plain "[Ljava/lang/Object;" (some 0) with mirror := some 4, kind := .array 0 (.object "java/lang/Object"), interfaces := #[15, 2], accessFlags := 1041 }

def heap : Heap := #[{ cls := 7, slots := #[.long 0, .int 1, .null, .int 0, .null, .int 0, .int 0], vm := .statics 7 },
  { cls := 16, slots := #[.long 0, .int 0, .ref 5, .ref 5], vm := .statics 16 },
  { cls := 18, slots := #[.long 0, .int 0, .null, .ref 7, .ref 6, .null, .null, .null, .int 0, .int 1], vm := .statics 18 },
  { cls := 33, slots := #[.null, .null, .null], vm := .statics 33 },
  { cls := 37, slots := #[], vm := .mirror 44 },
  { cls := 44, slots := #[], vm := .none },
  { cls := 22, slots := #[.ref 5, .int 0], vm := .none },
  { cls := 0, slots := #[], vm := .none }]
def classes : Array Class := #[k0, k1, k2, k3, k4, k5, k6, k7, k8, k9, k10, k11, k12, k13, k14, k15, k16, k17, k18, k19, k20, k21, k22, k23, k24, k25, k26, k27, k28, k29, k30, k31, k32, k33, k34, k35, k36, k37, k38, k39, k40, k41, k42, k43, k44]
def interned : List (Array UInt16 × Addr) := []
def slotsUsed : Nat := 26
def theMethod : MethodId := ⟨1, 6⟩
def args0 : Array Value := #[.long 5, .long 1, .int 7]
def aboutOver (below : List Frame) : State where
  vm := { classes := classes, interned := interned.toArray }
  heap := heap
  slotsUsed := slotsUsed
  threads := #[{ frames := .invoking theMethod args0 :: below }]
def below0 : List Frame := [.native { method := ⟨0, 0⟩, args := #[] }]
def about1 : State := aboutOver below0
def p0 : Program := .bare "" "" ""
def e0 : Env := launch0.env 0 0 0
theorem w_frames : about1.frames = Frame.invoking theMethod args0 :: below0 := rfl
set_option maxRecDepth 65536 in
theorem w_args : argsFit about1.vm theMethod args0 = true := by decide +kernel
set_option maxRecDepth 65536 in
theorem w_heap : heapFits about1 = true := by decide +kernel
set_option maxRecDepth 65536 in
theorem w_runnable : about1.curStatus? = some .runnable := by decide +kernel
set_option maxRecDepth 65536 in
theorem w_alone : about1.alone = true := by decide +kernel
set_option maxRecDepth 65536 in
theorem w_named : about1.methodNamed? x = some theMethod := by decide +kernel
set_option maxRecDepth 65536 in
theorem w_hears : about1.hears theMethod below0 = true := by decide +kernel
set_option maxRecDepth 65536 in
theorem w_ripe : about1.ripe theMethod args0 below0 = true := by decide +kernel
theorem w_running : about1.status = .running := rfl
set_option maxRecDepth 65536 in
theorem w_room : about1.hasRoom e0.platform room_1 = true :=
  launch0.hasRoom_least _ room_1 (by decide +kernel) (by decide +kernel) (by decide +kernel) (by decide +kernel) (by decide +kernel) (by decide +kernel)
theorem allAtoms_all (ts : List Jvm.Cond) (a : Array Jvm.Value) (st : Jvm.State) : (allAtoms ts).before a st = ts.all (fun c => c.before a st) := by
  induction ts with
  | nil => rfl
  | cons c t ih =>
    show (Jvm.Cond.and c (allAtoms t)).before a st = _
    rw [Jvm.Cond.before_and, ih, List.all_cons]
def words1 : List Jvm.Cond := Jvm.Cond.code x code maxLocals ret :: tables_1
/-- a 'code' word, met by the world's own term for the bytes: nothing is compared byte by byte -/
theorem code_word {y : MethodName} {bytes : ByteArray} {mx : Nat} {rt : Option FieldType} {a : Array Value} {s : State} {m : MethodId} {meth : Method} {c : Code} (h1 : s.methodNamed? y = some m) (h2 : s.vm.method? m = some meth) (h3 : meth.code = some c) (h4 : c.code = bytes)
    (h5 : (c.maxLocals == mx && c.exceptionTable.isEmpty && decide (c.maxStack ≤ mostOperands) && decide (meth.sig.returnType = rt) && !meth.locks && decide (parseMethodDescriptor y.desc = some meth.sig)) = true) : (Jvm.Cond.code y bytes mx rt).before a s = true := by
  simp only [Bool.and_eq_true, beq_iff_eq, Bool.not_eq_true', decide_eq_true_eq] at h5
  obtain ⟨⟨⟨⟨⟨g1, g2⟩, g3⟩, g4⟩, g5⟩, g6⟩ := h5
  simp [Cond.before, Cond.holds, Cond.value, h1, h2, h3, h4, g1, g2, g3, g4, g5, g6]
def isCode : Jvm.Cond → Bool
  | .code _ _ _ _ => true
  | _ => false
theorem all_split {L : List Jvm.Cond} {P : Jvm.Cond → Bool} (h1 : L.all (fun c => isCode c || P c) = true) (h2 : ∀ c ∈ L.filter isCode, P c = true) : L.all P = true := by
  refine List.all_eq_true.mpr fun c hc => ?_
  have h := List.all_eq_true.mp h1 c hc
  rcases Bool.eq_false_or_eq_true (isCode c) with hi | hi
  · exact h2 c (List.mem_filter.mpr ⟨hc, hi⟩)
  · simpa [hi] using h
set_option maxRecDepth 65536 in
theorem w_c0 : (Jvm.Cond.code x code maxLocals ret).before args0 about1 = true := code_word (m := ⟨1, 6⟩) (meth := k1m6) (c := k1c6) (by decide +kernel) rfl rfl rfl (by decide +kernel)
set_option maxRecDepth 65536 in
theorem w_c1 : (Jvm.Cond.code ({ cls := "com/example/simple_rocchio/simplerocchio/CollectionDocumentTextToStringPinLaw", name := "ch", desc := "(JI)C" } : Jvm.MethodName) method_2_code (3 : Nat) (Option.some Jvm.ClassFile.FieldType.char)).before args0 about1 = true := code_word (m := ⟨1, 1⟩) (meth := k1m1) (c := k1c1) (by decide +kernel) rfl rfl rfl (by decide +kernel)
set_option maxRecDepth 65536 in
theorem w_c2 : (Jvm.Cond.code ({ cls := "com/example/simple_rocchio/simplerocchio/CollectionDocumentTextToStringPinLaw", name := "str", desc := "(ICCC)Ljava/lang/String;" } : Jvm.MethodName) method_3_code (4 : Nat) (Option.some (Jvm.ClassFile.FieldType.object "java/lang/String"))).before args0 about1 = true := code_word (m := ⟨1, 2⟩) (meth := k1m2) (c := k1c2) (by decide +kernel) rfl rfl rfl (by decide +kernel)
set_option maxRecDepth 65536 in
theorem w_c3 : (Jvm.Cond.code ({ cls := "java/lang/String", name := "<init>", desc := "([C)V" } : Jvm.MethodName) jdk_42_method_3_code (2 : Nat) (Option.none : Option Jvm.ClassFile.FieldType)).before args0 about1 = true := code_word (m := ⟨7, 1⟩) (meth := k7m1) (c := k7c1) (by decide +kernel) rfl rfl rfl (by decide +kernel)
set_option maxRecDepth 65536 in
theorem w_c4 : (Jvm.Cond.code ({ cls := "java/lang/String", name := "<init>", desc := "([CIILjava/lang/Void;)V" } : Jvm.MethodName) jdk_42_method_149_code (6 : Nat) (Option.none : Option Jvm.ClassFile.FieldType)).before args0 about1 = true := code_word (m := ⟨7, 8⟩) (meth := k7m8) (c := k7c8) (by decide +kernel) rfl rfl rfl (by decide +kernel)
set_option maxRecDepth 65536 in
theorem w_c5 : (Jvm.Cond.code ({ cls := "java/lang/Object", name := "<init>", desc := "()V" } : Jvm.MethodName) object_method_1_code (1 : Nat) (Option.none : Option Jvm.ClassFile.FieldType)).before args0 about1 = true := code_word (m := ⟨0, 0⟩) (meth := k0m0) (c := k0c0) (by decide +kernel) rfl rfl rfl (by decide +kernel)
set_option maxRecDepth 65536 in
theorem w_c6 : (Jvm.Cond.code ({ cls := "java/util/ArrayList", name := "<init>", desc := "()V" } : Jvm.MethodName) jdk_38_method_2_code (1 : Nat) (Option.none : Option Jvm.ClassFile.FieldType)).before args0 about1 = true := code_word (m := ⟨16, 0⟩) (meth := k16m0) (c := k16c0) (by decide +kernel) rfl rfl rfl (by decide +kernel)
set_option maxRecDepth 65536 in
theorem w_c7 : (Jvm.Cond.code ({ cls := "java/util/AbstractList", name := "<init>", desc := "()V" } : Jvm.MethodName) jdk_39_method_1_code (1 : Nat) (Option.none : Option Jvm.ClassFile.FieldType)).before args0 about1 = true := code_word (m := ⟨13, 0⟩) (meth := k13m0) (c := k13c0) (by decide +kernel) rfl rfl rfl (by decide +kernel)
set_option maxRecDepth 65536 in
theorem w_c8 : (Jvm.Cond.code ({ cls := "java/util/AbstractCollection", name := "<init>", desc := "()V" } : Jvm.MethodName) jdk_22_method_1_code (1 : Nat) (Option.none : Option Jvm.ClassFile.FieldType)).before args0 about1 = true := code_word (m := ⟨10, 0⟩) (meth := k10m0) (c := k10c0) (by decide +kernel) rfl rfl rfl (by decide +kernel)
set_option maxRecDepth 65536 in
theorem w_c9 : (Jvm.Cond.code ({ cls := "com/example/simple_rocchio/simplerocchio/CollectionDocument$Text", name := "<init>", desc := "(Ljava/lang/String;Ljava/util/List;)V" } : Jvm.MethodName) prog_3_method_1_code (3 : Nat) (Option.none : Option Jvm.ClassFile.FieldType)).before args0 about1 = true := code_word (m := ⟨17, 0⟩) (meth := k17m0) (c := k17c0) (by decide +kernel) rfl rfl rfl (by decide +kernel)
set_option maxRecDepth 65536 in
theorem w_c10 : (Jvm.Cond.code ({ cls := "java/util/List", name := "copyOf", desc := "(Ljava/util/Collection;)Ljava/util/List;" } : Jvm.MethodName) jdk_40_method_48_code (1 : Nat) (Option.some (Jvm.ClassFile.FieldType.object "java/util/List"))).before args0 about1 = true := code_word (m := ⟨12, 3⟩) (meth := k12m3) (c := k12c3) (by decide +kernel) rfl rfl rfl (by decide +kernel)
set_option maxRecDepth 65536 in
theorem w_c11 : (Jvm.Cond.code ({ cls := "java/util/ImmutableCollections", name := "listCopy", desc := "(Ljava/util/Collection;)Ljava/util/List;" } : Jvm.MethodName) jdk_56_method_3_code (2 : Nat) (Option.some (Jvm.ClassFile.FieldType.object "java/util/List"))).before args0 about1 = true := code_word (m := ⟨18, 1⟩) (meth := k18m1) (c := k18c1) (by decide +kernel) rfl rfl rfl (by decide +kernel)
set_option maxRecDepth 65536 in
theorem w_c12 : (Jvm.Cond.code ({ cls := "java/util/ArrayList", name := "isEmpty", desc := "()Z" } : Jvm.MethodName) jdk_38_method_9_code (1 : Nat) (Option.some Jvm.ClassFile.FieldType.boolean)).before args0 about1 = true := code_word (m := ⟨16, 3⟩) (meth := k16m3) (c := k16c3) (by decide +kernel) rfl rfl rfl (by decide +kernel)
set_option maxRecDepth 65536 in
theorem w_c13 : (Jvm.Cond.code ({ cls := "java/util/List", name := "of", desc := "()Ljava/util/List;" } : Jvm.MethodName) jdk_40_method_36_code (0 : Nat) (Option.some (Jvm.ClassFile.FieldType.object "java/util/List"))).before args0 about1 = true := code_word (m := ⟨12, 1⟩) (meth := k12m1) (c := k12c1) (by decide +kernel) rfl rfl rfl (by decide +kernel)
set_option maxRecDepth 65536 in
theorem w_c14 : (Jvm.Cond.code ({ cls := "com/example/simple_rocchio/simplerocchio/CollectionDocument$Text", name := "toString", desc := "()Ljava/lang/String;" } : Jvm.MethodName) prog_3_method_6_code (1 : Nat) (Option.some (Jvm.ClassFile.FieldType.object "java/lang/String"))).before args0 about1 = true := code_word (m := ⟨17, 1⟩) (meth := k17m1) (c := k17c1) (by decide +kernel) rfl rfl rfl (by decide +kernel)
set_option maxRecDepth 65536 in
theorem w_c15 : (Jvm.Cond.code ({ cls := "java/lang/StringBuilder", name := "<init>", desc := "()V" } : Jvm.MethodName) jdk_67_method_1_code (1 : Nat) (Option.none : Option Jvm.ClassFile.FieldType)).before args0 about1 = true := code_word (m := ⟨25, 0⟩) (meth := k25m0) (c := k25c0) (by decide +kernel) rfl rfl rfl (by decide +kernel)
set_option maxRecDepth 65536 in
theorem w_c16 : (Jvm.Cond.code ({ cls := "java/lang/AbstractStringBuilder", name := "<init>", desc := "(I)V" } : Jvm.MethodName) jdk_68_method_2_code (2 : Nat) (Option.none : Option Jvm.ClassFile.FieldType)).before args0 about1 = true := code_word (m := ⟨24, 1⟩) (meth := k24m1) (c := k24c1) (by decide +kernel) rfl rfl rfl (by decide +kernel)
set_option maxRecDepth 65536 in
theorem w_c17 : (Jvm.Cond.code ({ cls := "java/lang/StringBuilder", name := "append", desc := "(Ljava/lang/Object;)Ljava/lang/StringBuilder;" } : Jvm.MethodName) jdk_67_method_6_code (2 : Nat) (Option.some (Jvm.ClassFile.FieldType.object "java/lang/StringBuilder"))).before args0 about1 = true := code_word (m := ⟨25, 1⟩) (meth := k25m1) (c := k25c1) (by decide +kernel) rfl rfl rfl (by decide +kernel)
set_option maxRecDepth 65536 in
theorem w_c18 : (Jvm.Cond.code ({ cls := "java/lang/String", name := "valueOf", desc := "(Ljava/lang/Object;)Ljava/lang/String;" } : Jvm.MethodName) jdk_42_method_133_code (1 : Nat) (Option.some (Jvm.ClassFile.FieldType.object "java/lang/String"))).before args0 about1 = true := code_word (m := ⟨7, 6⟩) (meth := k7m6) (c := k7c6) (by decide +kernel) rfl rfl rfl (by decide +kernel)
set_option maxRecDepth 65536 in
theorem w_c19 : (Jvm.Cond.code ({ cls := "java/util/AbstractCollection", name := "toString", desc := "()Ljava/lang/String;" } : Jvm.MethodName) jdk_22_method_16_code (4 : Nat) (Option.some (Jvm.ClassFile.FieldType.object "java/lang/String"))).before args0 about1 = true := code_word (m := ⟨10, 3⟩) (meth := k10m3) (c := k10c3) (by decide +kernel) rfl rfl rfl (by decide +kernel)
set_option maxRecDepth 65536 in
theorem w_c20 : (Jvm.Cond.code ({ cls := "java/util/ImmutableCollections$AbstractImmutableList", name := "iterator", desc := "()Ljava/util/Iterator;" } : Jvm.MethodName) jdk_46_method_10_code (1 : Nat) (Option.some (Jvm.ClassFile.FieldType.object "java/util/Iterator"))).before args0 about1 = true := code_word (m := ⟨20, 1⟩) (meth := k20m1) (c := k20c1) (by decide +kernel) rfl rfl rfl (by decide +kernel)
set_option maxRecDepth 65536 in
theorem w_c21 : (Jvm.Cond.code ({ cls := "java/util/ImmutableCollections$ListN", name := "size", desc := "()I" } : Jvm.MethodName) jdk_45_method_3_code (1 : Nat) (Option.some Jvm.ClassFile.FieldType.int)).before args0 about1 = true := code_word (m := ⟨22, 0⟩) (meth := k22m0) (c := k22c0) (by decide +kernel) rfl rfl rfl (by decide +kernel)
set_option maxRecDepth 65536 in
theorem w_c22 : (Jvm.Cond.code ({ cls := "java/util/ImmutableCollections$ListItr", name := "<init>", desc := "(Ljava/util/List;I)V" } : Jvm.MethodName) jdk_53_method_1_code (3 : Nat) (Option.none : Option Jvm.ClassFile.FieldType)).before args0 about1 = true := code_word (m := ⟨28, 0⟩) (meth := k28m0) (c := k28c0) (by decide +kernel) rfl rfl rfl (by decide +kernel)
set_option maxRecDepth 65536 in
theorem w_c23 : (Jvm.Cond.code ({ cls := "java/util/ImmutableCollections$ListItr", name := "hasNext", desc := "()Z" } : Jvm.MethodName) jdk_53_method_3_code (1 : Nat) (Option.some Jvm.ClassFile.FieldType.boolean)).before args0 about1 = true := code_word (m := ⟨28, 1⟩) (meth := k28m1) (c := k28c1) (by decide +kernel) rfl rfl rfl (by decide +kernel)
set_option maxRecDepth 65536 in
theorem w_c24 : (Jvm.Cond.code ({ cls := "java/lang/StringBuilder", name := "append", desc := "(Ljava/lang/String;)Ljava/lang/StringBuilder;" } : Jvm.MethodName) jdk_67_method_7_code (2 : Nat) (Option.some (Jvm.ClassFile.FieldType.object "java/lang/StringBuilder"))).before args0 about1 = true := code_word (m := ⟨25, 2⟩) (meth := k25m2) (c := k25c2) (by decide +kernel) rfl rfl rfl (by decide +kernel)
set_option maxRecDepth 65536 in
theorem w_c25 : (Jvm.Cond.code ({ cls := "java/lang/AbstractStringBuilder", name := "append", desc := "(Ljava/lang/String;)Ljava/lang/AbstractStringBuilder;" } : Jvm.MethodName) jdk_68_method_22_code (3 : Nat) (Option.some (Jvm.ClassFile.FieldType.object "java/lang/AbstractStringBuilder"))).before args0 about1 = true := code_word (m := ⟨24, 4⟩) (meth := k24m4) (c := k24c4) (by decide +kernel) rfl rfl rfl (by decide +kernel)
set_option maxRecDepth 65536 in
theorem w_c26 : (Jvm.Cond.code ({ cls := "java/lang/String", name := "length", desc := "()I" } : Jvm.MethodName) jdk_42_method_54_code (1 : Nat) (Option.some Jvm.ClassFile.FieldType.int)).before args0 about1 = true := code_word (m := ⟨7, 3⟩) (meth := k7m3) (c := k7c3) (by decide +kernel) rfl rfl rfl (by decide +kernel)
set_option maxRecDepth 65536 in
theorem w_c27 : (Jvm.Cond.code ({ cls := "java/lang/String", name := "coder", desc := "()B" } : Jvm.MethodName) jdk_42_method_152_code (1 : Nat) (Option.some Jvm.ClassFile.FieldType.byte)).before args0 about1 = true := code_word (m := ⟨7, 10⟩) (meth := k7m10) (c := k7c10) (by decide +kernel) rfl rfl rfl (by decide +kernel)
set_option maxRecDepth 65536 in
theorem w_c28 : (Jvm.Cond.code ({ cls := "java/lang/AbstractStringBuilder", name := "ensureCapacityInternal", desc := "(I)V" } : Jvm.MethodName) jdk_68_method_9_code (3 : Nat) (Option.none : Option Jvm.ClassFile.FieldType)).before args0 about1 = true := code_word (m := ⟨24, 3⟩) (meth := k24m3) (c := k24c3) (by decide +kernel) rfl rfl rfl (by decide +kernel)
set_option maxRecDepth 65536 in
theorem w_c29 : (Jvm.Cond.code ({ cls := "java/lang/AbstractStringBuilder", name := "putStringAt", desc := "(ILjava/lang/String;)V" } : Jvm.MethodName) jdk_68_method_73_code (3 : Nat) (Option.none : Option Jvm.ClassFile.FieldType)).before args0 about1 = true := code_word (m := ⟨24, 9⟩) (meth := k24m9) (c := k24c9) (by decide +kernel) rfl rfl rfl (by decide +kernel)
set_option maxRecDepth 65536 in
theorem w_c30 : (Jvm.Cond.code ({ cls := "java/lang/AbstractStringBuilder", name := "inflateIfNeededFor", desc := "(Ljava/lang/String;)V" } : Jvm.MethodName) jdk_68_method_71_code (2 : Nat) (Option.none : Option Jvm.ClassFile.FieldType)).before args0 about1 = true := code_word (m := ⟨24, 8⟩) (meth := k24m8) (c := k24c8) (by decide +kernel) rfl rfl rfl (by decide +kernel)
set_option maxRecDepth 65536 in
theorem w_c31 : (Jvm.Cond.code ({ cls := "java/lang/String", name := "getBytes", desc := "([BIB)V" } : Jvm.MethodName) jdk_42_method_147_code (4 : Nat) (Option.none : Option Jvm.ClassFile.FieldType)).before args0 about1 = true := code_word (m := ⟨7, 7⟩) (meth := k7m7) (c := k7c7) (by decide +kernel) rfl rfl rfl (by decide +kernel)
set_option maxRecDepth 65536 in
theorem w_c32 : (Jvm.Cond.code ({ cls := "java/lang/StringBuilder", name := "toString", desc := "()Ljava/lang/String;" } : Jvm.MethodName) jdk_67_method_42_code (1 : Nat) (Option.some (Jvm.ClassFile.FieldType.object "java/lang/String"))).before args0 about1 = true := code_word (m := ⟨25, 4⟩) (meth := k25m4) (c := k25c4) (by decide +kernel) rfl rfl rfl (by decide +kernel)
set_option maxRecDepth 65536 in
theorem w_c33 : (Jvm.Cond.code ({ cls := "java/lang/String", name := "<init>", desc := "(Ljava/lang/StringBuilder;)V" } : Jvm.MethodName) jdk_42_method_53_code (2 : Nat) (Option.none : Option Jvm.ClassFile.FieldType)).before args0 about1 = true := code_word (m := ⟨7, 2⟩) (meth := k7m2) (c := k7c2) (by decide +kernel) rfl rfl rfl (by decide +kernel)
set_option maxRecDepth 65536 in
theorem w_c34 : (Jvm.Cond.code ({ cls := "java/lang/String", name := "<init>", desc := "(Ljava/lang/AbstractStringBuilder;Ljava/lang/Void;)V" } : Jvm.MethodName) jdk_42_method_150_code (5 : Nat) (Option.none : Option Jvm.ClassFile.FieldType)).before args0 about1 = true := code_word (m := ⟨7, 9⟩) (meth := k7m9) (c := k7c9) (by decide +kernel) rfl rfl rfl (by decide +kernel)
set_option maxRecDepth 65536 in
theorem w_c35 : (Jvm.Cond.code ({ cls := "java/lang/AbstractStringBuilder", name := "getValue", desc := "()[B" } : Jvm.MethodName) jdk_68_method_64_code (1 : Nat) (Option.some (Jvm.ClassFile.FieldType.array Jvm.ClassFile.FieldType.byte))).before args0 about1 = true := code_word (m := ⟨24, 6⟩) (meth := k24m6) (c := k24c6) (by decide +kernel) rfl rfl rfl (by decide +kernel)
set_option maxRecDepth 65536 in
theorem w_c36 : (Jvm.Cond.code ({ cls := "java/lang/StringBuilder", name := "length", desc := "()I" } : Jvm.MethodName) jdk_67_method_93_code (1 : Nat) (Option.some Jvm.ClassFile.FieldType.int)).before args0 about1 = true := code_word (m := ⟨25, 5⟩) (meth := k25m5) (c := k25c5) (by decide +kernel) rfl rfl rfl (by decide +kernel)
set_option maxRecDepth 65536 in
theorem w_c37 : (Jvm.Cond.code ({ cls := "java/lang/AbstractStringBuilder", name := "length", desc := "()I" } : Jvm.MethodName) jdk_68_method_6_code (1 : Nat) (Option.some Jvm.ClassFile.FieldType.int)).before args0 about1 = true := code_word (m := ⟨24, 2⟩) (meth := k24m2) (c := k24c2) (by decide +kernel) rfl rfl rfl (by decide +kernel)
set_option maxRecDepth 65536 in
theorem w_c38 : (Jvm.Cond.code ({ cls := "java/lang/AbstractStringBuilder", name := "isLatin1", desc := "()Z" } : Jvm.MethodName) jdk_68_method_68_code (1 : Nat) (Option.some Jvm.ClassFile.FieldType.boolean)).before args0 about1 = true := code_word (m := ⟨24, 7⟩) (meth := k24m7) (c := k24c7) (by decide +kernel) rfl rfl rfl (by decide +kernel)
set_option maxRecDepth 65536 in
theorem w_c39 : (Jvm.Cond.code ({ cls := "java/util/Arrays", name := "copyOfRange", desc := "([BII)[B" } : Jvm.MethodName) jdk_65_method_132_code (3 : Nat) (Option.some (Jvm.ClassFile.FieldType.array Jvm.ClassFile.FieldType.byte))).before args0 about1 = true := code_word (m := ⟨30, 4⟩) (meth := k30m4) (c := k30c4) (by decide +kernel) rfl rfl rfl (by decide +kernel)
set_option maxRecDepth 65536 in
theorem w_c40 : (Jvm.Cond.code ({ cls := "java/util/Arrays", name := "copyOfRangeByte", desc := "([BII)[B" } : Jvm.MethodName) jdk_65_method_133_code (5 : Nat) (Option.some (Jvm.ClassFile.FieldType.array Jvm.ClassFile.FieldType.byte))).before args0 about1 = true := code_word (m := ⟨30, 5⟩) (meth := k30m5) (c := k30c5) (by decide +kernel) rfl rfl rfl (by decide +kernel)
set_option maxRecDepth 65536 in
theorem w_c41 : (Jvm.Cond.code ({ cls := "java/util/Arrays", name := "checkLength", desc := "(II)V" } : Jvm.MethodName) jdk_65_method_131_code (2 : Nat) (Option.none : Option Jvm.ClassFile.FieldType)).before args0 about1 = true := code_word (m := ⟨30, 3⟩) (meth := k30m3) (c := k30c3) (by decide +kernel) rfl rfl rfl (by decide +kernel)
set_option maxRecDepth 65536 in
theorem w_c42 : (Jvm.Cond.code ({ cls := "java/lang/Math", name := "min", desc := "(II)I" } : Jvm.MethodName) jdk_29_method_69_code (2 : Nat) (Option.some Jvm.ClassFile.FieldType.int)).before args0 about1 = true := code_word (m := ⟨31, 2⟩) (meth := k31m2) (c := k31c2) (by decide +kernel) rfl rfl rfl (by decide +kernel)
set_option maxRecDepth 65536 in
theorem w_c43 : (Jvm.Cond.code ({ cls := "com/example/simple_rocchio/simplerocchio/CollectionDocumentTextToStringPinLaw", name := "put", desc := "([CIC)I" } : Jvm.MethodName) method_4_code (3 : Nat) (Option.some Jvm.ClassFile.FieldType.int)).before args0 about1 = true := code_word (m := ⟨1, 3⟩) (meth := k1m3) (c := k1c3) (by decide +kernel) rfl rfl rfl (by decide +kernel)
set_option maxRecDepth 65536 in
theorem w_c44 : (Jvm.Cond.code ({ cls := "com/example/simple_rocchio/simplerocchio/CollectionDocumentTextToStringPinLaw", name := "putStr", desc := "([CIICCC)I" } : Jvm.MethodName) method_5_code (7 : Nat) (Option.some Jvm.ClassFile.FieldType.int)).before args0 about1 = true := code_word (m := ⟨1, 4⟩) (meth := k1m4) (c := k1c4) (by decide +kernel) rfl rfl rfl (by decide +kernel)
set_option maxRecDepth 65536 in
theorem w_c45 : (Jvm.Cond.code ({ cls := "com/example/simple_rocchio/simplerocchio/CollectionDocumentTextToStringPinLaw", name := "at", desc := "(Ljava/lang/String;[CII)Z" } : Jvm.MethodName) method_6_code (4 : Nat) (Option.some Jvm.ClassFile.FieldType.boolean)).before args0 about1 = true := code_word (m := ⟨1, 5⟩) (meth := k1m5) (c := k1c5) (by decide +kernel) rfl rfl rfl (by decide +kernel)
set_option maxRecDepth 65536 in
theorem w_c46 : (Jvm.Cond.code ({ cls := "java/lang/String", name := "charAt", desc := "(I)C" } : Jvm.MethodName) jdk_42_method_56_code (2 : Nat) (Option.some Jvm.ClassFile.FieldType.char)).before args0 about1 = true := code_word (m := ⟨7, 4⟩) (meth := k7m4) (c := k7c4) (by decide +kernel) rfl rfl rfl (by decide +kernel)
set_option maxRecDepth 65536 in
theorem w_c47 : (Jvm.Cond.code ({ cls := "java/lang/String", name := "isLatin1", desc := "()Z" } : Jvm.MethodName) jdk_42_method_154_code (1 : Nat) (Option.some Jvm.ClassFile.FieldType.boolean)).before args0 about1 = true := code_word (m := ⟨7, 11⟩) (meth := k7m11) (c := k7c11) (by decide +kernel) rfl rfl rfl (by decide +kernel)
set_option maxRecDepth 65536 in
theorem w_c48 : (Jvm.Cond.code ({ cls := "java/lang/StringLatin1", name := "charAt", desc := "([BI)C" } : Jvm.MethodName) jdk_43_method_2_code (2 : Nat) (Option.some Jvm.ClassFile.FieldType.char)).before args0 about1 = true := code_word (m := ⟨32, 1⟩) (meth := k32m1) (c := k32c1) (by decide +kernel) rfl rfl rfl (by decide +kernel)
set_option maxRecDepth 65536 in
theorem w_c49 : (Jvm.Cond.code ({ cls := "java/lang/String", name := "checkIndex", desc := "(II)V" } : Jvm.MethodName) jdk_42_method_155_code (2 : Nat) (Option.none : Option Jvm.ClassFile.FieldType)).before args0 about1 = true := code_word (m := ⟨7, 12⟩) (meth := k7m12) (c := k7c12) (by decide +kernel) rfl rfl rfl (by decide +kernel)
set_option maxRecDepth 65536 in
theorem w_c50 : (Jvm.Cond.code ({ cls := "jdk/internal/util/Preconditions", name := "checkIndex", desc := "(IILjava/util/function/BiFunction;)I" } : Jvm.MethodName) jdk_41_method_11_code (3 : Nat) (Option.some Jvm.ClassFile.FieldType.int)).before args0 about1 = true := code_word (m := ⟨33, 1⟩) (meth := k33m1) (c := k33c1) (by decide +kernel) rfl rfl rfl (by decide +kernel)
set_option maxRecDepth 65536 in
theorem w_c51 : (Jvm.Cond.code ({ cls := "java/lang/StringUTF16", name := "compress", desc := "([CII)[B" } : Jvm.MethodName) jdk_52_method_16_code (6 : Nat) (Option.some (Jvm.ClassFile.FieldType.array Jvm.ClassFile.FieldType.byte))).before args0 about1 = true := code_word (m := ⟨34, 2⟩) (meth := k34m2) (c := k34c2) (by decide +kernel) rfl rfl rfl (by decide +kernel)
set_option maxRecDepth 65536 in
theorem w_c52 : (Jvm.Cond.code ({ cls := "java/lang/StringUTF16", name := "compress", desc := "([CI[BII)I" } : Jvm.MethodName) jdk_52_method_21_code (7 : Nat) (Option.some Jvm.ClassFile.FieldType.int)).before args0 about1 = true := code_word (m := ⟨34, 3⟩) (meth := k34m3) (c := k34c3) (by decide +kernel) rfl rfl rfl (by decide +kernel)
set_option maxRecDepth 65536 in
theorem w_c53 : (Jvm.Cond.code ({ cls := "java/lang/StringUTF16", name := "coderFromArrayLen", desc := "([BI)B" } : Jvm.MethodName) jdk_52_method_15_code (2 : Nat) (Option.some Jvm.ClassFile.FieldType.byte)).before args0 about1 = true := code_word (m := ⟨34, 1⟩) (meth := k34m1) (c := k34c1) (by decide +kernel) rfl rfl rfl (by decide +kernel)
set_option maxRecDepth 65536 in
theorem w_c54 : (Jvm.Cond.code ({ cls := "java/util/ArrayList", name := "add", desc := "(Ljava/lang/Object;)Z" } : Jvm.MethodName) jdk_38_method_25_code (2 : Nat) (Option.some Jvm.ClassFile.FieldType.boolean)).before args0 about1 = true := code_word (m := ⟨16, 6⟩) (meth := k16m6) (c := k16c6) (by decide +kernel) rfl rfl rfl (by decide +kernel)
set_option maxRecDepth 65536 in
theorem w_c55 : (Jvm.Cond.code ({ cls := "java/util/ArrayList", name := "add", desc := "(Ljava/lang/Object;[Ljava/lang/Object;I)V" } : Jvm.MethodName) jdk_38_method_24_code (4 : Nat) (Option.none : Option Jvm.ClassFile.FieldType)).before args0 about1 = true := code_word (m := ⟨16, 5⟩) (meth := k16m5) (c := k16c5) (by decide +kernel) rfl rfl rfl (by decide +kernel)
set_option maxRecDepth 65536 in
theorem w_c56 : (Jvm.Cond.code ({ cls := "java/util/ArrayList", name := "grow", desc := "()[Ljava/lang/Object;" } : Jvm.MethodName) jdk_38_method_7_code (1 : Nat) (Option.some (Jvm.ClassFile.FieldType.array (Jvm.ClassFile.FieldType.object "java/lang/Object")))).before args0 about1 = true := code_word (m := ⟨16, 2⟩) (meth := k16m2) (c := k16c2) (by decide +kernel) rfl rfl rfl (by decide +kernel)
set_option maxRecDepth 65536 in
theorem w_c57 : (Jvm.Cond.code ({ cls := "java/util/ArrayList", name := "grow", desc := "(I)[Ljava/lang/Object;" } : Jvm.MethodName) jdk_38_method_6_code (4 : Nat) (Option.some (Jvm.ClassFile.FieldType.array (Jvm.ClassFile.FieldType.object "java/lang/Object")))).before args0 about1 = true := code_word (m := ⟨16, 1⟩) (meth := k16m1) (c := k16c1) (by decide +kernel) rfl rfl rfl (by decide +kernel)
set_option maxRecDepth 65536 in
theorem w_c58 : (Jvm.Cond.code ({ cls := "java/lang/Math", name := "max", desc := "(II)I" } : Jvm.MethodName) jdk_29_method_65_code (2 : Nat) (Option.some Jvm.ClassFile.FieldType.int)).before args0 about1 = true := code_word (m := ⟨31, 1⟩) (meth := k31m1) (c := k31c1) (by decide +kernel) rfl rfl rfl (by decide +kernel)
set_option maxRecDepth 65536 in
theorem w_c59 : (Jvm.Cond.code ({ cls := "java/util/ArrayList", name := "toArray", desc := "()[Ljava/lang/Object;" } : Jvm.MethodName) jdk_38_method_16_code (1 : Nat) (Option.some (Jvm.ClassFile.FieldType.array (Jvm.ClassFile.FieldType.object "java/lang/Object")))).before args0 about1 = true := code_word (m := ⟨16, 4⟩) (meth := k16m4) (c := k16c4) (by decide +kernel) rfl rfl rfl (by decide +kernel)
set_option maxRecDepth 65536 in
theorem w_c60 : (Jvm.Cond.code ({ cls := "java/util/Arrays", name := "copyOf", desc := "([Ljava/lang/Object;I)[Ljava/lang/Object;" } : Jvm.MethodName) jdk_65_method_119_code (2 : Nat) (Option.some (Jvm.ClassFile.FieldType.array (Jvm.ClassFile.FieldType.object "java/lang/Object")))).before args0 about1 = true := code_word (m := ⟨30, 1⟩) (meth := k30m1) (c := k30c1) (by decide +kernel) rfl rfl rfl (by decide +kernel)
set_option maxRecDepth 65536 in
theorem w_c61 : (Jvm.Cond.code ({ cls := "java/util/Arrays", name := "copyOf", desc := "([Ljava/lang/Object;ILjava/lang/Class;)[Ljava/lang/Object;" } : Jvm.MethodName) jdk_65_method_120_code (4 : Nat) (Option.some (Jvm.ClassFile.FieldType.array (Jvm.ClassFile.FieldType.object "java/lang/Object")))).before args0 about1 = true := code_word (m := ⟨30, 2⟩) (meth := k30m2) (c := k30c2) (by decide +kernel) rfl rfl rfl (by decide +kernel)
set_option maxRecDepth 65536 in
theorem w_c62 : (Jvm.Cond.code ({ cls := "java/util/List", name := "of", desc := "([Ljava/lang/Object;)Ljava/util/List;" } : Jvm.MethodName) jdk_40_method_47_code (2 : Nat) (Option.some (Jvm.ClassFile.FieldType.object "java/util/List"))).before args0 about1 = true := code_word (m := ⟨12, 2⟩) (meth := k12m2) (c := k12c2) (by decide +kernel) rfl rfl rfl (by decide +kernel)
set_option maxRecDepth 65536 in
theorem w_c63 : (Jvm.Cond.code ({ cls := "java/util/ImmutableCollections$List12", name := "<init>", desc := "(Ljava/lang/Object;)V" } : Jvm.MethodName) jdk_44_method_1_code (2 : Nat) (Option.none : Option Jvm.ClassFile.FieldType)).before args0 about1 = true := code_word (m := ⟨21, 0⟩) (meth := k21m0) (c := k21c0) (by decide +kernel) rfl rfl rfl (by decide +kernel)
set_option maxRecDepth 65536 in
theorem w_c64 : (Jvm.Cond.code ({ cls := "java/util/ImmutableCollections$AbstractImmutableList", name := "<init>", desc := "()V" } : Jvm.MethodName) jdk_46_method_1_code (1 : Nat) (Option.none : Option Jvm.ClassFile.FieldType)).before args0 about1 = true := code_word (m := ⟨20, 0⟩) (meth := k20m0) (c := k20c0) (by decide +kernel) rfl rfl rfl (by decide +kernel)
set_option maxRecDepth 65536 in
theorem w_c65 : (Jvm.Cond.code ({ cls := "java/util/ImmutableCollections$AbstractImmutableCollection", name := "<init>", desc := "()V" } : Jvm.MethodName) jdk_47_method_1_code (1 : Nat) (Option.none : Option Jvm.ClassFile.FieldType)).before args0 about1 = true := code_word (m := ⟨19, 0⟩) (meth := k19m0) (c := k19c0) (by decide +kernel) rfl rfl rfl (by decide +kernel)
set_option maxRecDepth 65536 in
theorem w_c66 : (Jvm.Cond.code ({ cls := "java/util/Objects", name := "requireNonNull", desc := "(Ljava/lang/Object;)Ljava/lang/Object;" } : Jvm.MethodName) jdk_31_method_10_code (1 : Nat) (Option.some (Jvm.ClassFile.FieldType.object "java/lang/Object"))).before args0 about1 = true := code_word (m := ⟨35, 1⟩) (meth := k35m1) (c := k35c1) (by decide +kernel) rfl rfl rfl (by decide +kernel)
set_option maxRecDepth 65536 in
theorem w_c67 : (Jvm.Cond.code ({ cls := "java/util/ImmutableCollections$List12", name := "size", desc := "()I" } : Jvm.MethodName) jdk_44_method_3_code (1 : Nat) (Option.some Jvm.ClassFile.FieldType.int)).before args0 about1 = true := code_word (m := ⟨21, 2⟩) (meth := k21m2) (c := k21c2) (by decide +kernel) rfl rfl rfl (by decide +kernel)
set_option maxRecDepth 65536 in
theorem w_c68 : (Jvm.Cond.code ({ cls := "java/lang/StringBuilder", name := "append", desc := "(C)Ljava/lang/StringBuilder;" } : Jvm.MethodName) jdk_67_method_14_code (2 : Nat) (Option.some (Jvm.ClassFile.FieldType.object "java/lang/StringBuilder"))).before args0 about1 = true := code_word (m := ⟨25, 3⟩) (meth := k25m3) (c := k25c3) (by decide +kernel) rfl rfl rfl (by decide +kernel)
set_option maxRecDepth 65536 in
theorem w_c69 : (Jvm.Cond.code ({ cls := "java/lang/AbstractStringBuilder", name := "append", desc := "(C)Ljava/lang/AbstractStringBuilder;" } : Jvm.MethodName) jdk_68_method_31_code (2 : Nat) (Option.some (Jvm.ClassFile.FieldType.object "java/lang/AbstractStringBuilder"))).before args0 about1 = true := code_word (m := ⟨24, 5⟩) (meth := k24m5) (c := k24c5) (by decide +kernel) rfl rfl rfl (by decide +kernel)
set_option maxRecDepth 65536 in
theorem w_c70 : (Jvm.Cond.code ({ cls := "java/lang/StringLatin1", name := "canEncode", desc := "(C)Z" } : Jvm.MethodName) jdk_43_method_3_code (1 : Nat) (Option.some Jvm.ClassFile.FieldType.boolean)).before args0 about1 = true := code_word (m := ⟨32, 2⟩) (meth := k32m2) (c := k32c2) (by decide +kernel) rfl rfl rfl (by decide +kernel)
set_option maxRecDepth 65536 in
theorem w_c71 : (Jvm.Cond.code ({ cls := "java/util/ImmutableCollections$List12", name := "get", desc := "(I)Ljava/lang/Object;" } : Jvm.MethodName) jdk_44_method_5_code (2 : Nat) (Option.some (Jvm.ClassFile.FieldType.object "java/lang/Object"))).before args0 about1 = true := code_word (m := ⟨21, 3⟩) (meth := k21m3) (c := k21c3) (by decide +kernel) rfl rfl rfl (by decide +kernel)
set_option maxRecDepth 65536 in
theorem w_c72 : (Jvm.Cond.code ({ cls := "java/lang/String", name := "toString", desc := "()Ljava/lang/String;" } : Jvm.MethodName) jdk_42_method_126_code (1 : Nat) (Option.some (Jvm.ClassFile.FieldType.object "java/lang/String"))).before args0 about1 = true := code_word (m := ⟨7, 5⟩) (meth := k7m5) (c := k7c5) (by decide +kernel) rfl rfl rfl (by decide +kernel)
set_option maxRecDepth 65536 in
theorem w_c73 : (Jvm.Cond.code ({ cls := "java/util/ImmutableCollections$List12", name := "<init>", desc := "(Ljava/lang/Object;Ljava/lang/Object;)V" } : Jvm.MethodName) jdk_44_method_2_code (3 : Nat) (Option.none : Option Jvm.ClassFile.FieldType)).before args0 about1 = true := code_word (m := ⟨21, 1⟩) (meth := k21m1) (c := k21c1) (by decide +kernel) rfl rfl rfl (by decide +kernel)
def codes1 : List Jvm.Cond := [Jvm.Cond.code x code maxLocals ret, Jvm.Cond.code ({ cls := "com/example/simple_rocchio/simplerocchio/CollectionDocumentTextToStringPinLaw", name := "ch", desc := "(JI)C" } : Jvm.MethodName) method_2_code (3 : Nat) (Option.some Jvm.ClassFile.FieldType.char), Jvm.Cond.code ({ cls := "com/example/simple_rocchio/simplerocchio/CollectionDocumentTextToStringPinLaw", name := "str", desc := "(ICCC)Ljava/lang/String;" } : Jvm.MethodName) method_3_code (4 : Nat) (Option.some (Jvm.ClassFile.FieldType.object "java/lang/String")), Jvm.Cond.code ({ cls := "java/lang/String", name := "<init>", desc := "([C)V" } : Jvm.MethodName) jdk_42_method_3_code (2 : Nat) (Option.none : Option Jvm.ClassFile.FieldType), Jvm.Cond.code ({ cls := "java/lang/String", name := "<init>", desc := "([CIILjava/lang/Void;)V" } : Jvm.MethodName) jdk_42_method_149_code (6 : Nat) (Option.none : Option Jvm.ClassFile.FieldType), Jvm.Cond.code ({ cls := "java/lang/Object", name := "<init>", desc := "()V" } : Jvm.MethodName) object_method_1_code (1 : Nat) (Option.none : Option Jvm.ClassFile.FieldType), Jvm.Cond.code ({ cls := "java/util/ArrayList", name := "<init>", desc := "()V" } : Jvm.MethodName) jdk_38_method_2_code (1 : Nat) (Option.none : Option Jvm.ClassFile.FieldType), Jvm.Cond.code ({ cls := "java/util/AbstractList", name := "<init>", desc := "()V" } : Jvm.MethodName) jdk_39_method_1_code (1 : Nat) (Option.none : Option Jvm.ClassFile.FieldType), Jvm.Cond.code ({ cls := "java/util/AbstractCollection", name := "<init>", desc := "()V" } : Jvm.MethodName) jdk_22_method_1_code (1 : Nat) (Option.none : Option Jvm.ClassFile.FieldType), Jvm.Cond.code ({ cls := "com/example/simple_rocchio/simplerocchio/CollectionDocument$Text", name := "<init>", desc := "(Ljava/lang/String;Ljava/util/List;)V" } : Jvm.MethodName) prog_3_method_1_code (3 : Nat) (Option.none : Option Jvm.ClassFile.FieldType), Jvm.Cond.code ({ cls := "java/util/List", name := "copyOf", desc := "(Ljava/util/Collection;)Ljava/util/List;" } : Jvm.MethodName) jdk_40_method_48_code (1 : Nat) (Option.some (Jvm.ClassFile.FieldType.object "java/util/List")), Jvm.Cond.code ({ cls := "java/util/ImmutableCollections", name := "listCopy", desc := "(Ljava/util/Collection;)Ljava/util/List;" } : Jvm.MethodName) jdk_56_method_3_code (2 : Nat) (Option.some (Jvm.ClassFile.FieldType.object "java/util/List")), Jvm.Cond.code ({ cls := "java/util/ArrayList", name := "isEmpty", desc := "()Z" } : Jvm.MethodName) jdk_38_method_9_code (1 : Nat) (Option.some Jvm.ClassFile.FieldType.boolean), Jvm.Cond.code ({ cls := "java/util/List", name := "of", desc := "()Ljava/util/List;" } : Jvm.MethodName) jdk_40_method_36_code (0 : Nat) (Option.some (Jvm.ClassFile.FieldType.object "java/util/List")), Jvm.Cond.code ({ cls := "com/example/simple_rocchio/simplerocchio/CollectionDocument$Text", name := "toString", desc := "()Ljava/lang/String;" } : Jvm.MethodName) prog_3_method_6_code (1 : Nat) (Option.some (Jvm.ClassFile.FieldType.object "java/lang/String")), Jvm.Cond.code ({ cls := "java/lang/StringBuilder", name := "<init>", desc := "()V" } : Jvm.MethodName) jdk_67_method_1_code (1 : Nat) (Option.none : Option Jvm.ClassFile.FieldType), Jvm.Cond.code ({ cls := "java/lang/AbstractStringBuilder", name := "<init>", desc := "(I)V" } : Jvm.MethodName) jdk_68_method_2_code (2 : Nat) (Option.none : Option Jvm.ClassFile.FieldType), Jvm.Cond.code ({ cls := "java/lang/StringBuilder", name := "append", desc := "(Ljava/lang/Object;)Ljava/lang/StringBuilder;" } : Jvm.MethodName) jdk_67_method_6_code (2 : Nat) (Option.some (Jvm.ClassFile.FieldType.object "java/lang/StringBuilder")), Jvm.Cond.code ({ cls := "java/lang/String", name := "valueOf", desc := "(Ljava/lang/Object;)Ljava/lang/String;" } : Jvm.MethodName) jdk_42_method_133_code (1 : Nat) (Option.some (Jvm.ClassFile.FieldType.object "java/lang/String")), Jvm.Cond.code ({ cls := "java/util/AbstractCollection", name := "toString", desc := "()Ljava/lang/String;" } : Jvm.MethodName) jdk_22_method_16_code (4 : Nat) (Option.some (Jvm.ClassFile.FieldType.object "java/lang/String")), Jvm.Cond.code ({ cls := "java/util/ImmutableCollections$AbstractImmutableList", name := "iterator", desc := "()Ljava/util/Iterator;" } : Jvm.MethodName) jdk_46_method_10_code (1 : Nat) (Option.some (Jvm.ClassFile.FieldType.object "java/util/Iterator")), Jvm.Cond.code ({ cls := "java/util/ImmutableCollections$ListN", name := "size", desc := "()I" } : Jvm.MethodName) jdk_45_method_3_code (1 : Nat) (Option.some Jvm.ClassFile.FieldType.int), Jvm.Cond.code ({ cls := "java/util/ImmutableCollections$ListItr", name := "<init>", desc := "(Ljava/util/List;I)V" } : Jvm.MethodName) jdk_53_method_1_code (3 : Nat) (Option.none : Option Jvm.ClassFile.FieldType), Jvm.Cond.code ({ cls := "java/util/ImmutableCollections$ListItr", name := "hasNext", desc := "()Z" } : Jvm.MethodName) jdk_53_method_3_code (1 : Nat) (Option.some Jvm.ClassFile.FieldType.boolean), Jvm.Cond.code ({ cls := "java/lang/StringBuilder", name := "append", desc := "(Ljava/lang/String;)Ljava/lang/StringBuilder;" } : Jvm.MethodName) jdk_67_method_7_code (2 : Nat) (Option.some (Jvm.ClassFile.FieldType.object "java/lang/StringBuilder")), Jvm.Cond.code ({ cls := "java/lang/AbstractStringBuilder", name := "append", desc := "(Ljava/lang/String;)Ljava/lang/AbstractStringBuilder;" } : Jvm.MethodName) jdk_68_method_22_code (3 : Nat) (Option.some (Jvm.ClassFile.FieldType.object "java/lang/AbstractStringBuilder")), Jvm.Cond.code ({ cls := "java/lang/String", name := "length", desc := "()I" } : Jvm.MethodName) jdk_42_method_54_code (1 : Nat) (Option.some Jvm.ClassFile.FieldType.int), Jvm.Cond.code ({ cls := "java/lang/String", name := "coder", desc := "()B" } : Jvm.MethodName) jdk_42_method_152_code (1 : Nat) (Option.some Jvm.ClassFile.FieldType.byte), Jvm.Cond.code ({ cls := "java/lang/AbstractStringBuilder", name := "ensureCapacityInternal", desc := "(I)V" } : Jvm.MethodName) jdk_68_method_9_code (3 : Nat) (Option.none : Option Jvm.ClassFile.FieldType), Jvm.Cond.code ({ cls := "java/lang/AbstractStringBuilder", name := "putStringAt", desc := "(ILjava/lang/String;)V" } : Jvm.MethodName) jdk_68_method_73_code (3 : Nat) (Option.none : Option Jvm.ClassFile.FieldType), Jvm.Cond.code ({ cls := "java/lang/AbstractStringBuilder", name := "inflateIfNeededFor", desc := "(Ljava/lang/String;)V" } : Jvm.MethodName) jdk_68_method_71_code (2 : Nat) (Option.none : Option Jvm.ClassFile.FieldType), Jvm.Cond.code ({ cls := "java/lang/String", name := "getBytes", desc := "([BIB)V" } : Jvm.MethodName) jdk_42_method_147_code (4 : Nat) (Option.none : Option Jvm.ClassFile.FieldType), Jvm.Cond.code ({ cls := "java/lang/StringBuilder", name := "toString", desc := "()Ljava/lang/String;" } : Jvm.MethodName) jdk_67_method_42_code (1 : Nat) (Option.some (Jvm.ClassFile.FieldType.object "java/lang/String")), Jvm.Cond.code ({ cls := "java/lang/String", name := "<init>", desc := "(Ljava/lang/StringBuilder;)V" } : Jvm.MethodName) jdk_42_method_53_code (2 : Nat) (Option.none : Option Jvm.ClassFile.FieldType), Jvm.Cond.code ({ cls := "java/lang/String", name := "<init>", desc := "(Ljava/lang/AbstractStringBuilder;Ljava/lang/Void;)V" } : Jvm.MethodName) jdk_42_method_150_code (5 : Nat) (Option.none : Option Jvm.ClassFile.FieldType), Jvm.Cond.code ({ cls := "java/lang/AbstractStringBuilder", name := "getValue", desc := "()[B" } : Jvm.MethodName) jdk_68_method_64_code (1 : Nat) (Option.some (Jvm.ClassFile.FieldType.array Jvm.ClassFile.FieldType.byte)), Jvm.Cond.code ({ cls := "java/lang/StringBuilder", name := "length", desc := "()I" } : Jvm.MethodName) jdk_67_method_93_code (1 : Nat) (Option.some Jvm.ClassFile.FieldType.int), Jvm.Cond.code ({ cls := "java/lang/AbstractStringBuilder", name := "length", desc := "()I" } : Jvm.MethodName) jdk_68_method_6_code (1 : Nat) (Option.some Jvm.ClassFile.FieldType.int), Jvm.Cond.code ({ cls := "java/lang/AbstractStringBuilder", name := "isLatin1", desc := "()Z" } : Jvm.MethodName) jdk_68_method_68_code (1 : Nat) (Option.some Jvm.ClassFile.FieldType.boolean), Jvm.Cond.code ({ cls := "java/util/Arrays", name := "copyOfRange", desc := "([BII)[B" } : Jvm.MethodName) jdk_65_method_132_code (3 : Nat) (Option.some (Jvm.ClassFile.FieldType.array Jvm.ClassFile.FieldType.byte)), Jvm.Cond.code ({ cls := "java/util/Arrays", name := "copyOfRangeByte", desc := "([BII)[B" } : Jvm.MethodName) jdk_65_method_133_code (5 : Nat) (Option.some (Jvm.ClassFile.FieldType.array Jvm.ClassFile.FieldType.byte)), Jvm.Cond.code ({ cls := "java/util/Arrays", name := "checkLength", desc := "(II)V" } : Jvm.MethodName) jdk_65_method_131_code (2 : Nat) (Option.none : Option Jvm.ClassFile.FieldType), Jvm.Cond.code ({ cls := "java/lang/Math", name := "min", desc := "(II)I" } : Jvm.MethodName) jdk_29_method_69_code (2 : Nat) (Option.some Jvm.ClassFile.FieldType.int), Jvm.Cond.code ({ cls := "com/example/simple_rocchio/simplerocchio/CollectionDocumentTextToStringPinLaw", name := "put", desc := "([CIC)I" } : Jvm.MethodName) method_4_code (3 : Nat) (Option.some Jvm.ClassFile.FieldType.int), Jvm.Cond.code ({ cls := "com/example/simple_rocchio/simplerocchio/CollectionDocumentTextToStringPinLaw", name := "putStr", desc := "([CIICCC)I" } : Jvm.MethodName) method_5_code (7 : Nat) (Option.some Jvm.ClassFile.FieldType.int), Jvm.Cond.code ({ cls := "com/example/simple_rocchio/simplerocchio/CollectionDocumentTextToStringPinLaw", name := "at", desc := "(Ljava/lang/String;[CII)Z" } : Jvm.MethodName) method_6_code (4 : Nat) (Option.some Jvm.ClassFile.FieldType.boolean), Jvm.Cond.code ({ cls := "java/lang/String", name := "charAt", desc := "(I)C" } : Jvm.MethodName) jdk_42_method_56_code (2 : Nat) (Option.some Jvm.ClassFile.FieldType.char), Jvm.Cond.code ({ cls := "java/lang/String", name := "isLatin1", desc := "()Z" } : Jvm.MethodName) jdk_42_method_154_code (1 : Nat) (Option.some Jvm.ClassFile.FieldType.boolean), Jvm.Cond.code ({ cls := "java/lang/StringLatin1", name := "charAt", desc := "([BI)C" } : Jvm.MethodName) jdk_43_method_2_code (2 : Nat) (Option.some Jvm.ClassFile.FieldType.char), Jvm.Cond.code ({ cls := "java/lang/String", name := "checkIndex", desc := "(II)V" } : Jvm.MethodName) jdk_42_method_155_code (2 : Nat) (Option.none : Option Jvm.ClassFile.FieldType), Jvm.Cond.code ({ cls := "jdk/internal/util/Preconditions", name := "checkIndex", desc := "(IILjava/util/function/BiFunction;)I" } : Jvm.MethodName) jdk_41_method_11_code (3 : Nat) (Option.some Jvm.ClassFile.FieldType.int), Jvm.Cond.code ({ cls := "java/lang/StringUTF16", name := "compress", desc := "([CII)[B" } : Jvm.MethodName) jdk_52_method_16_code (6 : Nat) (Option.some (Jvm.ClassFile.FieldType.array Jvm.ClassFile.FieldType.byte)), Jvm.Cond.code ({ cls := "java/lang/StringUTF16", name := "compress", desc := "([CI[BII)I" } : Jvm.MethodName) jdk_52_method_21_code (7 : Nat) (Option.some Jvm.ClassFile.FieldType.int), Jvm.Cond.code ({ cls := "java/lang/StringUTF16", name := "coderFromArrayLen", desc := "([BI)B" } : Jvm.MethodName) jdk_52_method_15_code (2 : Nat) (Option.some Jvm.ClassFile.FieldType.byte), Jvm.Cond.code ({ cls := "java/util/ArrayList", name := "add", desc := "(Ljava/lang/Object;)Z" } : Jvm.MethodName) jdk_38_method_25_code (2 : Nat) (Option.some Jvm.ClassFile.FieldType.boolean), Jvm.Cond.code ({ cls := "java/util/ArrayList", name := "add", desc := "(Ljava/lang/Object;[Ljava/lang/Object;I)V" } : Jvm.MethodName) jdk_38_method_24_code (4 : Nat) (Option.none : Option Jvm.ClassFile.FieldType), Jvm.Cond.code ({ cls := "java/util/ArrayList", name := "grow", desc := "()[Ljava/lang/Object;" } : Jvm.MethodName) jdk_38_method_7_code (1 : Nat) (Option.some (Jvm.ClassFile.FieldType.array (Jvm.ClassFile.FieldType.object "java/lang/Object"))), Jvm.Cond.code ({ cls := "java/util/ArrayList", name := "grow", desc := "(I)[Ljava/lang/Object;" } : Jvm.MethodName) jdk_38_method_6_code (4 : Nat) (Option.some (Jvm.ClassFile.FieldType.array (Jvm.ClassFile.FieldType.object "java/lang/Object"))), Jvm.Cond.code ({ cls := "java/lang/Math", name := "max", desc := "(II)I" } : Jvm.MethodName) jdk_29_method_65_code (2 : Nat) (Option.some Jvm.ClassFile.FieldType.int), Jvm.Cond.code ({ cls := "java/util/ArrayList", name := "toArray", desc := "()[Ljava/lang/Object;" } : Jvm.MethodName) jdk_38_method_16_code (1 : Nat) (Option.some (Jvm.ClassFile.FieldType.array (Jvm.ClassFile.FieldType.object "java/lang/Object"))), Jvm.Cond.code ({ cls := "java/util/Arrays", name := "copyOf", desc := "([Ljava/lang/Object;I)[Ljava/lang/Object;" } : Jvm.MethodName) jdk_65_method_119_code (2 : Nat) (Option.some (Jvm.ClassFile.FieldType.array (Jvm.ClassFile.FieldType.object "java/lang/Object"))), Jvm.Cond.code ({ cls := "java/util/Arrays", name := "copyOf", desc := "([Ljava/lang/Object;ILjava/lang/Class;)[Ljava/lang/Object;" } : Jvm.MethodName) jdk_65_method_120_code (4 : Nat) (Option.some (Jvm.ClassFile.FieldType.array (Jvm.ClassFile.FieldType.object "java/lang/Object"))), Jvm.Cond.code ({ cls := "java/util/List", name := "of", desc := "([Ljava/lang/Object;)Ljava/util/List;" } : Jvm.MethodName) jdk_40_method_47_code (2 : Nat) (Option.some (Jvm.ClassFile.FieldType.object "java/util/List")), Jvm.Cond.code ({ cls := "java/util/ImmutableCollections$List12", name := "<init>", desc := "(Ljava/lang/Object;)V" } : Jvm.MethodName) jdk_44_method_1_code (2 : Nat) (Option.none : Option Jvm.ClassFile.FieldType), Jvm.Cond.code ({ cls := "java/util/ImmutableCollections$AbstractImmutableList", name := "<init>", desc := "()V" } : Jvm.MethodName) jdk_46_method_1_code (1 : Nat) (Option.none : Option Jvm.ClassFile.FieldType), Jvm.Cond.code ({ cls := "java/util/ImmutableCollections$AbstractImmutableCollection", name := "<init>", desc := "()V" } : Jvm.MethodName) jdk_47_method_1_code (1 : Nat) (Option.none : Option Jvm.ClassFile.FieldType), Jvm.Cond.code ({ cls := "java/util/Objects", name := "requireNonNull", desc := "(Ljava/lang/Object;)Ljava/lang/Object;" } : Jvm.MethodName) jdk_31_method_10_code (1 : Nat) (Option.some (Jvm.ClassFile.FieldType.object "java/lang/Object")), Jvm.Cond.code ({ cls := "java/util/ImmutableCollections$List12", name := "size", desc := "()I" } : Jvm.MethodName) jdk_44_method_3_code (1 : Nat) (Option.some Jvm.ClassFile.FieldType.int), Jvm.Cond.code ({ cls := "java/lang/StringBuilder", name := "append", desc := "(C)Ljava/lang/StringBuilder;" } : Jvm.MethodName) jdk_67_method_14_code (2 : Nat) (Option.some (Jvm.ClassFile.FieldType.object "java/lang/StringBuilder")), Jvm.Cond.code ({ cls := "java/lang/AbstractStringBuilder", name := "append", desc := "(C)Ljava/lang/AbstractStringBuilder;" } : Jvm.MethodName) jdk_68_method_31_code (2 : Nat) (Option.some (Jvm.ClassFile.FieldType.object "java/lang/AbstractStringBuilder")), Jvm.Cond.code ({ cls := "java/lang/StringLatin1", name := "canEncode", desc := "(C)Z" } : Jvm.MethodName) jdk_43_method_3_code (1 : Nat) (Option.some Jvm.ClassFile.FieldType.boolean), Jvm.Cond.code ({ cls := "java/util/ImmutableCollections$List12", name := "get", desc := "(I)Ljava/lang/Object;" } : Jvm.MethodName) jdk_44_method_5_code (2 : Nat) (Option.some (Jvm.ClassFile.FieldType.object "java/lang/Object")), Jvm.Cond.code ({ cls := "java/lang/String", name := "toString", desc := "()Ljava/lang/String;" } : Jvm.MethodName) jdk_42_method_126_code (1 : Nat) (Option.some (Jvm.ClassFile.FieldType.object "java/lang/String")), Jvm.Cond.code ({ cls := "java/util/ImmutableCollections$List12", name := "<init>", desc := "(Ljava/lang/Object;Ljava/lang/Object;)V" } : Jvm.MethodName) jdk_44_method_2_code (3 : Nat) (Option.none : Option Jvm.ClassFile.FieldType)]
set_option maxRecDepth 65536 in
theorem codes_eq : words1.filter isCode = codes1 := rfl
theorem w_codes : ∀ c ∈ words1.filter isCode, c.before args0 about1 = true := by
  rw [codes_eq]
  intro c hc
  simp only [codes1, List.mem_cons, List.not_mem_nil, or_false] at hc
  rcases hc with rfl | rfl | rfl | rfl | rfl | rfl | rfl | rfl | rfl | rfl | rfl | rfl | rfl | rfl | rfl | rfl | rfl | rfl | rfl | rfl | rfl | rfl | rfl | rfl | rfl | rfl | rfl | rfl | rfl | rfl | rfl | rfl | rfl | rfl | rfl | rfl | rfl | rfl | rfl | rfl | rfl | rfl | rfl | rfl | rfl | rfl | rfl | rfl | rfl | rfl | rfl | rfl | rfl | rfl | rfl | rfl | rfl | rfl | rfl | rfl | rfl | rfl | rfl | rfl | rfl | rfl | rfl | rfl | rfl | rfl | rfl | rfl | rfl | rfl
  · exact w_c0
  · exact w_c1
  · exact w_c2
  · exact w_c3
  · exact w_c4
  · exact w_c5
  · exact w_c6
  · exact w_c7
  · exact w_c8
  · exact w_c9
  · exact w_c10
  · exact w_c11
  · exact w_c12
  · exact w_c13
  · exact w_c14
  · exact w_c15
  · exact w_c16
  · exact w_c17
  · exact w_c18
  · exact w_c19
  · exact w_c20
  · exact w_c21
  · exact w_c22
  · exact w_c23
  · exact w_c24
  · exact w_c25
  · exact w_c26
  · exact w_c27
  · exact w_c28
  · exact w_c29
  · exact w_c30
  · exact w_c31
  · exact w_c32
  · exact w_c33
  · exact w_c34
  · exact w_c35
  · exact w_c36
  · exact w_c37
  · exact w_c38
  · exact w_c39
  · exact w_c40
  · exact w_c41
  · exact w_c42
  · exact w_c43
  · exact w_c44
  · exact w_c45
  · exact w_c46
  · exact w_c47
  · exact w_c48
  · exact w_c49
  · exact w_c50
  · exact w_c51
  · exact w_c52
  · exact w_c53
  · exact w_c54
  · exact w_c55
  · exact w_c56
  · exact w_c57
  · exact w_c58
  · exact w_c59
  · exact w_c60
  · exact w_c61
  · exact w_c62
  · exact w_c63
  · exact w_c64
  · exact w_c65
  · exact w_c66
  · exact w_c67
  · exact w_c68
  · exact w_c69
  · exact w_c70
  · exact w_c71
  · exact w_c72
  · exact w_c73
set_option maxRecDepth 65536 in
theorem w_t1 : (words1.take 24).all (fun c => isCode c || c.before args0 about1) = true := by decide +kernel
set_option maxRecDepth 65536 in
theorem w_t2 : ((words1.drop 24).take 24).all (fun c => isCode c || c.before args0 about1) = true := by decide +kernel
set_option maxRecDepth 65536 in
theorem w_t3 : (((words1.drop 24).drop 24).take 24).all (fun c => isCode c || c.before args0 about1) = true := by decide +kernel
set_option maxRecDepth 65536 in
theorem w_t4 : ((((words1.drop 24).drop 24).drop 24).take 24).all (fun c => isCode c || c.before args0 about1) = true := by decide +kernel
set_option maxRecDepth 65536 in
theorem w_t5 : (((((words1.drop 24).drop 24).drop 24).drop 24).take 24).all (fun c => isCode c || c.before args0 about1) = true := by decide +kernel
set_option maxRecDepth 65536 in
theorem w_t6 : ((((((words1.drop 24).drop 24).drop 24).drop 24).drop 24).take 24).all (fun c => isCode c || c.before args0 about1) = true := by decide +kernel
set_option maxRecDepth 65536 in
theorem w_t7 : (((((((words1.drop 24).drop 24).drop 24).drop 24).drop 24).drop 24).take 24).all (fun c => isCode c || c.before args0 about1) = true := by decide +kernel
set_option maxRecDepth 65536 in
theorem w_t8 : ((((((((words1.drop 24).drop 24).drop 24).drop 24).drop 24).drop 24).drop 24).take 24).all (fun c => isCode c || c.before args0 about1) = true := by decide +kernel
set_option maxRecDepth 65536 in
theorem w_t9 : (((((((((words1.drop 24).drop 24).drop 24).drop 24).drop 24).drop 24).drop 24).drop 24).take 24).all (fun c => isCode c || c.before args0 about1) = true := by decide +kernel
set_option maxRecDepth 65536 in
theorem w_t10 : ((((((((((words1.drop 24).drop 24).drop 24).drop 24).drop 24).drop 24).drop 24).drop 24).drop 24).take 24).all (fun c => isCode c || c.before args0 about1) = true := by decide +kernel
set_option maxRecDepth 65536 in
theorem w_t11 : (((((((((((words1.drop 24).drop 24).drop 24).drop 24).drop 24).drop 24).drop 24).drop 24).drop 24).drop 24).take 24).all (fun c => isCode c || c.before args0 about1) = true := by decide +kernel
set_option maxRecDepth 65536 in
theorem w_t12 : ((((((((((((words1.drop 24).drop 24).drop 24).drop 24).drop 24).drop 24).drop 24).drop 24).drop 24).drop 24).drop 24).take 24).all (fun c => isCode c || c.before args0 about1) = true := by decide +kernel
set_option maxRecDepth 65536 in
theorem w_t13 : (((((((((((((words1.drop 24).drop 24).drop 24).drop 24).drop 24).drop 24).drop 24).drop 24).drop 24).drop 24).drop 24).drop 24).take 24).all (fun c => isCode c || c.before args0 about1) = true := by decide +kernel
set_option maxRecDepth 65536 in
theorem w_t14 : ((((((((((((((words1.drop 24).drop 24).drop 24).drop 24).drop 24).drop 24).drop 24).drop 24).drop 24).drop 24).drop 24).drop 24).drop 24).take 24).all (fun c => isCode c || c.before args0 about1) = true := by decide +kernel
set_option maxRecDepth 65536 in
theorem w_t15 : (((((((((((((((words1.drop 24).drop 24).drop 24).drop 24).drop 24).drop 24).drop 24).drop 24).drop 24).drop 24).drop 24).drop 24).drop 24).drop 24).take 24).all (fun c => isCode c || c.before args0 about1) = true := by decide +kernel
set_option maxRecDepth 65536 in
theorem w_t16 : ((((((((((((((((words1.drop 24).drop 24).drop 24).drop 24).drop 24).drop 24).drop 24).drop 24).drop 24).drop 24).drop 24).drop 24).drop 24).drop 24).drop 24).take 24).all (fun c => isCode c || c.before args0 about1) = true := by decide +kernel
set_option maxRecDepth 65536 in
theorem w_t17 : (((((((((((((((((words1.drop 24).drop 24).drop 24).drop 24).drop 24).drop 24).drop 24).drop 24).drop 24).drop 24).drop 24).drop 24).drop 24).drop 24).drop 24).drop 24).take 24).all (fun c => isCode c || c.before args0 about1) = true := by decide +kernel
set_option maxRecDepth 65536 in
theorem w_t18 : ((((((((((((((((((words1.drop 24).drop 24).drop 24).drop 24).drop 24).drop 24).drop 24).drop 24).drop 24).drop 24).drop 24).drop 24).drop 24).drop 24).drop 24).drop 24).drop 24).take 24).all (fun c => isCode c || c.before args0 about1) = true := by decide +kernel
set_option maxRecDepth 65536 in
theorem w_t19 : ((((((((((((((((((words1.drop 24).drop 24).drop 24).drop 24).drop 24).drop 24).drop 24).drop 24).drop 24).drop 24).drop 24).drop 24).drop 24).drop 24).drop 24).drop 24).drop 24).drop 24).all (fun c => isCode c || c.before args0 about1) = true := by decide +kernel
theorem w_tables : (allAtoms (Jvm.Cond.code x code maxLocals ret :: tables_1)).before args0 about1 = true := by
  rw [allAtoms_all]
  show words1.all (fun c => c.before args0 about1) = true
  refine all_split ?_ w_codes
  rw [← List.take_append_drop 24 words1, List.all_append, w_t1, ← List.take_append_drop 24 (words1.drop 24), List.all_append, w_t2, ← List.take_append_drop 24 ((words1.drop 24).drop 24), List.all_append, w_t3, ← List.take_append_drop 24 (((words1.drop 24).drop 24).drop 24), List.all_append, w_t4, ← List.take_append_drop 24 ((((words1.drop 24).drop 24).drop 24).drop 24), List.all_append, w_t5, ← List.take_append_drop 24 (((((words1.drop 24).drop 24).drop 24).drop 24).drop 24), List.all_append, w_t6, ← List.take_append_drop 24 ((((((words1.drop 24).drop 24).drop 24).drop 24).drop 24).drop 24), List.all_append, w_t7, ← List.take_append_drop 24 (((((((words1.drop 24).drop 24).drop 24).drop 24).drop 24).drop 24).drop 24), List.all_append, w_t8, ← List.take_append_drop 24 ((((((((words1.drop 24).drop 24).drop 24).drop 24).drop 24).drop 24).drop 24).drop 24), List.all_append, w_t9, ← List.take_append_drop 24 (((((((((words1.drop 24).drop 24).drop 24).drop 24).drop 24).drop 24).drop 24).drop 24).drop 24), List.all_append, w_t10, ← List.take_append_drop 24 ((((((((((words1.drop 24).drop 24).drop 24).drop 24).drop 24).drop 24).drop 24).drop 24).drop 24).drop 24), List.all_append, w_t11, ← List.take_append_drop 24 (((((((((((words1.drop 24).drop 24).drop 24).drop 24).drop 24).drop 24).drop 24).drop 24).drop 24).drop 24).drop 24), List.all_append, w_t12, ← List.take_append_drop 24 ((((((((((((words1.drop 24).drop 24).drop 24).drop 24).drop 24).drop 24).drop 24).drop 24).drop 24).drop 24).drop 24).drop 24), List.all_append, w_t13, ← List.take_append_drop 24 (((((((((((((words1.drop 24).drop 24).drop 24).drop 24).drop 24).drop 24).drop 24).drop 24).drop 24).drop 24).drop 24).drop 24).drop 24), List.all_append, w_t14, ← List.take_append_drop 24 ((((((((((((((words1.drop 24).drop 24).drop 24).drop 24).drop 24).drop 24).drop 24).drop 24).drop 24).drop 24).drop 24).drop 24).drop 24).drop 24), List.all_append, w_t15, ← List.take_append_drop 24 (((((((((((((((words1.drop 24).drop 24).drop 24).drop 24).drop 24).drop 24).drop 24).drop 24).drop 24).drop 24).drop 24).drop 24).drop 24).drop 24).drop 24), List.all_append, w_t16, ← List.take_append_drop 24 ((((((((((((((((words1.drop 24).drop 24).drop 24).drop 24).drop 24).drop 24).drop 24).drop 24).drop 24).drop 24).drop 24).drop 24).drop 24).drop 24).drop 24).drop 24), List.all_append, w_t17, ← List.take_append_drop 24 (((((((((((((((((words1.drop 24).drop 24).drop 24).drop 24).drop 24).drop 24).drop 24).drop 24).drop 24).drop 24).drop 24).drop 24).drop 24).drop 24).drop 24).drop 24).drop 24), List.all_append, w_t18, w_t19]
  rfl
set_option maxRecDepth 65536 in
theorem w_rest : rest_1_c.before args0 about1 = true := by decide +kernel
set_option maxRecDepth 65536 in
theorem w_case : (Jvm.Cond.and given_1 narrow_1).before args0 about1 = true := by decide +kernel
set_option maxRecDepth 65536 in
theorem w_consts : constsHeld consts_1 about1 := Jvm.Lit.constsHeldB_iff.mp (by decide +kernel)
theorem w_applies : (headSpec (Jvm.Cond.code x code maxLocals ret :: tables_1) room_1).applies x e0.platform about1 = true :=
  (Spec.applies_iff w_frames).mpr ⟨w_running, w_runnable, w_alone, w_named, w_hears, w_ripe, w_room, w_tables⟩
theorem atStart : AtStart classFile x code maxLocals ret World_1 tables_1 room_1 Calls_1 rest_1 Pre_1 launch0 p0 e0 about1 theMethod args0 below0 :=
  ⟨lists_1, trivial, launch0.admits_env _ _ _, launch0.least_env, fairChoices_fair.cas, fairChoices_fair.clock, w_frames, w_args, w_heap, w_applies, ⟨⟨44, k44, 4, by decide +kernel, rfl, rfl, _, rfl, rfl⟩, ⟨w_consts, trivial⟩⟩, w_rest, w_case⟩
end start1
theorem witness_1 : WitnessClaimed_1 := ⟨start1.p0, start1.e0, start1.about1, start1.theMethod, start1.args0, start1.below0, start1.atStart⟩
end Jvm.Pilot.@@N@@
