import JvmDerived
import JvmDerived.Pilot.@@N@@Statement
import JvmDerived.Pilot.@@N@@Code
set_option linter.unusedVariables false
set_option linter.unusedSimpArgs false
@@BLOCK:TracedD.lean.txt@@
/- laws to paste: Road.backV, Road.lenW, Road.chN, Road.eqW, Road.codOf (cut by pick.py; bodies as the Statement names them) -/
namespace Jvm.Pilot.@@N@@
namespace StrChars
open Jvm Sem ClassFile Op Lib Jvm.Stand Jvm.Free.XT Jvm.Free.ALB Jvm.Free.JM Jvm.Free
open Jvm.Lib.Cold (StaticIs)
/-- a char array whose places are chars -/
def Ch (a : Addr) (A : Cell) (U : State) : Prop := Arr .char a A U ∧ Typed .char A
theorem Ch.mv {a : Addr} {A : Cell} {U U' : State} (h : Ch a A U) (hal : U.vm.Alike U'.vm) (hh : U'.heap = U.heap) : Ch a A U' := ⟨h.1.mv hal hh, h.2⟩
theorem Ch.keep {a : Addr} {A : Cell} {U U' : State} (h : Ch a A U) (hal : U.vm.Alike U'.vm) (hk : U'.heap[a]? = some A) : Ch a A U' := ⟨h.1.keep hal hk, h.2⟩
/-- what place i of a char[]'s cell holds -/
def cv (A : Cell) (i : Nat) : Int32 := match A.slots[i]? with | some (.int x) => x | _ => 0
theorem Ch.get {a : Addr} {A : Cell} {U : State} (h : Ch a A U) {i : Nat} (hi : i < A.slots.size) : A.slots[i]? = some (.int (cv A i)) := by
  have e := Array.getElem?_eq_getElem hi
  have f := h.2 i _ e
  unfold cv; rw [e]
  generalize A.slots[i] = v at f
  cases v <;> simp [fits] at f ⊢
/-- the byte that i2b leaves of a char -/
def lo8 (x : Int32) : Int32 := x.toInt8.toInt32
theorem fits_lo8 (y : Int32) : fits .byte (.int (lo8 y)) = true := by
  have h1 := y.toInt8.le_toInt
  have h2 := y.toInt8.toInt_lt
  simp only [lo8, fits, Bool.and_eq_true, decide_eq_true_eq, Int32.le_iff_toInt_le, Int8.toInt_toInt32, show (-128 : Int32).toInt = -128 from by decide, show (127 : Int32).toInt = 127 from by decide]
  omega
/-- A' is A but that each place j of lo .. hi - 1 holds f j -/
def Laid (A A' : Cell) (lo hi : Nat) (f : Nat → Value) : Prop := A'.cls = A.cls ∧ A'.vm = A.vm ∧ A'.slots.size = A.slots.size ∧ ∀ i, A'.slots[i]? = if lo ≤ i ∧ i < hi then some (f i) else A.slots[i]?
theorem Laid.zero (A : Cell) (lo : Nat) (f : Nat → Value) : Laid A A lo (lo + 0) f := ⟨rfl, rfl, rfl, fun i => by rw [if_neg (by omega)]⟩
theorem Laid.step {A Ak : Cell} {lo k : Nat} {f : Nat → Value} {v : Value} (h : Laid A Ak lo k f) (hlo : lo ≤ k) (hk : k < Ak.slots.size) (hv : v = f k) : Laid A (Ak.setSlot k v) lo (k + 1) f := by
  refine ⟨h.1, h.2.1, by simpa [Cell.setSlot] using h.2.2.1, fun i => ?_⟩
  by_cases e : k = i
  · subst e; rw [Cell.slots_setSlot_self v hk, if_pos (by omega), hv]
  · rw [Cell.slots_setSlot_ne v e, h.2.2.2 i]
    by_cases q : lo ≤ i ∧ i < k
    · rw [if_pos q, if_pos (by omega)]
    · rw [if_neg q, if_neg (by omega)]
def U16 : String := "java/lang/StringUTF16"
namespace Cmp5
def yN : MethodName := ⟨"java/lang/StringUTF16", "compress", "([CI[BII)I"⟩
abbrev yB : ByteArray := jdk_52_method_21_code
theorem d0 : decode yB 0 = .ok (.iconst 0, 1) := by decide +kernel
theorem d1 : decode yB 1 = .ok (.istore 5, 2) := by decide +kernel
theorem d3 : decode yB 3 = .ok (.iload 5, 2) := by decide +kernel
theorem d5 : decode yB 5 = .ok (.iload 4, 2) := by decide +kernel
theorem d7 : decode yB 7 = .ok (.if_icmp (.ge) 37, 3) := by decide +kernel
theorem d10 : decode yB 10 = .ok (.aload_n 0, 1) := by decide +kernel
theorem d11 : decode yB 11 = .ok (.iload_n 1, 1) := by decide +kernel
theorem d12 : decode yB 12 = .ok (.caload, 1) := by decide +kernel
theorem d13 : decode yB 13 = .ok (.istore 6, 2) := by decide +kernel
theorem d15 : decode yB 15 = .ok (.iload 6, 2) := by decide +kernel
theorem d17 : decode yB 17 = .ok (.sipush 255, 3) := by decide +kernel
theorem d20 : decode yB 20 = .ok (.if_icmp (.le) 6, 3) := by decide +kernel
theorem d26 : decode yB 26 = .ok (.aload_n 2, 1) := by decide +kernel
theorem d27 : decode yB 27 = .ok (.iload_n 3, 1) := by decide +kernel
theorem d28 : decode yB 28 = .ok (.iload 6, 2) := by decide +kernel
theorem d30 : decode yB 30 = .ok (.i2b, 1) := by decide +kernel
theorem d31 : decode yB 31 = .ok (.bastore, 1) := by decide +kernel
theorem d32 : decode yB 32 = .ok (.iinc 1 1, 3) := by decide +kernel
theorem d35 : decode yB 35 = .ok (.iinc 3 1, 3) := by decide +kernel
theorem d38 : decode yB 38 = .ok (.iinc 5 1, 3) := by decide +kernel
theorem d41 : decode yB 41 = .ok (.goto (-38), 3) := by decide +kernel
theorem d44 : decode yB 44 = .ok (.iload 4, 2) := by decide +kernel
theorem d46 : decode yB 46 = .ok (.ireturn, 1) := by decide +kernel
def site : List Cond := []
def tab : Cond := tabOf yN yB 7 (some .int) site
def P (b : Addr) (A : Cell) (d : Addr) (B : Cell) (o q len : Nat) (args : Array Value) (s : State) : Prop := args = #[.ref b, .int (Int32.ofNat o), .ref d, .int (Int32.ofNat q), .int (Int32.ofNat len)] ∧ Ch b A s ∧ Arr .byte d B s ∧ b ≠ d ∧ o + len ≤ A.slots.size ∧ q + len ≤ B.slots.size ∧ ∀ i, i < len → ¬ 255 < cv A (o + i)
def E (b : Addr) (A : Cell) (d : Addr) (B : Cell) (o q len : Nat) (r : Option Value) (s u : State) : Prop := r = some (.int (Int32.ofNat len)) ∧ ∃ B', Put d B' s u ∧ Laid B B' q (q + len) (fun j => Value.int (lo8 (cv A (o + (j - q)))))
/-- no char of the range above 255: len; the places written hold each char's low byte -/
theorem law (l : Launch) (b : Addr) (A : Cell) (d : Addr) (B : Cell) (o q len : Nat) : Law l yN 5 5 0 0 yB 7 (some .int) site (P b A d B o q len) (E b A d B o q len) (copyLocs d q len) 0 0 := by
  refine Law.of_walk (plainFor_of_name (by decide +kernel)) (by decide +kernel) (by decide +kernel) (by decide) (fun _ _ h => by rw [h.1]; rfl) (fun _ U U' hal hh h => ⟨h.1, h.2.1.mv hal hh, h.2.2.1.mv hal hh, h.2.2.2⟩) (fun r U U' V V' h1 hal h2 h => ⟨h.1, h.2.elim fun B' q => ⟨B', q.1.mv h1 h2, q.2⟩⟩) ?_
  intro p e s m args below meth c s₁ X0 hexec hbytes hml hret hlk hnm hown hh0 W hP
  obtain ⟨rfl, hA, hB, hne, l1, l2, hp⟩ := hP
  have c1 : Steps p.tables e below (s₁.setTop (entryFrame m #[.ref b, .int (Int32.ofNat o), .ref d, .int (Int32.ofNat q), .int (Int32.ofNat len)] 7)) (s₁.setTop (mkF m 0 #[.val (.ref b), .val (.int (Int32.ofNat o)), .val (.ref d), .val (.int (Int32.ofNat q)), .val (.int (Int32.ofNat len)), .unset, .unset] [])) := entry rfl
  have hA0 := hA.1.mv X0.warmed.alike hh0
  have hB0 := hB.mv X0.warmed.alike hh0
  have a31 := hA.1.2.2.2
  have c2 : Steps p.tables e below (s₁.setTop (entryFrame m #[.ref b, .int (Int32.ofNat o), .ref d, .int (Int32.ofNat q), .int (Int32.ofNat len)] 7)) (s₁.setTop (mkF m 3 #[.val (.ref b), .val (.int (Int32.ofNat o)), .val (.ref d), .val (.int (Int32.ofNat q)), .val (.int (Int32.ofNat len)), .val (.int 0), .unset] [])) := c1.trans (by
    refine iconstV X0.here hexec rfl 0 (hb hbytes d0) (by decide) ?_
    refine XS.istore X0.here hexec rfl (hb hbytes d1) rfl rfl ?_
    exact Steps.refl _)
  have loop : ∀ (r i : Nat), i + r = len → ∀ (z : Slot), (z = .unset ∨ ∃ w, z = .val w ∧ w.category = 1) → ∀ (Tl : State) (Bk : Cell), Stand p l e { frames := 0, locals := 0, cells := 0, slots := 0 } s m #[.ref b, .int (Int32.ofNat o), .ref d, .int (Int32.ofNat q), .int (Int32.ofNat len)] below meth c Tl ([] ++ copyLocs d q i) 0 0 → Put d Bk s₁ Tl → Laid B Bk q (q + i) (fun j => Value.int (lo8 (cv A (o + (j - q))))) →
      Steps p.tables e below (s₁.setTop (entryFrame m #[.ref b, .int (Int32.ofNat o), .ref d, .int (Int32.ofNat q), .int (Int32.ofNat len)] 7)) (Tl.setTop (mkF m 3 #[.val (.ref b), .val (.int (Int32.ofNat (o + i))), .val (.ref d), .val (.int (Int32.ofNat (q + i))), .val (.int (Int32.ofNat len)), .val (.int (Int32.ofNat i)), z] [])) → ∃ (T' : State) (B' : Cell) (z' : Slot), Stand p l e { frames := 0, locals := 0, cells := 0, slots := 0 } s m #[.ref b, .int (Int32.ofNat o), .ref d, .int (Int32.ofNat q), .int (Int32.ofNat len)] below meth c T' ([] ++ copyLocs d q len) 0 0 ∧ Put d B' s₁ T' ∧ Laid B B' q (q + len) (fun j => Value.int (lo8 (cv A (o + (j - q))))) ∧
      Steps p.tables e below (s₁.setTop (entryFrame m #[.ref b, .int (Int32.ofNat o), .ref d, .int (Int32.ofNat q), .int (Int32.ofNat len)] 7)) (T'.setTop (mkF m 3 #[.val (.ref b), .val (.int (Int32.ofNat (o + len))), .val (.ref d), .val (.int (Int32.ofNat (q + len))), .val (.int (Int32.ofNat len)), .val (.int (Int32.ofNat len)), z'] [])) := by
    intro r
    induction r with
    | zero =>
      intro i hi z hz Tl Bk Xl pl fl cl
      have hil : i = len := by omega
      rw [hil] at Xl fl cl
      exact ⟨Tl, Bk, z, Xl, pl, fl, cl⟩
    | succ r ih =>
      intro i hi z hz Tl Bk Xl pl fl cl
      have all := X0.warmed.alike.symm.trans Xl.warmed.alike
      have hAl := hA0.keep all (pl.other hne hA0.1)
      have hBk := hB0.like all pl.1 fl.1 fl.2.1 fl.2.2.1
      have hlt : q + i < Bk.slots.size := by rw [fl.2.2.1]; omega
      have c3 : Steps p.tables e below (s₁.setTop (entryFrame m #[.ref b, .int (Int32.ofNat o), .ref d, .int (Int32.ofNat q), .int (Int32.ofNat len)] 7)) (Tl.setTop (mkF m 12 #[.val (.ref b), .val (.int (Int32.ofNat (o + i))), .val (.ref d), .val (.int (Int32.ofNat (q + i))), .val (.int (Int32.ofNat len)), .val (.int (Int32.ofNat i)), z] [.int (Int32.ofNat (o + i)), .ref b])) := cl.trans (by
        refine XS.iload Xl.here hexec rfl (hb hbytes d3) rfl ?_
        refine XS.iload Xl.here hexec rfl (hb hbytes d5) rfl ?_
        refine XS.icmpNo Xl.here hexec rfl (hb hbytes d7) rfl (ii_ge_f (lt32 (by omega) (by omega))) ?_
        refine XS.aloadN Xl.here hexec rfl (hb hbytes d10) rfl rfl ?_
        refine XS.iloadN Xl.here hexec rfl (hb hbytes d11) rfl ?_
        exact Steps.refl _)
      have c4 : Steps p.tables e below (s₁.setTop (entryFrame m #[.ref b, .int (Int32.ofNat o), .ref d, .int (Int32.ofNat q), .int (Int32.ofNat len)] 7)) (Tl.setTop (mkF m 13 #[.val (.ref b), .val (.int (Int32.ofNat (o + i))), .val (.ref d), .val (.int (Int32.ofNat (q + i))), .val (.int (Int32.ofNat len)), .val (.int (Int32.ofNat i)), z] [.int (cv A (o + i))])) := c3.trans (by
        refine Xl.aget hexec hAl rfl (hA.get (i := o + i) (by omega)) rfl rfl (hb hbytes d12) ?_
        exact Steps.refl _)
      have c5 : Steps p.tables e below (s₁.setTop (entryFrame m #[.ref b, .int (Int32.ofNat o), .ref d, .int (Int32.ofNat q), .int (Int32.ofNat len)] 7)) (Tl.setTop (mkF m 15 #[.val (.ref b), .val (.int (Int32.ofNat (o + i))), .val (.ref d), .val (.int (Int32.ofNat (q + i))), .val (.int (Int32.ofNat len)), .val (.int (Int32.ofNat i)), .val (.int (cv A (o + i)))] [])) := c4.trans (by
        refine XS.istoreS Xl.here hexec rfl (hb hbytes d13) rfl rfl hz ?_
        exact Steps.refl _)
      have c6 : Steps p.tables e below (s₁.setTop (entryFrame m #[.ref b, .int (Int32.ofNat o), .ref d, .int (Int32.ofNat q), .int (Int32.ofNat len)] 7)) (Tl.setTop (mkF m 31 #[.val (.ref b), .val (.int (Int32.ofNat (o + i))), .val (.ref d), .val (.int (Int32.ofNat (q + i))), .val (.int (Int32.ofNat len)), .val (.int (Int32.ofNat i)), .val (.int (cv A (o + i)))] [.int (lo8 (cv A (o + i))), .int (Int32.ofNat (q + i)), .ref d])) := c5.trans (by
        refine XS.iload Xl.here hexec rfl (hb hbytes d15) rfl ?_
        refine sipushV Xl.here hexec rfl 255 (hb hbytes d17) (by decide) ?_
        refine XS.icmpYes Xl.here hexec rfl (pc0 := 20) rfl (hb hbytes d20) rfl (ii_le_t (hp i (by omega))) (by decide) rfl ?_
        refine XS.aloadN Xl.here hexec rfl (hb hbytes d26) rfl rfl ?_
        refine XS.iloadN Xl.here hexec rfl (hb hbytes d27) rfl ?_
        refine XS.iload Xl.here hexec rfl (hb hbytes d28) rfl ?_
        refine i2b Xl.here hexec rfl (hb hbytes d30) rfl ?_
        exact Steps.refl _)
      obtain ⟨T7, X7, p7, st7⟩ := Xl.aput hexec hBk rfl hlt rfl (fits_lo8 (cv A (o + i))) (g := (mkF m 31 #[.val (.ref b), .val (.int (Int32.ofNat (o + i))), .val (.ref d), .val (.int (Int32.ofNat (q + i))), .val (.int (Int32.ofNat len)), .val (.int (Int32.ofNat i)), .val (.int (cv A (o + i)))] [.int (lo8 (cv A (o + i))), .int (Int32.ofNat (q + i)), .ref d])) rfl (rest := []) rfl (hb hbytes d31)
      have c8 : Steps p.tables e below (s₁.setTop (entryFrame m #[.ref b, .int (Int32.ofNat o), .ref d, .int (Int32.ofNat q), .int (Int32.ofNat len)] 7)) (T7.setTop (mkF m 32 #[.val (.ref b), .val (.int (Int32.ofNat (o + i))), .val (.ref d), .val (.int (Int32.ofNat (q + i))), .val (.int (Int32.ofNat len)), .val (.int (Int32.ofNat i)), .val (.int (cv A (o + i)))] [])) := c6.trans (st7 _ (Steps.refl _))
      have c9 : Steps p.tables e below (s₁.setTop (entryFrame m #[.ref b, .int (Int32.ofNat o), .ref d, .int (Int32.ofNat q), .int (Int32.ofNat len)] 7)) (T7.setTop (mkF m 3 #[.val (.ref b), .val (.int (Int32.ofNat (o + i) + 1)), .val (.ref d), .val (.int (Int32.ofNat (q + i) + 1)), .val (.int (Int32.ofNat len)), .val (.int (Int32.ofNat i + 1)), .val (.int (cv A (o + i)))] [])) := c8.trans (by
        refine iincV X7.here hexec rfl 1 (hb hbytes d32) (by decide) rfl rfl ?_
        refine iincV X7.here hexec rfl 1 (hb hbytes d35) (by decide) rfl rfl ?_
        refine iincV X7.here hexec rfl 1 (hb hbytes d38) (by decide) rfl rfl ?_
        refine XS.goto X7.here hexec rfl (pc0 := 41) rfl (hb hbytes d41) (by decide) rfl ?_
        exact Steps.refl _)
      have c10 : Steps p.tables e below (s₁.setTop (entryFrame m #[.ref b, .int (Int32.ofNat o), .ref d, .int (Int32.ofNat q), .int (Int32.ofNat len)] 7)) (T7.setTop (mkF m 3 #[.val (.ref b), .val (.int (Int32.ofNat (o + (i + 1)))), .val (.ref d), .val (.int (Int32.ofNat (q + (i + 1)))), .val (.int (Int32.ofNat len)), .val (.int (Int32.ofNat (i + 1))), .val (.int (cv A (o + i)))] [])) := by
        have := c9
        rw [succ32, succ32, succ32] at this
        exact this
      exact ih (i + 1) (by omega) _ (Or.inr ⟨_, rfl, rfl⟩) T7 _ (by rw [copyLocs_step, ← List.append_assoc]; exact X7) (pl.trans p7) (fl.step (by omega) hlt (by simp)) c10
  obtain ⟨T9, B9, z9, X9, p9, f9, g9⟩ := loop len 0 (by omega) .unset (Or.inl rfl) s₁ B (by simpa [copyLocs] using X0) ⟨hB0.1, fun _ _ => rfl, rfl⟩ (Laid.zero _ _ _) c2
  have c11 : Steps p.tables e below (s₁.setTop (entryFrame m #[.ref b, .int (Int32.ofNat o), .ref d, .int (Int32.ofNat q), .int (Int32.ofNat len)] 7)) (T9.setTop (mkF m 46 #[.val (.ref b), .val (.int (Int32.ofNat (o + len))), .val (.ref d), .val (.int (Int32.ofNat (q + len))), .val (.int (Int32.ofNat len)), .val (.int (Int32.ofNat len)), z9] [.int (Int32.ofNat len)])) := g9.trans (by
    refine XS.iload X9.here hexec rfl (hb hbytes d3) rfl ?_
    refine XS.iload X9.here hexec rfl (hb hbytes d5) rfl ?_
    refine XS.icmpYes X9.here hexec rfl (pc0 := 7) rfl (hb hbytes d7) rfl (ii_ge_t (nlt32 (by omega) (Nat.le_refl _))) (by decide) rfl ?_
    refine XS.iload X9.here hexec rfl (hb hbytes d44) rfl ?_
    exact Steps.refl _)
  exact ⟨T9, some (.int (Int32.ofNat len)), _, _, _, X9, by simp, rfl, rfl, (fun h => by cases h), ⟨rfl, B9, p9.from hh0, f9⟩, fun fs hl => c11.trans (X9.ireturnOut hexec hret rfl (Or.inl rfl) (hb hbytes d46) hl)⟩
end Cmp5
namespace Cmp3
def yN : MethodName := ⟨"java/lang/StringUTF16", "compress", "([CII)[B"⟩
abbrev yB : ByteArray := jdk_52_method_16_code
theorem d0 : decode yB 0 = .ok (.iload_n 2, 1) := by decide +kernel
theorem d1 : decode yB 1 = .ok (.newarray .byte, 2) := by decide +kernel
theorem d3 : decode yB 3 = .ok (.astore_n 3, 1) := by decide +kernel
theorem d4 : decode yB 4 = .ok (.aload_n 0, 1) := by decide +kernel
theorem d5 : decode yB 5 = .ok (.iload_n 1, 1) := by decide +kernel
theorem d6 : decode yB 6 = .ok (.aload_n 3, 1) := by decide +kernel
theorem d7 : decode yB 7 = .ok (.iconst 0, 1) := by decide +kernel
theorem d8 : decode yB 8 = .ok (.iload_n 2, 1) := by decide +kernel
theorem d9 : decode yB 9 = .ok (.invokestatic 115, 3) := by decide +kernel
theorem d12 : decode yB 12 = .ok (.istore 4, 2) := by decide +kernel
theorem d14 : decode yB 14 = .ok (.iload 4, 2) := by decide +kernel
theorem d16 : decode yB 16 = .ok (.iload_n 2, 1) := by decide +kernel
theorem d17 : decode yB 17 = .ok (.if_icmp (.eq) 40, 3) := by decide +kernel
theorem d57 : decode yB 57 = .ok (.aload_n 3, 1) := by decide +kernel
theorem d58 : decode yB 58 = .ok (.areturn, 1) := by decide +kernel
def site : List Cond := [.arrayClass .byte, Cmp5.tab] ++ staticW U16 115 Cmp5.yN
def tab : Cond := tabOf yN yB 6 (some (.array .byte)) site
def P (b : Addr) (A : Cell) (o len : Nat) (args : Array Value) (s : State) : Prop := args = #[.ref b, .int (Int32.ofNat o), .int (Int32.ofNat len)] ∧ Ch b A s ∧ o + len ≤ A.slots.size ∧ len ≤ 536870912 ∧ ∀ i, i < len → ¬ 255 < cv A (o + i)
def E (b : Addr) (A : Cell) (o len : Nat) (r : Option Value) (s u : State) : Prop := NewArr .byte "[B" len (fun j => .int (lo8 (cv A (o + j)))) r s u ∧ u.heap.size = s.heap.size + 1
/-- no char of the range above 255: a new byte[] of their low bytes -/
theorem law (l : Launch) (b : Addr) (A : Cell) (o len : Nat) : Law l yN 3 3 1 18 yB 6 (some (.array .byte)) site (P b A o len) (E b A o len) [] 1 len := by
  refine Law.of_walk (plainFor_of_name (by decide +kernel)) (by decide +kernel) (by decide +kernel) (by decide) (fun _ _ h => by rw [h.1]; rfl) (fun _ U U' hal hh h => ⟨h.1, h.2.1.mv hal hh, h.2.2⟩) (fun r U U' V V' h1 hal h2 h => ⟨NewArr.mv r U U' V V' h1 hal h2 h.1, by rw [h1, h2]; exact h.2⟩) ?_
  intro p e s m args below meth c s₁ X0 hexec hbytes hml hret hlk hnm hown hh0 W hP
  obtain ⟨rfl, hA, l1, l2, hp⟩ := hP
  have a31 := hA.1.2.2.2
  have c1 : Steps p.tables e below (s₁.setTop (entryFrame m #[.ref b, .int (Int32.ofNat o), .int (Int32.ofNat len)] 6)) (s₁.setTop (mkF m 0 #[.val (.ref b), .val (.int (Int32.ofNat o)), .val (.int (Int32.ofNat len)), .unset, .unset, .unset] [])) := entry rfl
  have c2 : Steps p.tables e below (s₁.setTop (entryFrame m #[.ref b, .int (Int32.ofNat o), .int (Int32.ofNat len)] 6)) (s₁.setTop (mkF m 1 #[.val (.ref b), .val (.int (Int32.ofNat o)), .val (.int (Int32.ofNat len)), .unset, .unset, .unset] [.int (Int32.ofNat len)])) := c1.trans (by
    refine XS.iloadN X0.here hexec rfl (hb hbytes d0) rfl ?_
    exact Steps.refl _)
  obtain ⟨T3, B3, X3, ba3, bs3, bv3, bh3, bf3, st3⟩ := X0.anew hexec (atype := .byte) (wk W (.arrayClass .byte)) rfl (by show len * 1 ≤ _; omega) (by omega) (g := (mkF m 1 #[.val (.ref b), .val (.int (Int32.ofNat o)), .val (.int (Int32.ofNat len)), .unset, .unset, .unset] [.int (Int32.ofNat len)])) rfl (hb hbytes d1) (rest := []) rfl (Nat.le_refl _) (by show 0 + len ≤ len; omega)
  rw [hh0] at ba3 st3
  have kp3 : XT.Kept s T3 := (XT.Kept.of_eq hh0).push bh3
  have hA3 := hA.keep X3.warmed.alike (kp3 _ _ hA.1.1)
  have hne : b ≠ s.heap.size := hA.1.ne
  have c4 : Steps p.tables e below (s₁.setTop (entryFrame m #[.ref b, .int (Int32.ofNat o), .int (Int32.ofNat len)] 6)) (T3.setTop (mkF m 3 #[.val (.ref b), .val (.int (Int32.ofNat o)), .val (.int (Int32.ofNat len)), .unset, .unset, .unset] [.ref s.heap.size])) := c2.trans (st3 _ (Steps.refl _))
  have c5 : Steps p.tables e below (s₁.setTop (entryFrame m #[.ref b, .int (Int32.ofNat o), .int (Int32.ofNat len)] 6)) (T3.setTop (mkF m 9 #[.val (.ref b), .val (.int (Int32.ofNat o)), .val (.int (Int32.ofNat len)), .val (.ref s.heap.size), .unset, .unset] [.int (Int32.ofNat len), .int 0, .ref s.heap.size, .int (Int32.ofNat o), .ref b])) := c4.trans (by
    refine XS.astoreN X3.here hexec rfl (hb hbytes d3) rfl rfl rfl ?_
    refine XS.aloadN X3.here hexec rfl (hb hbytes d4) rfl rfl ?_
    refine XS.iloadN X3.here hexec rfl (hb hbytes d5) rfl ?_
    refine XS.aloadN X3.here hexec rfl (hb hbytes d6) rfl rfl ?_
    refine iconstV X3.here hexec rfl 0 (hb hbytes d7) (by decide) ?_
    refine XS.iloadN X3.here hexec rfl (hb hbytes d8) rfl ?_
    exact Steps.refl _)
  obtain ⟨v6, T6, X6, E6, g6⟩ := X3.callS hexec (Cmp5.law l b A s.heap.size B3 o 0 len) hown (wks W (staticW U16 115 Cmp5.yN)) (wk W Cmp5.tab) (W := 0) (Nat.le_of_ble_eq_true rfl) (Nat.le_of_ble_eq_true rfl) (Nat.le_refl _) (by show 0 + len + 0 ≤ len; omega) (g := (mkF m 9 #[.val (.ref b), .val (.int (Int32.ofNat o)), .val (.int (Int32.ofNat len)), .val (.ref s.heap.size), .unset, .unset] [.int (Int32.ofNat len), .int (Int32.ofNat 0), .ref s.heap.size, .int (Int32.ofNat o), .ref b])) rfl (by rw [hml]; rfl) c5 (argsL := [.ref b, .int (Int32.ofNat o), .ref s.heap.size, .int (Int32.ofNat 0), .int (Int32.ofNat len)]) (rest := []) rfl rfl (by show 2 * 0 + 0 ≤ _; decide) (hb hbytes d9) (⟨rfl, hA3, ba3, hne, l1, by rw [bs3]; simp, hp⟩)
  obtain ⟨rfl, B6, p6, f6⟩ := E6
  have c7 : Steps p.tables e below (s₁.setTop (entryFrame m #[.ref b, .int (Int32.ofNat o), .int (Int32.ofNat len)] 6)) (T6.setTop (mkF m 12 #[.val (.ref b), .val (.int (Int32.ofNat o)), .val (.int (Int32.ofNat len)), .val (.ref s.heap.size), .unset, .unset] [.int (Int32.ofNat len)])) := g6
  have c8 : Steps p.tables e below (s₁.setTop (entryFrame m #[.ref b, .int (Int32.ofNat o), .int (Int32.ofNat len)] 6)) (T6.setTop (mkF m 58 #[.val (.ref b), .val (.int (Int32.ofNat o)), .val (.int (Int32.ofNat len)), .val (.ref s.heap.size), .val (.int (Int32.ofNat len)), .unset] [.ref s.heap.size])) := c7.trans (by
    refine XS.istore X6.here hexec rfl (hb hbytes d12) rfl rfl ?_
    refine XS.iload X6.here hexec rfl (hb hbytes d14) rfl ?_
    refine XS.iloadN X6.here hexec rfl (hb hbytes d16) rfl ?_
    refine XS.icmpYes X6.here hexec rfl (pc0 := 17) rfl (hb hbytes d17) rfl (ii_eq_t rfl) (by decide) rfl ?_
    refine XS.aloadN X6.here hexec rfl (hb hbytes d57) rfl rfl ?_
    exact Steps.refl _)
  have X8 := X6.wide (L' := []) (cells' := 1) (slots' := len) (fun x hx hlt => by
    simp only [List.nil_append, copyLocs, List.mem_map, List.mem_range] at hx
    obtain ⟨i, -, rfl⟩ := hx
    exact absurd hlt (Nat.lt_irrefl _)) (Nat.le_refl _) (by omega)
  exact ⟨T6, some (.ref s.heap.size), _, _, _, X8, rfl, rfl, rfl, (fun h => by cases h), ⟨⟨rfl, B6, ba3.like (X3.warmed.alike.symm.trans X6.warmed.alike) p6.1 f6.1 f6.2.1 f6.2.2.1, f6.2.1.trans bv3, by rw [X6.warmed.alike.findClass, f6.1]; exact bf3, by rw [f6.2.2.1, bs3]; simp, fun j hj => by rw [f6.2.2.2 j, if_pos (by omega)]; rfl, kp3.put p6 (Nat.le_refl _)⟩, by rw [p6.2.2, bh3, hh0]; simp⟩, fun fs hl => c8.trans (X8.areturnOut hexec rfl hret rfl (hb hbytes d58) hl)⟩
end Cmp3
namespace CodL
def yN : MethodName := ⟨"java/lang/StringUTF16", "coderFromArrayLen", "([BI)B"⟩
abbrev yB : ByteArray := jdk_52_method_15_code
theorem d0 : decode yB 0 = .ok (.iload_n 1, 1) := by decide +kernel
theorem d1 : decode yB 1 = .ok (.aload_n 0, 1) := by decide +kernel
theorem d2 : decode yB 2 = .ok (.arraylength, 1) := by decide +kernel
theorem d3 : decode yB 3 = .ok (.isub, 1) := by decide +kernel
theorem d4 : decode yB 4 = .ok (.bipush 31, 2) := by decide +kernel
theorem d6 : decode yB 6 = .ok (.iushr, 1) := by decide +kernel
theorem d7 : decode yB 7 = .ok (.i2b, 1) := by decide +kernel
theorem d8 : decode yB 8 = .ok (.ireturn, 1) := by decide +kernel
def site : List Cond := []
def tab : Cond := tabOf yN yB 2 (some .byte) site
def P (d : Addr) (B : Cell) (args : Array Value) (s : State) : Prop := args = #[.ref d, .int (Int32.ofNat B.slots.size)] ∧ Arr .byte d B s
def E (r : Option Value) (s u : State) : Prop := XT.PureE (some (.int 0)) r s u
/-- an array as long as the number of chars: LATIN1 -/
theorem law (l : Launch) (d : Addr) (B : Cell) : Law l yN 2 2 0 0 yB 2 (some .byte) site (P d B) E [] 0 0 := by
  refine Law.of_walk (plainFor_of_name (by decide +kernel)) (by decide +kernel) (by decide +kernel) (by decide) (fun _ _ h => by rw [h.1]; rfl) (fun _ U U' hal hh h => ⟨h.1, h.2.mv hal hh⟩) (fun r U U' V V' h1 hal h2 h => XT.PureE.mv r U U' V V' h1 hal h2 h) ?_
  intro p e s m args below meth c s₁ X0 hexec hbytes hml hret hlk hnm hown hh0 W hP
  obtain ⟨rfl, hB⟩ := hP
  have hB0 := hB.mv X0.warmed.alike hh0
  have c1 : Steps p.tables e below (s₁.setTop (entryFrame m #[.ref d, .int (Int32.ofNat B.slots.size)] 2)) (s₁.setTop (mkF m 0 #[.val (.ref d), .val (.int (Int32.ofNat B.slots.size))] [])) := entry rfl
  have c2 : Steps p.tables e below (s₁.setTop (entryFrame m #[.ref d, .int (Int32.ofNat B.slots.size)] 2)) (s₁.setTop (mkF m 2 #[.val (.ref d), .val (.int (Int32.ofNat B.slots.size))] [.ref d, .int (Int32.ofNat B.slots.size)])) := c1.trans (by
    refine XS.iloadN X0.here hexec rfl (hb hbytes d0) rfl ?_
    refine XS.aloadN X0.here hexec rfl (hb hbytes d1) rfl rfl ?_
    exact Steps.refl _)
  have c3 : Steps p.tables e below (s₁.setTop (entryFrame m #[.ref d, .int (Int32.ofNat B.slots.size)] 2)) (s₁.setTop (mkF m 8 #[.val (.ref d), .val (.int (Int32.ofNat B.slots.size))] [.int (lo8 (ushr (Int32.ofNat B.slots.size - Int32.ofNat B.slots.size) 31))])) := c2.trans (by
    refine X0.alen hexec hB0 rfl rfl (hb hbytes d2) ?_
    refine XS.isub X0.here hexec rfl (hb hbytes d3) rfl ?_
    refine bipushV X0.here hexec rfl 31 (hb hbytes d4) (by decide) ?_
    refine iushr X0.here hexec rfl (hb hbytes d6) rfl ?_
    refine i2b X0.here hexec rfl (hb hbytes d7) rfl ?_
    exact Steps.refl _)
  have e0 : lo8 (ushr (Int32.ofNat B.slots.size - Int32.ofNat B.slots.size) 31) = 0 := by rw [Int32.sub_self]; decide
  rw [e0] at c3
  exact ⟨s₁, some (.int 0), _, _, _, X0, rfl, rfl, rfl, (fun h => by cases h), ⟨rfl, hh0⟩, fun fs hl => c3.trans (X0.ireturnOut hexec hret rfl (Or.inr (Or.inr (Or.inl rfl))) (hb hbytes d8) hl)⟩
end CodL
/-- the String at a is Latin-1 over a new byte[] (the heap's one new cell): the low bytes of the len chars of A from o on; every cell but a is kept -/
def Got (a : Addr) (D : Cell) (fV fC : Field) (A : Cell) (o len : Nat) (r : Option Value) (s u : State) : Prop := r = none ∧ ∃ D' V : Cell, Blank "java/lang/String" a D' u ∧ Same D D' [fV.slot, fC.slot] ∧ D'.slots[fV.slot]? = some (.ref s.heap.size) ∧ D'.slots[fC.slot]? = some (.int 0) ∧ Arr .byte s.heap.size V u ∧ V.vm = .none ∧ u.vm.findClass "[B" = some V.cls ∧ V.slots.size = len ∧ (∀ j, j < len → V.slots[j]? = some (.int (lo8 (cv A (o + j))))) ∧ (∀ (y : Addr) (c : Cell), y ≠ a → s.heap[y]? = some c → u.heap[y]? = some c) ∧ u.heap.size = s.heap.size + 1
theorem Got.mv {a : Addr} {D A : Cell} {fV fC : Field} {o len : Nat} : ∀ r (U U' V V' : State), U'.heap = U.heap → V.vm.Alike V'.vm → V'.heap = V.heap → Got a D fV fC A o len r U V → Got a D fV fC A o len r U' V' :=
  fun r U U' V V' h1 hal h2 ⟨e0, D', X, a1, a2, a3, a4, a5, a6, a7, a8, a9, a10, a11⟩ => ⟨e0, D', X, a1.mv hal h2, a2, by rw [h1]; exact a3, a4, by rw [h1]; exact a5.mv hal h2, a6, by rw [hal.findClass]; exact a7, a8, a9, by rw [h1, h2]; exact a10, by rw [h1, h2]; exact a11⟩
namespace New4
def yN : MethodName := ⟨"java/lang/String", "<init>", "([CIILjava/lang/Void;)V"⟩
abbrev yB : ByteArray := jdk_42_method_149_code
theorem d0 : decode yB 0 = .ok (.aload_n 0, 1) := by decide +kernel
theorem d1 : decode yB 1 = .ok (.invokespecial 1, 3) := by decide +kernel
theorem d4 : decode yB 4 = .ok (.iload_n 3, 1) := by decide +kernel
theorem d5 : decode yB 5 = .ok (.ifCond (.ne) 22, 3) := by decide +kernel
theorem d27 : decode yB 27 = .ok (.getstatic 38, 3) := by decide +kernel
theorem d30 : decode yB 30 = .ok (.ifCond (.eq) 28, 3) := by decide +kernel
theorem d33 : decode yB 33 = .ok (.aload_n 1, 1) := by decide +kernel
theorem d34 : decode yB 34 = .ok (.iload_n 2, 1) := by decide +kernel
theorem d35 : decode yB 35 = .ok (.iload_n 3, 1) := by decide +kernel
theorem d36 : decode yB 36 = .ok (.invokestatic 177, 3) := by decide +kernel
theorem d39 : decode yB 39 = .ok (.astore 5, 2) := by decide +kernel
theorem d41 : decode yB 41 = .ok (.aload_n 0, 1) := by decide +kernel
theorem d42 : decode yB 42 = .ok (.aload 5, 2) := by decide +kernel
theorem d44 : decode yB 44 = .ok (.iload_n 3, 1) := by decide +kernel
theorem d45 : decode yB 45 = .ok (.invokestatic 47, 3) := by decide +kernel
theorem d48 : decode yB 48 = .ok (.putfield 15, 3) := by decide +kernel
theorem d51 : decode yB 51 = .ok (.aload_n 0, 1) := by decide +kernel
theorem d52 : decode yB 52 = .ok (.aload 5, 2) := by decide +kernel
theorem d54 : decode yB 54 = .ok (.putfield 9, 3) := by decide +kernel
theorem d57 : decode yB 57 = .ok (.return_, 1) := by decide +kernel
def site : List Cond := [.fieldLink "java/lang/String" 38 "java/lang/String" "COMPACT_STRINGS" "Z", Cmp3.tab, CodL.tab, .laysFinal "java/lang/String" "java/lang/String" "value" "[B", .fieldLink "java/lang/String" 9 "java/lang/String" "value" "[B", .laysFinal "java/lang/String" "java/lang/String" "coder" "B", .fieldLink "java/lang/String" 15 "java/lang/String" "coder" "B"] ++ objW "java/lang/String" 1 ++ staticW "java/lang/String" 177 Cmp3.yN ++ staticW "java/lang/String" 47 CodL.yN
def tab : Cond := tabOf yN yB 6 none site
def P (a : Addr) (D : Cell) (fV fC : Field) (b : Addr) (A : Cell) (z : Int32) (o len : Nat) (args : Array Value) (s : State) : Prop := args = #[.ref a, .ref b, .int (Int32.ofNat o), .int (Int32.ofNat len), .null] ∧ Blank "java/lang/String" a D s ∧ Found "java/lang/String" "value" "[B" fV s ∧ Found "java/lang/String" "coder" "B" fC s ∧ Ch b A s ∧ StaticIs s "java/lang/String" "COMPACT_STRINGS" "Z" (.int z) ∧ ¬ z = 0 ∧ 0 < len ∧ o + len ≤ A.slots.size ∧ len ≤ 536870912 ∧ ∀ i, i < len → ¬ 255 < cv A (o + i)
def E (a : Addr) (D : Cell) (fV fC : Field) (A : Cell) (o len : Nat) (r : Option Value) (s u : State) : Prop := Got a D fV fC A o len r s u
/-- len > 0, no char of the range above 255: a Latin-1 String of their low bytes -/
theorem law (l : Launch) (a : Addr) (D : Cell) (fV fC : Field) (b : Addr) (A : Cell) (z : Int32) (o len : Nat) : Law l yN 5 4 2 35 yB 6 none site (P a D fV fC b A z o len) (E a D fV fC A o len) [⟨a, fC.slot⟩, ⟨a, fV.slot⟩] 1 len := by
  refine Law.of_walk (plainFor_of_name (by decide +kernel)) (by decide +kernel) (by decide +kernel) (by decide) (fun _ _ h => by rw [h.1]; rfl) (fun _ U U' hal hh h => ⟨h.1, h.2.1.mv hal hh, h.2.2.1.al hal, h.2.2.2.1.al hal, h.2.2.2.2.1.mv hal hh, h.2.2.2.2.2.1.there hal hh, h.2.2.2.2.2.2⟩) (fun r U U' V V' h1 hal h2 h => Got.mv r U U' V V' h1 hal h2 h) ?_
  intro p e s m args below meth c s₁ X0 hexec hbytes hml hret hlk hnm hown hh0 W hP
  obtain ⟨rfl, hB, f1, f2, hA, s1, hz, l0, l1, l2, hp⟩ := hP
  have a31 := hA.1.2.2.2
  have c1 : Steps p.tables e below (s₁.setTop (entryFrame m #[.ref a, .ref b, .int (Int32.ofNat o), .int (Int32.ofNat len), .null] 6)) (s₁.setTop (mkF m 0 #[.val (.ref a), .val (.ref b), .val (.int (Int32.ofNat o)), .val (.int (Int32.ofNat len)), .val .null, .unset] [])) := entry rfl
  have c2 : Steps p.tables e below (s₁.setTop (entryFrame m #[.ref a, .ref b, .int (Int32.ofNat o), .int (Int32.ofNat len), .null] 6)) (s₁.setTop (mkF m 1 #[.val (.ref a), .val (.ref b), .val (.int (Int32.ofNat o)), .val (.int (Int32.ofNat len)), .val .null, .unset] [.ref a])) := c1.trans (by
    refine XS.aloadN X0.here hexec rfl (hb hbytes d0) rfl rfl ?_
    exact Steps.refl _)
  obtain ⟨T3, X3, q3, st3⟩ := X0.oinit hexec hown (wks W (objW "java/lang/String" 1)) (g := (mkF m 1 #[.val (.ref a), .val (.ref b), .val (.int (Int32.ofNat o)), .val (.int (Int32.ofNat len)), .val .null, .unset] [.ref a])) rfl (by rw [hml]; rfl) (rest := []) rfl (hb hbytes d1) (W := 0) (by show 2 * 0 + 0 ≤ _; decide) (Nat.le_of_ble_eq_true rfl) (Nat.le_of_ble_eq_true rfl)
  have hh3 := q3.trans hh0
  have c4 : Steps p.tables e below (s₁.setTop (entryFrame m #[.ref a, .ref b, .int (Int32.ofNat o), .int (Int32.ofNat len), .null] 6)) (T3.setTop (mkF m 27 #[.val (.ref a), .val (.ref b), .val (.int (Int32.ofNat o)), .val (.int (Int32.ofNat len)), .val .null, .unset] [])) := (c2.trans (st3 _ (Steps.refl _))).trans (by
    refine XS.iloadN X3.here hexec rfl (hb hbytes d4) rfl ?_
    refine XS.ifYes X3.here hexec rfl (pc0 := 5) rfl (hb hbytes d5) rfl (i0_ne_t (nz32 (by omega) l0)) (by decide) rfl ?_
    exact Steps.refl _)
  obtain ⟨T5, X5, q5, st5⟩ := X3.sget hexec hown (wk W (.fieldLink "java/lang/String" 38 "java/lang/String" "COMPACT_STRINGS" "Z")) s1 (fun _ _ h => by rw [hh3]; exact h) (g := (mkF m 27 #[.val (.ref a), .val (.ref b), .val (.int (Int32.ofNat o)), .val (.int (Int32.ofNat len)), .val .null, .unset] [])) rfl (hb hbytes d27)
  have hh5 := q5.trans hh3
  have c6 : Steps p.tables e below (s₁.setTop (entryFrame m #[.ref a, .ref b, .int (Int32.ofNat o), .int (Int32.ofNat len), .null] 6)) (T5.setTop (mkF m 30 #[.val (.ref a), .val (.ref b), .val (.int (Int32.ofNat o)), .val (.int (Int32.ofNat len)), .val .null, .unset] [.int z])) := c4.trans (st5 _ (Steps.refl _))
  have c7 : Steps p.tables e below (s₁.setTop (entryFrame m #[.ref a, .ref b, .int (Int32.ofNat o), .int (Int32.ofNat len), .null] 6)) (T5.setTop (mkF m 36 #[.val (.ref a), .val (.ref b), .val (.int (Int32.ofNat o)), .val (.int (Int32.ofNat len)), .val .null, .unset] [.int (Int32.ofNat len), .int (Int32.ofNat o), .ref b])) := c6.trans (by
    refine XS.ifNo X5.here hexec rfl (hb hbytes d30) rfl (i0_eq_f hz) ?_
    refine XS.aloadN X5.here hexec rfl (hb hbytes d33) rfl rfl ?_
    refine XS.iloadN X5.here hexec rfl (hb hbytes d34) rfl ?_
    refine XS.iloadN X5.here hexec rfl (hb hbytes d35) rfl ?_
    exact Steps.refl _)
  obtain ⟨v8, T8, X8, E8, g8⟩ := X5.callS hexec (Cmp3.law l b A o len) hown (wks W (staticW "java/lang/String" 177 Cmp3.yN)) (wk W Cmp3.tab) (W := 0) (Nat.le_of_ble_eq_true rfl) (Nat.le_of_ble_eq_true rfl) (Nat.le_refl _) (by show 0 + len ≤ len; omega) (g := (mkF m 36 #[.val (.ref a), .val (.ref b), .val (.int (Int32.ofNat o)), .val (.int (Int32.ofNat len)), .val .null, .unset] [.int (Int32.ofNat len), .int (Int32.ofNat o), .ref b])) rfl (by rw [hml]; rfl) c7 (argsL := [.ref b, .int (Int32.ofNat o), .int (Int32.ofNat len)]) (rest := []) rfl rfl (by show 2 * 0 + 0 ≤ _; decide) (hb hbytes d36) (⟨rfl, hA.mv X5.warmed.alike hh5, l1, l2, hp⟩)
  obtain ⟨e8, z8⟩ := E8
  obtain ⟨rfl, N, n1, n2, n3, n4, n5, n6⟩ := NewArr.mv _ T5 s _ _ hh5.symm (Vm.Alike.refl _) rfl e8
  rw [hh5] at z8
  have hB1 := hB.keep X8.warmed.alike (n6 _ _ hB.1)
  have hne : s.heap.size ≠ a := (Nat.ne_of_lt (Array.getElem?_eq_some_iff.mp hB.1).1).symm
  have c9 : Steps p.tables e below (s₁.setTop (entryFrame m #[.ref a, .ref b, .int (Int32.ofNat o), .int (Int32.ofNat len), .null] 6)) (T8.setTop (mkF m 39 #[.val (.ref a), .val (.ref b), .val (.int (Int32.ofNat o)), .val (.int (Int32.ofNat len)), .val .null, .unset] [.ref s.heap.size])) := g8
  have c10 : Steps p.tables e below (s₁.setTop (entryFrame m #[.ref a, .ref b, .int (Int32.ofNat o), .int (Int32.ofNat len), .null] 6)) (T8.setTop (mkF m 45 #[.val (.ref a), .val (.ref b), .val (.int (Int32.ofNat o)), .val (.int (Int32.ofNat len)), .val .null, .val (.ref s.heap.size)] [.int (Int32.ofNat N.slots.size), .ref s.heap.size, .ref a])) := by
    have hc : Steps p.tables e below (s₁.setTop (entryFrame m #[.ref a, .ref b, .int (Int32.ofNat o), .int (Int32.ofNat len), .null] 6)) (T8.setTop (mkF m 45 #[.val (.ref a), .val (.ref b), .val (.int (Int32.ofNat o)), .val (.int (Int32.ofNat len)), .val .null, .val (.ref s.heap.size)] [.int (Int32.ofNat len), .ref s.heap.size, .ref a])) := c9.trans (by
      refine XS.astore X8.here hexec rfl (hb hbytes d39) rfl rfl rfl ?_
      refine XS.aloadN X8.here hexec rfl (hb hbytes d41) rfl rfl ?_
      refine XS.aload X8.here hexec rfl (hb hbytes d42) rfl rfl ?_
      refine XS.iloadN X8.here hexec rfl (hb hbytes d44) rfl ?_
      exact Steps.refl _)
    rw [n4]; exact hc
  obtain ⟨v11, T11, X11, E11, g11⟩ := X8.callS hexec (CodL.law l s.heap.size N) hown (wks W (staticW "java/lang/String" 47 CodL.yN)) (wk W CodL.tab) (W := 1) (Nat.le_of_ble_eq_true rfl) (Nat.le_of_ble_eq_true rfl) (Nat.le_refl _) (by show 0 + len + 0 ≤ len; omega) (g := (mkF m 45 #[.val (.ref a), .val (.ref b), .val (.int (Int32.ofNat o)), .val (.int (Int32.ofNat len)), .val .null, .val (.ref s.heap.size)] [.int (Int32.ofNat N.slots.size), .ref s.heap.size, .ref a])) rfl (by rw [hml]; rfl) c10 (argsL := [.ref s.heap.size, .int (Int32.ofNat N.slots.size)]) (rest := [.ref a]) rfl rfl (by show 2 * 0 + (1 + 0) ≤ _; decide) (hb hbytes d45) (⟨rfl, n1⟩)
  obtain ⟨rfl, q11⟩ := E11
  have hB11 := hB1.mv (X8.warmed.alike.symm.trans X11.warmed.alike) q11
  have c12 : Steps p.tables e below (s₁.setTop (entryFrame m #[.ref a, .ref b, .int (Int32.ofNat o), .int (Int32.ofNat len), .null] 6)) (T11.setTop (mkF m 48 #[.val (.ref a), .val (.ref b), .val (.int (Int32.ofNat o)), .val (.int (Int32.ofNat len)), .val .null, .val (.ref s.heap.size)] [.int 0, .ref a])) := g11
  obtain ⟨T13, X13, p13, bl13, sl13, st13⟩ := X11.finit hexec hown (wk W (.fieldLink "java/lang/String" 15 "java/lang/String" "coder" "B")) (Or.inr ⟨_, (wk W (.laysFinal "java/lang/String" "java/lang/String" "coder" "B"))⟩) (Or.inl ⟨rfl, hnm⟩) f2 (Or.inl rfl) hB11 (t := .byte) (by decide +kernel) rfl (g := (mkF m 48 #[.val (.ref a), .val (.ref b), .val (.int (Int32.ofNat o)), .val (.int (Int32.ofNat len)), .val .null, .val (.ref s.heap.size)] [.int 0, .ref a])) rfl (rest := []) rfl (hb hbytes d48)
  have c14 : Steps p.tables e below (s₁.setTop (entryFrame m #[.ref a, .ref b, .int (Int32.ofNat o), .int (Int32.ofNat len), .null] 6)) (T13.setTop (mkF m 54 #[.val (.ref a), .val (.ref b), .val (.int (Int32.ofNat o)), .val (.int (Int32.ofNat len)), .val .null, .val (.ref s.heap.size)] [.ref s.heap.size, .ref a])) := (c12.trans (st13 _ (Steps.refl _))).trans (by
    refine XS.aloadN X13.here hexec rfl (hb hbytes d51) rfl rfl ?_
    refine XS.aload X13.here hexec rfl (hb hbytes d52) rfl rfl ?_
    exact Steps.refl _)
  obtain ⟨T15, X15, p15, bl15, sl15, st15⟩ := X13.finit hexec hown (wk W (.fieldLink "java/lang/String" 9 "java/lang/String" "value" "[B")) (Or.inr ⟨_, (wk W (.laysFinal "java/lang/String" "java/lang/String" "value" "[B"))⟩) (Or.inl ⟨rfl, hnm⟩) f1 (Or.inl rfl) bl13 (t := (.array .byte)) (by decide +kernel) rfl (g := (mkF m 54 #[.val (.ref a), .val (.ref b), .val (.int (Int32.ofNat o)), .val (.int (Int32.ofNat len)), .val .null, .val (.ref s.heap.size)] [.ref s.heap.size, .ref a])) rfl (rest := []) rfl (hb hbytes d54)
  have c16 : Steps p.tables e below (s₁.setTop (entryFrame m #[.ref a, .ref b, .int (Int32.ofNat o), .int (Int32.ofNat len), .null] 6)) (T15.setTop (mkF m 57 #[.val (.ref a), .val (.ref b), .val (.int (Int32.ofNat o)), .val (.int (Int32.ofNat len)), .val .null, .val (.ref s.heap.size)] [])) := c14.trans (st15 _ (Steps.refl _))
  have ap := apart (Or.inr ⟨_, (wk W (.laysFinal "java/lang/String" "java/lang/String" "value" "[B"))⟩) (Or.inr ⟨_, (wk W (.laysFinal "java/lang/String" "java/lang/String" "coder" "B"))⟩) f1 f2 (t₁ := .array .byte) (t₂ := .byte) (by decide +kernel) (by decide +kernel) (by decide)
  have al := X8.warmed.alike.symm.trans X15.warmed.alike
  have n7 : T11.heap[s.heap.size]? = some N := by rw [q11]; exact n1.1
  exact ⟨T15, none, _, _, _, X15, by simp, rfl, by omega, (fun _ => rfl), ⟨rfl, _, N, bl15, ((Same.refl D _).set _ (by simp)).set _ (by simp), sl15, (Cell.slots_setSlot_ne _ ap).trans sl13, n1.keep al (p15.other hne (p13.other hne n7)), n2, by rw [al.findClass]; exact n3, n4, n5, fun y c h1 h2 => p15.other h1 (p13.other h1 (by rw [q11]; exact n6 y c h2)), by rw [p15.2.2, p13.2.2, q11]; exact z8⟩, fun fs hl => c16.trans (X15.returnOut hexec hret (hb hbytes d57) hl)⟩
end New4
namespace New1
def yN : MethodName := ⟨"java/lang/String", "<init>", "([C)V"⟩
abbrev yB : ByteArray := jdk_42_method_3_code
theorem d0 : decode yB 0 = .ok (.aload_n 0, 1) := by decide +kernel
theorem d1 : decode yB 1 = .ok (.aload_n 1, 1) := by decide +kernel
theorem d2 : decode yB 2 = .ok (.iconst 0, 1) := by decide +kernel
theorem d3 : decode yB 3 = .ok (.aload_n 1, 1) := by decide +kernel
theorem d4 : decode yB 4 = .ok (.arraylength, 1) := by decide +kernel
theorem d5 : decode yB 5 = .ok (.aconst_null, 1) := by decide +kernel
theorem d6 : decode yB 6 = .ok (.invokespecial 27, 3) := by decide +kernel
theorem d9 : decode yB 9 = .ok (.return_, 1) := by decide +kernel
def site : List Cond := [New4.tab] ++ initW "java/lang/String" 27 New4.yN
def tab : Cond := tabOf yN yB 2 none site
def P (a : Addr) (D : Cell) (fV fC : Field) (b : Addr) (A : Cell) (z : Int32) (args : Array Value) (s : State) : Prop := args = #[.ref a, .ref b] ∧ Blank "java/lang/String" a D s ∧ Found "java/lang/String" "value" "[B" fV s ∧ Found "java/lang/String" "coder" "B" fC s ∧ Ch b A s ∧ StaticIs s "java/lang/String" "COMPACT_STRINGS" "Z" (.int z) ∧ ¬ z = 0 ∧ 0 < A.slots.size ∧ A.slots.size ≤ 536870912 ∧ ∀ i, i < A.slots.size → ¬ 255 < cv A i
def E (a : Addr) (D : Cell) (fV fC : Field) (A : Cell) (r : Option Value) (s u : State) : Prop := Got a D fV fC A 0 A.slots.size r s u
/-- new String(chars), not empty, no char above 255: a Latin-1 String of their low bytes -/
theorem law (l : Launch) (a : Addr) (D : Cell) (fV fC : Field) (b : Addr) (A : Cell) (z : Int32) : Law l yN 2 1 3 52 yB 2 none site (P a D fV fC b A z) (E a D fV fC A) [⟨a, fC.slot⟩, ⟨a, fV.slot⟩] 1 A.slots.size := by
  refine Law.of_walk (plainFor_of_name (by decide +kernel)) (by decide +kernel) (by decide +kernel) (by decide) (fun _ _ h => by rw [h.1]; rfl) (fun _ U U' hal hh h => ⟨h.1, h.2.1.mv hal hh, h.2.2.1.al hal, h.2.2.2.1.al hal, h.2.2.2.2.1.mv hal hh, h.2.2.2.2.2.1.there hal hh, h.2.2.2.2.2.2⟩) (fun r U U' V V' h1 hal h2 h => Got.mv r U U' V V' h1 hal h2 h) ?_
  intro p e s m args below meth c s₁ X0 hexec hbytes hml hret hlk hnm hown hh0 W hP
  obtain ⟨rfl, hB, f1, f2, hA, s1, hz, l0, l2, hp⟩ := hP
  have c1 : Steps p.tables e below (s₁.setTop (entryFrame m #[.ref a, .ref b] 2)) (s₁.setTop (mkF m 0 #[.val (.ref a), .val (.ref b)] [])) := entry rfl
  have c2 : Steps p.tables e below (s₁.setTop (entryFrame m #[.ref a, .ref b] 2)) (s₁.setTop (mkF m 6 #[.val (.ref a), .val (.ref b)] [.null, .int (Int32.ofNat A.slots.size), .int 0, .ref b, .ref a])) := c1.trans (by
    refine XS.aloadN X0.here hexec rfl (hb hbytes d0) rfl rfl ?_
    refine XS.aloadN X0.here hexec rfl (hb hbytes d1) rfl rfl ?_
    refine iconstV X0.here hexec rfl 0 (hb hbytes d2) (by decide) ?_
    refine XS.aloadN X0.here hexec rfl (hb hbytes d3) rfl rfl ?_
    refine X0.alen hexec (hA.1.mv X0.warmed.alike hh0) rfl rfl (hb hbytes d4) ?_
    refine XS.aconstNull X0.here hexec rfl (hb hbytes d5) ?_
    exact Steps.refl _)
  obtain ⟨v3, T3, X3, E3, g3⟩ := X0.callN hexec (New4.law l a D fV fC b A z 0 A.slots.size) rfl hown (wks W (initW "java/lang/String" 27 New4.yN)) (W New4.tab (by simp only [site, List.mem_cons, List.mem_append, true_or, or_true])) (W := 0) (Nat.le_of_ble_eq_true rfl) (Nat.le_of_ble_eq_true rfl) (Nat.le_refl _) (by show 0 + A.slots.size ≤ A.slots.size; omega) (g := (mkF m 6 #[.val (.ref a), .val (.ref b)] [.null, .int (Int32.ofNat A.slots.size), .int (Int32.ofNat 0), .ref b, .ref a])) rfl (by rw [hml]; rfl) c2 (argsL := [.ref b, .int (Int32.ofNat 0), .int (Int32.ofNat A.slots.size), .null]) (rest := []) rfl rfl (by show 2 * 0 + 0 ≤ _; decide) (hb hbytes d6) (⟨rfl, hB.mv X0.warmed.alike hh0, f1.al X0.warmed.alike, f2.al X0.warmed.alike, hA.mv X0.warmed.alike hh0, s1.there X0.warmed.alike hh0, hz, l0, by omega, l2, fun i hi => by rw [Nat.zero_add]; exact hp i hi⟩)
  have e0 := Got.mv _ s₁ s _ _ hh0.symm (Vm.Alike.refl _) rfl E3
  obtain rfl := e0.1
  have c4 : Steps p.tables e below (s₁.setTop (entryFrame m #[.ref a, .ref b] 2)) (T3.setTop (mkF m 9 #[.val (.ref a), .val (.ref b)] [])) := g3
  exact ⟨T3, none, _, _, _, X3, by simp, rfl, by omega, (fun _ => rfl), e0, fun fs hl => c4.trans (X3.returnOut hexec hret (hb hbytes d9) hl)⟩
theorem pays {l : Launch} {R : Room} {p : Program} {e : Env} {below : List Frame} {s : State} {sargs : Array Value} {len W : Nat} (a : Addr) (D : Cell) (fV fC : Field) (b : Addr) (A : Cell) (z : Int32) (htab : tab.before sargs s = true) (hfr : 4 ≤ R.frames) (hlo : W + 65 ≤ R.locals) :
    Back l R p e below s sargs yN len W (fun A₁ a₁ => A₁.cells + 1 ≤ R.cells ∧ A₁.slots + A.slots.size ≤ R.slots ∧ P a D fV fC b A z a₁ A₁.U) (fun A₁ _ v₁ B₁ => E a D fV fC A v₁ A₁.U B₁.U ∧ B₁.locs = A₁.locs ++ [⟨a, fC.slot⟩, ⟨a, fV.slot⟩] ∧ B₁.cells = A₁.cells + 1 ∧ B₁.slots = A₁.slots + A.slots.size) :=
  (law l a D fV fC b A z).pays htab hfr (by omega)
end New1
/-- the byte, read back as charAt reads it, is the char -/
theorem lo8_mask {x : Int32} (h0 : ¬ x < 0) (h1 : ¬ 255 < x) : lo8 x &&& 255 = x := by
  have t : ∀ k : Fin 256, lo8 (Int32.ofNat k.val) &&& 255 = Int32.ofNat k.val := by decide +kernel
  rw [Int32.lt_iff_toInt_lt] at h0 h1
  have e0 : (0 : Int32).toInt = 0 := rfl
  have e1 : (255 : Int32).toInt = 255 := rfl
  obtain ⟨k, hk⟩ : ∃ k : Nat, x.toInt = k := ⟨x.toInt.toNat, by omega⟩
  have hx : x = Int32.ofNat k := Int32.toInt_inj.mp (by rw [hk, Int32.toInt_ofNat_small (by omega)])
  rw [hx]
  exact t ⟨k, by omega⟩
end StrChars
namespace StrChars.Road
open Jvm Sem ClassFile Op Lib Jvm.Stand Jvm.Free Jvm.Free.XT
open Jvm.Lib.Cold (StaticIs)
abbrev ST : String := "java/lang/String"
/-- every table word that New1's law asks, flat -/
abbrev words : List Jvm.Cond := [.code New1.yN New1.yB 2 none, .initialized ST, .methodLink ST 27 New4.yN, .instanceMethod New4.yN,
  .code New4.yN New4.yB 6 none, .fieldLink ST 38 ST "COMPACT_STRINGS" "Z", .laysFinal ST ST "value" "[B", .fieldLink ST 9 ST "value" "[B", .laysFinal ST ST "coder" "B", .fieldLink ST 15 ST "coder" "B",
  .methodLink ST 1 Lib.objectInit, .instanceMethod Lib.objectInit, .code Lib.objectInit ⟨#[0xb1]⟩ 1 none, .methodLink ST 177 Cmp3.yN, .static Cmp3.yN, .methodLink ST 47 CodL.yN, .static CodL.yN,
  .code Cmp3.yN Cmp3.yB 6 (some (.array .byte)), .initialized U16, .arrayClass .byte, .methodLink U16 115 Cmp5.yN, .static Cmp5.yN, .code Cmp5.yN Cmp5.yB 7 (some .int), .code CodL.yN CodL.yB 2 (some .byte)]
theorem tab_of {a : Array Value} {s : State} (h : ∀ w ∈ words, w.before a s = true) : New1.tab.before a s = true := by
  have h5 : Cmp5.tab.before a s = true := unparts (wk h (.code Cmp5.yN Cmp5.yB 7 (some .int))) (wks h (.initialized Cmp5.yN.cls :: Cmp5.site))
  have hc : CodL.tab.before a s = true := unparts (wk h (.code CodL.yN CodL.yB 2 (some .byte))) (wks h (.initialized CodL.yN.cls :: CodL.site))
  have q5 : ∀ w ∈ Cmp5.tab :: words, w.before a s = true := fun w hw => (List.mem_cons.mp hw).elim (fun e => e ▸ h5) (h w)
  have h3 : Cmp3.tab.before a s = true := unparts (wk q5 (.code Cmp3.yN Cmp3.yB 6 (some (.array .byte)))) (wks q5 (.initialized Cmp3.yN.cls :: Cmp3.site))
  have q3 : ∀ w ∈ Cmp3.tab :: CodL.tab :: words, w.before a s = true := fun w hw => (List.mem_cons.mp hw).elim (fun e => e ▸ h3) fun hw => (List.mem_cons.mp hw).elim (fun e => e ▸ hc) (h w)
  have h4 : New4.tab.before a s = true := unparts (wk q3 (.code New4.yN New4.yB 6 none)) (wks q3 (.initialized New4.yN.cls :: New4.site))
  have q4 : ∀ w ∈ New4.tab :: words, w.before a s = true := fun w hw => (List.mem_cons.mp hw).elim (fun e => e ▸ h4) (h w)
  exact unparts (wk q4 (.code New1.yN New1.yB 2 none)) (wks q4 (.initialized New1.yN.cls :: New1.site))
/-- the words ride from the start Z to the walk's own state -/
theorem moved {Z s : State} {a0 args : Array Value} (hZ : Z.Warmed39 s.vm) (hw : ∀ d ∈ words, d.before a0 Z = true) : ∀ d ∈ words, d.before args s = true := fun d hd => by
  have q := hw d hd
  have t : ∀ d ∈ words, d = .arrayClass .byte ∨ (d.onTables && d.keepsFace) = true := by decide +kernel
  rcases t d hd with rfl | t
  · exact RoadKit.mvA hZ q
  · exact RoadKit.mv hZ q t
/-- WHAT COMES BACK, over the tables of the start Z: h the heap at the call, h' behind it -/
def Q (Z : State) (x : Addr) (A : Cell) (h : Heap) (v : Option Value) (h' : Heap) (L : List Loc) : Prop := v = none ∧ (∀ y ∈ L, y.base = x) ∧ RoadKit.Keep h h' [x] ∧ h'.size = h.size + 1 ∧ RoadKit.Exa Z h' x ST ∧ RoadKit.Fld Z h' x ST "value" "[B" (.ref h.size) ∧ RoadKit.Fld Z h' x ST "coder" "B" (.int 0) ∧
  (∃ V : Cell, RoadKit.Arr Z h' h.size V .byte ∧ V.vm = .none ∧ Z.vm.findClass "[B" = some V.cls ∧ V.slots.size = A.slots.size ∧ ∀ j, j < A.slots.size → V.slots[j]? = some (.int (lo8 (cv A j)))) ∧
  ∀ (O n d : String) (w : Value), RoadKit.Fld Z h x O n d w → RoadKit.slotOf Z O n d ≠ RoadKit.slotOf Z ST "value" "[B" → RoadKit.slotOf Z O n d ≠ RoadKit.slotOf Z ST "coder" "B" → RoadKit.Fld Z h' x O n d w
/-- **new String(chars) AT A CALL, IN THE ROAD'S FORM**: for specialBack behind newO: x the fresh String, b the char[] with the cell A -/
theorem back {p : Program} {l : Launch} {e : Env} {R : Room} {s : State} {args : Array Value} {below : List Frame} {len W : Nat} {Z : State} {a0 : Array Value} {h : Heap} (hZ : Z.Warmed39 s.vm) (hw : ∀ d ∈ words, d.before a0 Z = true) {kI : Nat} (wi : (Jvm.Cond.instantiable ST kI).before a0 Z = true)
    {x b : Addr} {A : Cell} {z : Int32} {v0 c0 : Value} (E : RoadKit.Exa Z h x ST) (V : RoadKit.Fld Z h x ST "value" "[B" v0) (C : RoadKit.Fld Z h x ST "coder" "B" c0) (K : RoadKit.Arr Z h b A .char) (hty : Typed .char A) (S : RoadKit.Sta Z h ST "COMPACT_STRINGS" "Z" (.int z)) (hz : ¬ z = 0)
    (l0 : 0 < A.slots.size) (l2 : A.slots.size ≤ 536870912) (hp : ∀ i, i < A.slots.size → ¬ 255 < cv A i) (hfr : 4 ≤ R.frames) (hlo : W + 65 ≤ R.locals) :
    Back l R p e below s args New1.yN len W (fun P a => a = #[.ref x, .ref b] ∧ P.U.heap = h ∧ P.cells + 1 ≤ R.cells ∧ P.slots + A.slots.size ≤ R.slots)
      (fun P _ v B => ∃ L, Q Z x A h v B.U.heap L ∧ B.locs = P.locs ++ L ∧ B.cells = P.cells + 1 ∧ B.slots = P.slots + A.slots.size) := by
  intro m meth c P g ig mk a X hg hsize hdg hW hn hp'
  obtain ⟨rfl, rfl, r1, r2⟩ := hp'
  have al : Z.vm.Alike P.U.vm := hZ.alike.trans X.warmed.alike
  obtain ⟨D, cfV, kV, iV, fV, hD, gV, stV, knV, obV, asV, slV⟩ := id V
  obtain ⟨D', cfC, kC, iC, fC, hD', gC, stC, -, -, asC, slC⟩ := id C
  cases hD.symm.trans hD'
  obtain ⟨D2, kD, e1, e2, e3, e4, e5⟩ := id E
  cases hD.symm.trans e1
  obtain ⟨c2, k2, i1, i2, i3, -⟩ := Cond.instantiable_spec wi
  cases e2.symm.trans i1
  cases e3.symm.trans i2
  obtain ⟨kU, u1, u2⟩ := al.2.2 _ _ e3
  have hB : Blank ST x D P.U := ⟨hD, ⟨knV, fun q hq => by rw [hq] at obV; cases obV⟩, by rw [al.findClass]; exact e2, kU, u1, by rw [u2]; exact i3, by rw [u2]; exact e5 i3⟩
  have F1 : Found ST "value" "[B" fV P.U := ⟨SBG.found_only al ⟨cfV, kV, iV, gV⟩, stV⟩
  have F2 : Found ST "coder" "B" fC P.U := ⟨SBG.found_only al ⟨cfC, kC, iC, gC⟩, stC⟩
  have hA : Ch b A P.U := ⟨⟨K.1, State.isArrayOf_alike al K.2.1, K.2.2, by omega⟩, hty⟩
  have hS : StaticIs P.U ST "COMPACT_STRINGS" "Z" (.int z) := by
    obtain ⟨cfS, iS, kS, fS, st, cS, t1, t2, t3, t4, t5, t6, t7⟩ := S
    exact StaticIs.there (s := { Z with heap := P.U.heap }) ⟨cfS, iS, kS, fS, st, cS, t1, t2, t3, t4, t5, (fun q => by rw [q] at t6; cases t6), t7⟩ al rfl
  obtain ⟨v, B, X', ⟨⟨hv, E', V', q1, q2, q3, q4, q5, q6, q7, q8, q9, q10, q11⟩, hl, hc, hs⟩, st⟩ := New1.pays x D fV fC b A z (tab_of (moved hZ hw)) hfr hlo m meth c P g ig mk _ X hg hsize hdg hW hn ⟨r1, r2, rfl, hB, F1, F2, hA, hS, hz, l0, l2, hp⟩
  have al' : Z.vm.Alike B.U.vm := hZ.alike.trans X'.warmed.alike
  have hsz : E'.slots.size = D.slots.size := by
    obtain ⟨-, -, -, kB, w1, w2, w3⟩ := q1
    obtain ⟨kB', y1, y2⟩ := al'.2.2 _ _ e3
    rw [q2.2.1] at w1
    cases w1.symm.trans y1
    rw [w3, e5 i3, y2]
  refine ⟨v, B, X', ⟨_, ⟨hv, ?_, ⟨by omega, fun y cy hy hn' => q10 y cy (by simpa using hn') hy, fun y cy hy => ?_⟩, q11, ⟨E', _, q1.1, by rw [q2.2.1]; exact e2, by rw [q2.2.1]; exact e3, by rw [q2.1]; exact obV, fun _ => by rw [hsz]; exact e5 i3⟩,
    ⟨E', cfV, kV, iV, fV, q1.1, gV, stV, by rw [q2.1]; exact knV, by rw [q2.1]; exact obV, by rw [q2.2.1]; exact asV, q3⟩, ⟨E', cfC, kC, iC, fC, q1.1, gC, stC, by rw [q2.1]; exact knV, by rw [q2.1]; exact obV, by rw [q2.2.1]; exact asC, q4⟩,
    ⟨V', ⟨q5.1, State.isArrayOf_alike al'.symm q5.2.1, q5.2.2.1⟩, q6, by rw [← al'.findClass]; exact q7, q8, fun j hj => by have := q9 j hj; rwa [Nat.zero_add] at this⟩, fun O n d w F n1 n2 => ?_⟩, hl, hc, hs⟩, st⟩
  · intro y hy
    simp only [List.mem_cons, List.not_mem_nil, or_false] at hy
    rcases hy with rfl | rfl <;> rfl
  · by_cases q : y = x
    · subst q
      cases hD.symm.trans hy
      exact ⟨E', q1.1, q2.2.1, q2.1, hsz⟩
    · exact ⟨cy, q10 y cy q hy, rfl, rfl, rfl⟩
  · obtain ⟨D3, cf, k, i, f, g1, g2, g3, g4, g5, g6, g7⟩ := F
    cases hD.symm.trans g1
    simp only [RoadKit.slotOf, g2, gV, gC, Option.map_some, Option.getD_some] at n1 n2
    exact ⟨E', cf, k, i, f, q1.1, g2, g3, by rw [q2.1]; exact g4, by rw [q2.1]; exact g5, by rw [q2.2.1]; exact g6, by rw [q2.2.2 f.slot (by simp [n1, n2])]; exact g7⟩
end StrChars.Road
namespace StrChars.Road
open Jvm Sem ClassFile Op Lib Jvm.Stand Jvm.Free Jvm.Free.XT
/-- WHAT COMES BACK, the byte[] as a list of values -/
def QA (Z : State) (x : Addr) (zn : Int32) (cs : List Int32) (h : Heap) (v : Option Value) (h' : Heap) (L : List Loc) : Prop := v = none ∧ (∀ y ∈ L, y.base = x) ∧ RoadKit.Keep h h' [x] ∧ h'.size = h.size + 1 ∧ RoadKit.Exa Z h' x ST ∧ RoadKit.Fld Z h' x ST "value" "[B" (.ref h.size) ∧ RoadKit.Fld Z h' x ST "coder" "B" (.int 0) ∧
  (∃ kb, Z.vm.findClass "[B" = some kb ∧ RoadKit.Arv Z h' h.size kb .byte zn (cs.map fun c => .int (lo8 c)) (.int 0)) ∧
  ∀ (O n d : String) (w : Value), RoadKit.Fld Z h x O n d w → RoadKit.slotOf Z O n d ≠ RoadKit.slotOf Z ST "value" "[B" → RoadKit.slotOf Z O n d ≠ RoadKit.slotOf Z ST "coder" "B" → RoadKit.Fld Z h' x O n d w
/-- **new String(chars) AT A CALL, THE ARRAYS AS LISTS**: the char[] at b holds cs, not empty, no char above 255 -/
theorem backArv {p : Program} {l : Launch} {e : Env} {R : Room} {s : State} {args : Array Value} {below : List Frame} {len W : Nat} {Z : State} {a0 : Array Value} {h : Heap} (hZ : Z.Warmed39 s.vm) (hw : ∀ d ∈ words, d.before a0 Z = true) {kI : Nat} (wi : (Jvm.Cond.instantiable ST kI).before a0 Z = true)
    {x b : Addr} {k : ClassId} {zn z : Int32} {cs : List Int32} {dv v0 c0 : Value} (E : RoadKit.Exa Z h x ST) (V : RoadKit.Fld Z h x ST "value" "[B" v0) (C : RoadKit.Fld Z h x ST "coder" "B" c0) (K : RoadKit.Arv Z h b k .char zn (cs.map Value.int) dv) (S : RoadKit.Sta Z h ST "COMPACT_STRINGS" "Z" (.int z)) (hz : ¬ z = 0)
    (hlen : zn.toNatClampNeg = cs.length) (h0 : 0 < cs.length) (hbig : cs.length ≤ 536870912) (hall : ∀ c ∈ cs, ¬ 255 < c) (hfr : 4 ≤ R.frames) (hlo : W + 65 ≤ R.locals) :
    Back l R p e below s args New1.yN len W (fun P a => a = #[.ref x, .ref b] ∧ P.U.heap = h ∧ P.cells + 1 ≤ R.cells ∧ P.slots + cs.length ≤ R.slots)
      (fun P _ v B => ∃ L, QA Z x zn cs h v B.U.heap L ∧ B.locs = P.locs ++ L ∧ B.cells = P.cells + 1 ∧ B.slots = P.slots + cs.length) := by
  obtain ⟨A, K1, K2, K3, K4, K5, K6⟩ := K
  have e : A.slots.size = cs.length := K3.trans hlen
  have hat : ∀ (i : Nat) (hi : i < cs.length), A.slots[i]? = some (.int cs[i]) := fun i hi => by rw [K5 i (by omega)]; simp [List.getD_eq_getElem?_getD, hi]
  have hcv : ∀ (i : Nat) (hi : i < cs.length), cv A i = cs[i] := fun i hi => by unfold cv; rw [hat i hi]
  have hty : Typed .char A := fun i v hv => by
    have hi : i < A.slots.size := (Array.getElem?_eq_some_iff.mp hv).1
    have q := K5 i hi
    rw [hv] at q
    rw [Option.some.inj q]
    exact K6 i hi
  refine Back.mono (back hZ hw wi E V C K1 hty S hz (by omega) (by omega) (fun i hi => by rw [hcv i (by omega)]; exact hall _ (List.getElem_mem _)) hfr hlo) (fun P a hp => ⟨hp.1, hp.2.1, hp.2.2.1, by rw [e]; exact hp.2.2.2⟩) (fun P a v B hp hq => ?_)
  obtain ⟨L, ⟨q1, q2, q3, q4, q5, q6, q7, ⟨V', v1, v2, v3, v4, v5⟩, q9⟩, hl, hc, hs⟩ := hq
  refine ⟨L, ⟨q1, q2, q3, q4, q5, q6, q7, ⟨V'.cls, v3, V', v1, rfl, by rw [v4, e, hlen], K4, fun i hi => ?_, fun i hi => ?_⟩, q9⟩, hl, hc, by rw [hs, e]⟩
  · have hi' : i < cs.length := by omega
    rw [v5 i (by omega), hcv i hi']; simp [List.getD_eq_getElem?_getD, hi']
  · have hi' : i < cs.length := by omega
    simp only [List.getD_eq_getElem?_getD, List.getElem?_map, List.getElem?_eq_getElem hi', Option.map_some, Option.getD_some]
    exact fits_lo8 _
end StrChars.Road
namespace StrChars.Road
open Jvm Sem ClassFile Op Lib Jvm.Stand Jvm.Free Jvm.Free.XT
/-- WHAT COMES BACK, in the writer's own shape -/
def QV (Z : State) (x : Addr) (N : Int32) (bs : List Int32) (h : Heap) (n0 : Nat) (v : Option Value) (h' : Heap) (L : List Loc) : Prop := v = none ∧ RoadKit.Fr n0 L ∧ RoadKit.Keep h h' [x] ∧ RoadKit.Exa Z h' x ST ∧ RoadKit.Fld Z h' x ST "coder" "B" (.int 0) ∧
  ∃ (t : Addr) (kb : ClassId), n0 ≤ t ∧ h.size ≤ t ∧ ¬ t = x ∧ RoadKit.Fld Z h' x ST "value" "[B" (.ref t) ∧ RoadKit.Arv Z h' t kb .byte N (bs.map Value.int) (.int 0)
/-- **new String(chars) AT A CALL, FOR THE WRITER**: a char[] of n known ints, each 0 to 255 -/
theorem backV {p : Program} {l : Launch} {e : Env} {R : Room} {s : State} {args : Array Value} {below : List Frame} {len W : Nat} {Z : State} {a0 : Array Value} {h : Heap} (hZ : Z.Warmed39 s.vm) (hw : ∀ d ∈ words, d.before a0 Z = true) {kI : Nat} (wi : (Jvm.Cond.instantiable ST kI).before a0 Z = true)
    {x b : Addr} {kC : ClassId} {cs bs : List Int32} {d v0 c0 : Value} {z N : Int32} {n n0 : Nat} (hx0 : n0 ≤ x) (hh0 : n0 ≤ h.size) (E : RoadKit.Exa Z h x ST) (V : RoadKit.Fld Z h x ST "value" "[B" v0) (C : RoadKit.Fld Z h x ST "coder" "B" c0) (K : RoadKit.Arv Z h b kC .char N (cs.map Value.int) d) (S : RoadKit.Sta Z h ST "COMPACT_STRINGS" "Z" (.int z)) (hz : ¬ z = 0)
    (hn : cs.length = n) (hN : N = Int32.ofNat n) (l0 : 0 < n) (l2 : n ≤ 4000) (hp : ∀ c ∈ cs, ¬ c < 0 ∧ ¬ (255 : Int32) < c) (hb : bs = cs.map (fun c => c.toInt8.toInt32)) (hfr : 4 ≤ R.frames) (hlo : W + 65 ≤ R.locals) :
    Back l R p e below s args (⟨"java/lang/String", "<init>", "([C)V"⟩ : MethodName) len W (fun P a => a = #[.ref x, .ref b] ∧ P.U.heap = h ∧ P.cells + 1 ≤ R.cells ∧ P.slots + n ≤ R.slots)
      (fun P _ v B => ∃ L, QV Z x N bs h n0 v B.U.heap L ∧ B.locs = P.locs ++ L ∧ B.cells = P.cells + 1 ∧ B.slots = P.slots + n) := by
  subst hn hN hb
  refine Back.mono (backArv hZ hw wi E V C K S hz (n32 (by omega)) l0 (by omega) (fun c hc => (hp c hc).2) hfr hlo) (fun P a hp => hp) (fun P a v B hp hq => ?_)
  obtain ⟨L, ⟨q1, q2, q3, q4, q5, q6, q7, ⟨kb, v1, v2⟩, q9⟩, hl, hc, hs⟩ := hq
  exact ⟨L, ⟨q1, fun y hy => by rw [q2 y hy]; exact hx0, q3, q5, q7, h.size, kb, hh0, Nat.le_refl _, Nat.ne_of_gt E.lt, q6, by rw [List.map_map]; exact v2⟩, hl, hc, hs⟩
end StrChars.Road
namespace StrChars
open Jvm Sem ClassFile Op Lib Jvm.Stand Jvm.Free.XT Jvm.Free.ALB Jvm.Free.JM Jvm.Free
open Jvm.Lib.Cold (StaticIs)
def hi8 (x : Int32) : Int32 := lo8 (x >>> ((8 : Int32) &&& 31))
/-- what StringUTF16.getChar makes of two bytes -/
def pairCh (u v : Int32) : Int32 := (((u &&& 255) <<< ((0 : Int32) &&& 31)) ||| ((v &&& 255) <<< ((8 : Int32) &&& 31))).toUInt32.toUInt16.toUInt32.toInt32
theorem shr0 (c : Int32) : c >>> ((0 : Int32) &&& 31) = c := by
  have e : ((0 : Int32) &&& 31) = 0 := by decide
  rw [e]
  apply Int32.toBitVec_inj.mp
  rw [Int32.toBitVec_shiftRight]
  have e1 : ((0 : Int32).toBitVec.smod 32) = 0#32 := by decide
  rw [e1, BitVec.sshiftRight_eq']
  exact BitVec.sshiftRight_zero
theorem lo8_and (x : Int32) : (lo8 x &&& 255).toBitVec.toNat = x.toBitVec.toNat % 256 := by
  have h : (lo8 x).toBitVec = (x.toBitVec.signExtend 8).signExtend 32 := by rw [lo8, Int8.toBitVec_toInt32, Int32.toBitVec_toInt8]
  rw [Int32.toBitVec_and, BitVec.toNat_and, h]
  have e : ((x.toBitVec.signExtend 8).signExtend 32).toNat % 256 = x.toBitVec.toNat % 256 := by
    rw [BitVec.toNat_signExtend]
    have hlt := x.toBitVec.isLt
    simp only [BitVec.toNat_setWidth, BitVec.toNat_signExtend]
    split <;> split <;> omega
  rw [← e]
  exact Nat.and_two_pow_sub_one_eq_mod _ 8
theorem pair_says {c : Int32} (h0 : ¬ c < 0) (h1 : ¬ 65535 < c) : pairCh (lo8 c) (hi8 c) = c := by
  rw [Int32.lt_iff_toInt_lt] at h0 h1
  have e0 : (0 : Int32).toInt = 0 := rfl
  have e1 : (65535 : Int32).toInt = 65535 := rfl
  have hc : c.toInt = c.toBitVec.toNat := by
    have := c.toBitVec.isLt
    have e : c.toInt = c.toBitVec.toInt := rfl
    rw [e] at h0 h1
    rw [e]
    rw [BitVec.toInt_eq_toNat_cond] at h0 h1 ⊢
    split at h0 <;> split <;> omega
  have hn : c.toBitVec.toNat < 65536 := by omega
  have a1 := lo8_and c
  have a2 : (hi8 c &&& 255).toBitVec.toNat = c.toBitVec.toNat / 256 := by
    rw [hi8, lo8_and]
    have e : ((8 : Int32) &&& 31) = 8 := by decide
    rw [e, Int32.toBitVec_shiftRight]
    have e2 : ((8 : Int32).toBitVec.smod 32) = 8#32 := by decide
    rw [e2, BitVec.sshiftRight_eq', BitVec.toNat_sshiftRight_of_msb_false (by rw [BitVec.msb_eq_false_iff_two_mul_lt]; omega)]
    show c.toBitVec.toNat >>> 8 % 256 = _
    rw [Nat.shiftRight_eq_div_pow]
    omega
  unfold pairCh
  apply Int32.toBitVec_inj.mp
  apply BitVec.eq_of_toNat_eq
  have f0 : ((0 : Int32) &&& 31) = 0 := by decide
  have f8 : ((8 : Int32) &&& 31) = 8 := by decide
  rw [f0, f8]
  have g : (((lo8 c &&& 255) <<< (0 : Int32)) ||| ((hi8 c &&& 255) <<< (8 : Int32))).toBitVec.toNat = c.toBitVec.toNat := by
    rw [Int32.toBitVec_or, Int32.toBitVec_shiftLeft, Int32.toBitVec_shiftLeft]
    have s0 : ((0 : Int32).toBitVec.smod 32) = 0#32 := by decide
    have s8 : ((8 : Int32).toBitVec.smod 32) = 8#32 := by decide
    rw [s0, s8, BitVec.toNat_or]
    simp only [BitVec.shiftLeft_eq', BitVec.toNat_shiftLeft, a1, a2]
    show (c.toBitVec.toNat % 256) <<< 0 % 2 ^ 32 ||| (c.toBitVec.toNat / 256) <<< 8 % 2 ^ 32 = _
    rw [Nat.shiftLeft_zero, Nat.mod_eq_of_lt (show c.toBitVec.toNat % 256 < 2 ^ 32 by omega), Nat.mod_eq_of_lt (show (c.toBitVec.toNat / 256) <<< 8 < 2 ^ 32 by rw [Nat.shiftLeft_eq]; omega), Nat.or_comm, ← Nat.shiftLeft_add_eq_or_of_lt (by omega), Nat.shiftLeft_eq]
    omega
  show BitVec.toNat (((((lo8 c &&& 255) <<< (0 : Int32)) ||| ((hi8 c &&& 255) <<< (8 : Int32))).toBitVec.setWidth 16).setWidth 32) = _
  rw [BitVec.toNat_setWidth, BitVec.toNat_setWidth, g]
  omega
end StrChars
namespace StrChars
open Jvm Sem ClassFile Op Lib Jvm.Stand Jvm.Free.XT Jvm.Free.ALB Jvm.Free.JM Jvm.Free
open Jvm.Lib.Cold (StaticIs)
theorem shr1 {n : Nat} (h : 2 * n < 2 ^ 31) : Int32.ofNat (2 * n) >>> ((1 : Int32) &&& 31) = Int32.ofNat n := by
  have e : ((1 : Int32) &&& 31) = 1 := by decide
  rw [e]
  apply Int32.toBitVec_inj.mp
  rw [Int32.toBitVec_shiftRight]
  have e1 : ((1 : Int32).toBitVec.smod 32) = 1#32 := by decide
  have hm : (BitVec.ofNat 32 (2 * n)).toNat = 2 * n := by rw [BitVec.toNat_ofNat, Nat.mod_eq_of_lt (by omega)]
  rw [e1, BitVec.sshiftRight_eq']
  apply BitVec.eq_of_toNat_eq
  show ((BitVec.ofNat 32 (2 * n)).sshiftRight 1).toNat = (BitVec.ofNat 32 n).toNat
  rw [BitVec.toNat_sshiftRight_of_msb_false (by rw [BitVec.msb_eq_false_iff_two_mul_lt, hm]; omega), hm, BitVec.toNat_ofNat, Nat.shiftRight_eq_div_pow]
  omega
/-- charAt's cast of a byte read back -/
def chr8 (u : Int32) : Int32 := (u &&& 255).toUInt32.toUInt16.toUInt32.toInt32
theorem chr8_lo8 {c : Int32} (h0 : ¬ c < 0) (h1 : ¬ 255 < c) : chr8 (lo8 c) = c := by
  have t : ∀ k : Fin 256, (Int32.ofNat k.val).toUInt32.toUInt16.toUInt32.toInt32 = Int32.ofNat k.val := by decide +kernel
  unfold chr8
  rw [lo8_mask h0 h1]
  rw [Int32.lt_iff_toInt_lt] at h0 h1
  have e0 : (0 : Int32).toInt = 0 := rfl
  have e1 : (255 : Int32).toInt = 255 := rfl
  obtain ⟨k, hk⟩ : ∃ k : Nat, c.toInt = k := ⟨c.toInt.toNat, by omega⟩
  have hx : c = Int32.ofNat k := Int32.toInt_inj.mp (by rw [hk, Int32.toInt_ofNat_small (by omega)])
  rw [hx]
  exact t ⟨k, by omega⟩
theorem narrow_ch {c : Int32} (h0 : ¬ c < 0) (h1 : ¬ 65535 < c) : narrow .char (.int c) = .int c := by
  have q : narrow .char (.int (pairCh (lo8 c) (hi8 c))) = .int (pairCh (lo8 c) (hi8 c)) := narrow_c _
  rwa [pair_says h0 h1] at q
/-- the array's cell V codes the n chars f 0 .. f (n - 1) by the coder cd, as the JDK does: coder 1 just where some char is above 255 -/
def Cod (cd : Int32) (n : Nat) (f : Nat → Int32) (V : Cell) : Prop := (cd = 0 ∧ V.slots.size = n ∧ ∀ j, j < n → V.slots[j]? = some (.int (lo8 (f j))) ∧ ¬ 255 < f j) ∨ (cd = 1 ∧ V.slots.size = 2 * n ∧ (∀ j, j < n → V.slots[2 * j]? = some (.int (lo8 (f j))) ∧ V.slots[2 * j + 1]? = some (.int (hi8 (f j)))) ∧ ∃ j, j < n ∧ 255 < f j)
theorem Cod.cd {cd : Int32} {n : Nat} {f : Nat → Int32} {V : Cell} (h : Cod cd n f V) : cd = 0 ∨ cd = 1 := h.imp (fun q => q.1) fun q => q.1
theorem Cod.len {cd : Int32} {n : Nat} {f : Nat → Int32} {V : Cell} (h : Cod cd n f V) (hs : V.slots.size < 2 ^ 31) : Int32.ofNat V.slots.size >>> (cd &&& 31) = Int32.ofNat n := by
  rcases h with ⟨rfl, h, -⟩ | ⟨rfl, h, -⟩
  · rw [shr0, h]
  · rw [h, shr1 (by omega)]
/-- **x is a String of the n chars f 0 .. f (n - 1)**, Latin-1 or UTF-16; its array at t has the cell V -/
def Txt (x t : Addr) (V : Cell) (cd : Int32) (n : Nat) (f : Nat → Int32) (U : State) : Prop := Exact "java/lang/String" x U ∧ Has x "java/lang/String" "value" "[B" (.ref t) U ∧ Has x "java/lang/String" "coder" "B" (.int cd) U ∧ XT.Arr .byte t V U ∧ Cod cd n f V ∧ ∀ j, j < n → ¬ f j < 0 ∧ ¬ 65535 < f j
theorem Txt.mv {x t : Addr} {V : Cell} {cd : Int32} {n : Nat} {f : Nat → Int32} {U U' : State} (h : Txt x t V cd n f U) (hal : U.vm.Alike U'.vm) (hh : U'.heap = U.heap) : Txt x t V cd n f U' := ⟨h.1.mv hal hh, h.2.1.mv hal hh, h.2.2.1.mv hal hh, h.2.2.2.1.mv hal hh, h.2.2.2.2⟩
namespace Cdr
def yN : MethodName := ⟨"java/lang/String", "coder", "()B"⟩
abbrev yB : ByteArray := jdk_42_method_152_code
theorem d0 : decode yB 0 = .ok (.getstatic 38, 3) := by decide +kernel
theorem d3 : decode yB 3 = .ok (.ifCond (.eq) 10, 3) := by decide +kernel
theorem d6 : decode yB 6 = .ok (.aload_n 0, 1) := by decide +kernel
theorem d7 : decode yB 7 = .ok (.getfield 15, 3) := by decide +kernel
theorem d10 : decode yB 10 = .ok (.goto 4, 3) := by decide +kernel
theorem d14 : decode yB 14 = .ok (.ireturn, 1) := by decide +kernel
def site : List Cond := [.fieldLink "java/lang/String" 38 "java/lang/String" "COMPACT_STRINGS" "Z", .fieldLink "java/lang/String" 15 "java/lang/String" "coder" "B"]
def tab : Cond := tabOf yN yB 1 (some .byte) site
def P (x : Addr) (cd z : Int32) (args : Array Value) (s : State) : Prop := args = #[.ref x] ∧ Has x "java/lang/String" "coder" "B" (.int cd) s ∧ (cd = 0 ∨ cd = 1) ∧ StaticIs s "java/lang/String" "COMPACT_STRINGS" "Z" (.int z) ∧ ¬ z = 0
def E (cd : Int32) (r : Option Value) (s u : State) : Prop := XT.PureE (some (.int cd)) r s u
theorem law (l : Launch) (x : Addr) (cd z : Int32) : Law l yN 1 0 0 0 yB 1 (some .byte) site (P x cd z) (E cd) [] 0 0 := by
  refine Law.of_walk (plainFor_of_name (by decide +kernel)) (by decide +kernel) (by decide +kernel) (by decide) (fun _ _ h => by rw [h.1]; rfl) (fun _ U U' hal hh h => ⟨h.1, h.2.1.mv hal hh, h.2.2.1, h.2.2.2.1.there hal hh, h.2.2.2.2⟩) (fun r U U' V V' h1 hal h2 h => XT.PureE.mv r U U' V V' h1 hal h2 h) ?_
  intro p e s m args below meth c s₁ X0 hexec hbytes hml hret hlk hnm hown hh0 W hP
  obtain ⟨rfl, hx, hc, s1, hz⟩ := hP
  have c1 : Steps p.tables e below (s₁.setTop (entryFrame m #[.ref x] 1)) (s₁.setTop (mkF m 0 #[.val (.ref x)] [])) := entry rfl
  obtain ⟨T2, X2, q2, st2⟩ := X0.sget hexec hown (wk W (.fieldLink "java/lang/String" 38 "java/lang/String" "COMPACT_STRINGS" "Z")) s1 (fun _ _ h => by rw [hh0]; exact h) (g := (mkF m 0 #[.val (.ref x)] [])) rfl (hb hbytes d0)
  have hh2 := q2.trans hh0
  have c3 : Steps p.tables e below (s₁.setTop (entryFrame m #[.ref x] 1)) (T2.setTop (mkF m 7 #[.val (.ref x)] [.ref x])) := (c1.trans (st2 _ (Steps.refl _))).trans (by
    refine XS.ifNo X2.here hexec rfl (hb hbytes d3) rfl (i0_eq_f hz) ?_
    refine XS.aloadN X2.here hexec rfl (hb hbytes d6) rfl rfl ?_
    exact Steps.refl _)
  obtain ⟨T4, X4, q4, st4⟩ := X2.hget hexec hown (wk W (.fieldLink "java/lang/String" 15 "java/lang/String" "coder" "B")) (hx.mv X2.warmed.alike hh2) (g := (mkF m 7 #[.val (.ref x)] [.ref x])) rfl (rest := []) rfl (hb hbytes d7)
  have c5 : Steps p.tables e below (s₁.setTop (entryFrame m #[.ref x] 1)) (T4.setTop (mkF m 14 #[.val (.ref x)] [.int cd])) := (c3.trans (st4 _ (Steps.refl _))).trans (by
    refine XS.goto X4.here hexec rfl (pc0 := 10) rfl (hb hbytes d10) (by decide) rfl ?_
    exact Steps.refl _)
  exact ⟨T4, some (.int cd), _, _, _, X4, rfl, rfl, rfl, (fun h => by cases h), ⟨rfl, q4.trans hh2⟩, fun fs hl => c5.trans (X4.ireturnOut hexec hret (by rcases hc with rfl | rfl <;> rfl) (Or.inr (Or.inr (Or.inl rfl))) (hb hbytes d14) hl)⟩
end Cdr
namespace Len
def yN : MethodName := ⟨"java/lang/String", "length", "()I"⟩
abbrev yB : ByteArray := jdk_42_method_54_code
theorem d0 : decode yB 0 = .ok (.aload_n 0, 1) := by decide +kernel
theorem d1 : decode yB 1 = .ok (.getfield 9, 3) := by decide +kernel
theorem d4 : decode yB 4 = .ok (.arraylength, 1) := by decide +kernel
theorem d5 : decode yB 5 = .ok (.aload_n 0, 1) := by decide +kernel
theorem d6 : decode yB 6 = .ok (.invokevirtual 335, 3) := by decide +kernel
theorem d9 : decode yB 9 = .ok (.ishr, 1) := by decide +kernel
theorem d10 : decode yB 10 = .ok (.ireturn, 1) := by decide +kernel
def site : List Cond := [.fieldLink "java/lang/String" 9 "java/lang/String" "value" "[B", Cdr.tab] ++ virtW "java/lang/String" 335 "java/lang/String" Cdr.yN Cdr.yN
def tab : Cond := tabOf yN yB 1 (some .int) site
def P (x t : Addr) (V : Cell) (cd : Int32) (n : Nat) (f : Nat → Int32) (z : Int32) (args : Array Value) (s : State) : Prop := args = #[.ref x] ∧ Txt x t V cd n f s ∧ StaticIs s "java/lang/String" "COMPACT_STRINGS" "Z" (.int z) ∧ ¬ z = 0
def E (n : Nat) (r : Option Value) (s u : State) : Prop := XT.PureE (some (.int (Int32.ofNat n))) r s u
/-- length() of a String of n chars, in either coding -/
theorem law (l : Launch) (x t : Addr) (V : Cell) (cd : Int32) (n : Nat) (f : Nat → Int32) (z : Int32) : Law l yN 1 0 1 13 yB 1 (some .int) site (P x t V cd n f z) (E n) [] 0 0 := by
  refine Law.of_walk (plainFor_of_name (by decide +kernel)) (by decide +kernel) (by decide +kernel) (by decide) (fun _ _ h => by rw [h.1]; rfl) (fun _ U U' hal hh h => ⟨h.1, h.2.1.mv hal hh, h.2.2.1.there hal hh, h.2.2.2⟩) (fun r U U' V V' h1 hal h2 h => XT.PureE.mv r U U' V V' h1 hal h2 h) ?_
  intro p e s m args below meth c s₁ X0 hexec hbytes hml hret hlk hnm hown hh0 W hP
  obtain ⟨rfl, hx, s1, hz⟩ := hP
  have v31 := hx.2.2.2.1.2.2.2
  have c1 : Steps p.tables e below (s₁.setTop (entryFrame m #[.ref x] 1)) (s₁.setTop (mkF m 1 #[.val (.ref x)] [.ref x])) := Steps.trans (entry rfl) (by
    show Steps p.tables e below (s₁.setTop (mkF m 0 #[.val (.ref x)] [])) _
    refine XS.aloadN X0.here hexec rfl (hb hbytes d0) rfl rfl ?_
    exact Steps.refl _)
  obtain ⟨T2, X2, q2, st2⟩ := X0.hget hexec hown (wk W (.fieldLink "java/lang/String" 9 "java/lang/String" "value" "[B")) (hx.mv X0.warmed.alike hh0).2.1 (g := (mkF m 1 #[.val (.ref x)] [.ref x])) rfl (rest := []) rfl (hb hbytes d1)
  have hh2 := q2.trans hh0
  have hx2 := hx.mv X2.warmed.alike hh2
  have c3 : Steps p.tables e below (s₁.setTop (entryFrame m #[.ref x] 1)) (T2.setTop (mkF m 6 #[.val (.ref x)] [.ref x, .int (Int32.ofNat V.slots.size)])) := (c1.trans (st2 _ (Steps.refl _))).trans (by
    refine X2.alen hexec hx2.2.2.2.1 rfl rfl (hb hbytes d4) ?_
    refine XS.aloadN X2.here hexec rfl (hb hbytes d5) rfl rfl ?_
    exact Steps.refl _)
  obtain ⟨v4, T4, X4, E4, g4⟩ := X2.callV hexec (Cdr.law l x cd z) hown (wks W (virtW "java/lang/String" 335 "java/lang/String" Cdr.yN Cdr.yN)) rfl (by decide) (wk W Cdr.tab) (W := 1) (Nat.le_of_ble_eq_true rfl) (Nat.le_of_ble_eq_true rfl) (Nat.le_refl _) (Nat.le_refl _) (hx2.1.fc X2.warmed.alike) hx2.1.is (g := (mkF m 6 #[.val (.ref x)] [.ref x, .int (Int32.ofNat V.slots.size)])) rfl (by rw [hml]; rfl) c3 (argsL := []) (rest := [.int (Int32.ofNat V.slots.size)]) rfl rfl (by show 2 * 0 + (1 + 0) ≤ _; decide) (hb hbytes d6) (⟨rfl, hx2.2.2.1, hx.2.2.2.2.1.cd, s1.there X2.warmed.alike hh2, hz⟩)
  obtain ⟨rfl, q4⟩ := E4
  have c5 : Steps p.tables e below (s₁.setTop (entryFrame m #[.ref x] 1)) (T4.setTop (mkF m 10 #[.val (.ref x)] [.int (Int32.ofNat V.slots.size >>> (cd &&& 31))])) := Steps.trans g4 (by
    refine ishr X4.here hexec rfl (hb hbytes d9) rfl ?_
    exact Steps.refl _)
  rw [hx.2.2.2.2.1.len v31] at c5
  exact ⟨T4, some (.int (Int32.ofNat n)), _, _, _, X4, rfl, rfl, rfl, (fun h => by cases h), ⟨rfl, q4.trans hh2⟩, fun fs hl => c5.trans (X4.ireturnOut hexec hret rfl (Or.inl rfl) (hb hbytes d10) hl)⟩
theorem pays {l : Launch} {R : Room} {p : Program} {e : Env} {below : List Frame} {s : State} {sargs : Array Value} {len W : Nat} (x t : Addr) (V : Cell) (cd : Int32) (n : Nat) (f : Nat → Int32) (z : Int32) (htab : tab.before sargs s = true) (hfr : 2 ≤ R.frames) (hlo : W + 25 ≤ R.locals) :
    Back l R p e below s sargs yN len W (fun A₁ a₁ => A₁.cells + 0 ≤ R.cells ∧ A₁.slots + 0 ≤ R.slots ∧ P x t V cd n f z a₁ A₁.U) (fun A₁ _ v₁ B₁ => E n v₁ A₁.U B₁.U ∧ B₁.locs = A₁.locs ++ [] ∧ B₁.cells = A₁.cells + 0 ∧ B₁.slots = A₁.slots + 0) :=
  (law l x t V cd n f z).pays htab hfr (by omega)
end Len
namespace IsL
def yN : MethodName := ⟨"java/lang/String", "isLatin1", "()Z"⟩
abbrev yB : ByteArray := jdk_42_method_154_code
theorem d0 : decode yB 0 = .ok (.getstatic 38, 3) := by decide +kernel
theorem d3 : decode yB 3 = .ok (.ifCond (.eq) 14, 3) := by decide +kernel
theorem d6 : decode yB 6 = .ok (.aload_n 0, 1) := by decide +kernel
theorem d7 : decode yB 7 = .ok (.getfield 15, 3) := by decide +kernel
theorem d10 : decode yB 10 = .ok (.ifCond (.ne) 7, 3) := by decide +kernel
theorem d13 : decode yB 13 = .ok (.iconst 1, 1) := by decide +kernel
theorem d14 : decode yB 14 = .ok (.goto 4, 3) := by decide +kernel
theorem d17 : decode yB 17 = .ok (.iconst 0, 1) := by decide +kernel
theorem d18 : decode yB 18 = .ok (.ireturn, 1) := by decide +kernel
def site : List Cond := [.fieldLink "java/lang/String" 38 "java/lang/String" "COMPACT_STRINGS" "Z", .fieldLink "java/lang/String" 15 "java/lang/String" "coder" "B"]
def tab : Cond := tabOf yN yB 1 (some .boolean) site
def P (x : Addr) (cd z : Int32) (args : Array Value) (s : State) : Prop := args = #[.ref x] ∧ Has x "java/lang/String" "coder" "B" (.int cd) s ∧ (cd = 0 ∨ cd = 1) ∧ StaticIs s "java/lang/String" "COMPACT_STRINGS" "Z" (.int z) ∧ ¬ z = 0
def E (cd : Int32) (r : Option Value) (s u : State) : Prop := XT.PureE (some (.int (1 - cd))) r s u
theorem law (l : Launch) (x : Addr) (cd z : Int32) : Law l yN 1 0 0 0 yB 1 (some .boolean) site (P x cd z) (E cd) [] 0 0 := by
  refine Law.of_walk (plainFor_of_name (by decide +kernel)) (by decide +kernel) (by decide +kernel) (by decide) (fun _ _ h => by rw [h.1]; rfl) (fun _ U U' hal hh h => ⟨h.1, h.2.1.mv hal hh, h.2.2.1, h.2.2.2.1.there hal hh, h.2.2.2.2⟩) (fun r U U' V V' h1 hal h2 h => XT.PureE.mv r U U' V V' h1 hal h2 h) ?_
  intro p e s m args below meth c s₁ X0 hexec hbytes hml hret hlk hnm hown hh0 W hP
  obtain ⟨rfl, hx, hc, s1, hz⟩ := hP
  have c1 : Steps p.tables e below (s₁.setTop (entryFrame m #[.ref x] 1)) (s₁.setTop (mkF m 0 #[.val (.ref x)] [])) := entry rfl
  obtain ⟨T2, X2, q2, st2⟩ := X0.sget hexec hown (wk W (.fieldLink "java/lang/String" 38 "java/lang/String" "COMPACT_STRINGS" "Z")) s1 (fun _ _ h => by rw [hh0]; exact h) (g := (mkF m 0 #[.val (.ref x)] [])) rfl (hb hbytes d0)
  have hh2 := q2.trans hh0
  have c3 : Steps p.tables e below (s₁.setTop (entryFrame m #[.ref x] 1)) (T2.setTop (mkF m 7 #[.val (.ref x)] [.ref x])) := (c1.trans (st2 _ (Steps.refl _))).trans (by
    refine XS.ifNo X2.here hexec rfl (hb hbytes d3) rfl (i0_eq_f hz) ?_
    refine XS.aloadN X2.here hexec rfl (hb hbytes d6) rfl rfl ?_
    exact Steps.refl _)
  obtain ⟨T4, X4, q4, st4⟩ := X2.hget hexec hown (wk W (.fieldLink "java/lang/String" 15 "java/lang/String" "coder" "B")) (hx.mv X2.warmed.alike hh2) (g := (mkF m 7 #[.val (.ref x)] [.ref x])) rfl (rest := []) rfl (hb hbytes d7)
  have c5 : Steps p.tables e below (s₁.setTop (entryFrame m #[.ref x] 1)) (T4.setTop (mkF m 10 #[.val (.ref x)] [.int cd])) := c3.trans (st4 _ (Steps.refl _))
  have c6 : Steps p.tables e below (s₁.setTop (entryFrame m #[.ref x] 1)) (T4.setTop (mkF m 18 #[.val (.ref x)] [.int (1 - cd)])) := by
    rcases hc with rfl | rfl
    · exact c5.trans (by
        refine XS.ifNo X4.here hexec rfl (hb hbytes d10) rfl (i0_ne_f rfl) ?_
        refine iconstV X4.here hexec rfl 1 (hb hbytes d13) (by decide) ?_
        refine XS.goto X4.here hexec rfl (pc0 := 14) rfl (hb hbytes d14) (by decide) rfl ?_
        exact Steps.refl _)
    · exact c5.trans (by
        refine XS.ifYes X4.here hexec rfl (pc0 := 10) rfl (hb hbytes d10) rfl (i0_ne_t (by decide)) (by decide) rfl ?_
        refine iconstV X4.here hexec rfl 0 (hb hbytes d17) (by decide) ?_
        exact Steps.refl _)
  exact ⟨T4, some (.int (1 - cd)), _, _, _, X4, rfl, rfl, rfl, (fun h => by cases h), ⟨rfl, q4.trans hh2⟩, fun fs hl => c6.trans (X4.ireturnOut hexec hret (by rcases hc with rfl | rfl <;> rfl) (Or.inr (Or.inl rfl)) (hb hbytes d18) hl)⟩
end IsL
namespace LChA
def yN : MethodName := ⟨"java/lang/StringLatin1", "charAt", "([BI)C"⟩
abbrev yB : ByteArray := jdk_43_method_2_code
theorem d0 : decode yB 0 = .ok (.iload_n 1, 1) := by decide +kernel
theorem d1 : decode yB 1 = .ok (.aload_n 0, 1) := by decide +kernel
theorem d2 : decode yB 2 = .ok (.arraylength, 1) := by decide +kernel
theorem d3 : decode yB 3 = .ok (.invokestatic 9, 3) := by decide +kernel
theorem d6 : decode yB 6 = .ok (.aload_n 0, 1) := by decide +kernel
theorem d7 : decode yB 7 = .ok (.iload_n 1, 1) := by decide +kernel
theorem d8 : decode yB 8 = .ok (.baload, 1) := by decide +kernel
theorem d9 : decode yB 9 = .ok (.sipush 255, 3) := by decide +kernel
theorem d12 : decode yB 12 = .ok (.iand, 1) := by decide +kernel
theorem d13 : decode yB 13 = .ok (.i2c, 1) := by decide +kernel
theorem d14 : decode yB 14 = .ok (.ireturn, 1) := by decide +kernel
def site : List Cond := [JO.Str_checkIndex.tab] ++ staticW "java/lang/StringLatin1" 9 JO.Str_checkIndex.yN
def tab : Cond := tabOf yN yB 2 (some .char) site
def P (t : Addr) (V : Cell) (i : Nat) (u : Int32) (fm : Value) (args : Array Value) (s : State) : Prop := args = #[.ref t, .int (Int32.ofNat i)] ∧ XT.Arr .byte t V s ∧ V.slots[i]? = some (.int u) ∧ (StaticIs s "jdk/internal/util/Preconditions" "SIOOBE_FORMATTER" "Ljava/util/function/BiFunction;" fm ∧ fm.isRef = true)
def E (u : Int32) (r : Option Value) (s w : State) : Prop := XT.PureE (some (.int (chr8 u))) r s w
theorem law (l : Launch) (t : Addr) (V : Cell) (i : Nat) (u : Int32) (fm : Value) : Law l yN 2 2 2 27 yB 2 (some .char) site (P t V i u fm) (E u) [] 0 0 := by
  refine Law.of_walk (plainFor_of_name (by decide +kernel)) (by decide +kernel) (by decide +kernel) (by decide) (fun _ _ h => by rw [h.1]; rfl) (fun _ U U' hal hh h => ⟨h.1, h.2.1.mv hal hh, h.2.2.1, h.2.2.2.1.there hal hh, h.2.2.2.2⟩) (fun r U U' V V' h1 hal h2 h => XT.PureE.mv r U U' V V' h1 hal h2 h) ?_
  intro p e s m args below meth c s₁ X0 hexec hbytes hml hret hlk hnm hown hh0 W hP
  obtain ⟨rfl, hV, hu, s1, rf⟩ := hP
  have v31 := hV.2.2.2
  have hi : i < V.slots.size := (Array.getElem?_eq_some_iff.mp hu).1
  have c1 : Steps p.tables e below (s₁.setTop (entryFrame m #[.ref t, .int (Int32.ofNat i)] 2)) (s₁.setTop (mkF m 0 #[.val (.ref t), .val (.int (Int32.ofNat i))] [])) := entry rfl
  have c2 : Steps p.tables e below (s₁.setTop (entryFrame m #[.ref t, .int (Int32.ofNat i)] 2)) (s₁.setTop (mkF m 3 #[.val (.ref t), .val (.int (Int32.ofNat i))] [.int (Int32.ofNat V.slots.size), .int (Int32.ofNat i)])) := c1.trans (by
    refine XS.iloadN X0.here hexec rfl (hb hbytes d0) rfl ?_
    refine XS.aloadN X0.here hexec rfl (hb hbytes d1) rfl rfl ?_
    refine X0.alen hexec (hV.mv X0.warmed.alike hh0) rfl rfl (hb hbytes d2) ?_
    exact Steps.refl _)
  obtain ⟨v3, T3, X3, E3, g3⟩ := X0.callS hexec (JO.Str_checkIndex.law l (Int32.ofNat i) (Int32.ofNat V.slots.size) fm) hown (wks W (staticW "java/lang/StringLatin1" 9 JO.Str_checkIndex.yN)) (wk W JO.Str_checkIndex.tab) (W := 0) (Nat.le_of_ble_eq_true rfl) (Nat.le_of_ble_eq_true rfl) (Nat.le_refl _) (Nat.le_refl _) (g := (mkF m 3 #[.val (.ref t), .val (.int (Int32.ofNat i))] [.int (Int32.ofNat V.slots.size), .int (Int32.ofNat i)])) rfl (by rw [hml]; rfl) c2 (argsL := [.int (Int32.ofNat i), .int (Int32.ofNat V.slots.size)]) (rest := []) rfl rfl (by show 2 * 0 + 0 ≤ _; decide) (hb hbytes d3) (⟨rfl, rf, s1.there X0.warmed.alike hh0, Int32.ofNat_not_neg (by omega), lt32 v31 hi⟩)
  obtain ⟨rfl, q3⟩ := E3
  have hh3 := q3.trans hh0
  have c4 : Steps p.tables e below (s₁.setTop (entryFrame m #[.ref t, .int (Int32.ofNat i)] 2)) (T3.setTop (mkF m 14 #[.val (.ref t), .val (.int (Int32.ofNat i))] [.int (chr8 u)])) := Steps.trans g3 (by
    refine XS.aloadN X3.here hexec rfl (hb hbytes d6) rfl rfl ?_
    refine XS.iloadN X3.here hexec rfl (hb hbytes d7) rfl ?_
    refine X3.aget hexec (hV.mv X3.warmed.alike hh3) rfl hu rfl rfl (hb hbytes d8) ?_
    refine sipushV X3.here hexec rfl 255 (hb hbytes d9) (by decide) ?_
    refine XS.iand X3.here hexec rfl (hb hbytes d12) rfl ?_
    refine i2c X3.here hexec rfl (hb hbytes d13) rfl ?_
    exact Steps.refl _)
  exact ⟨T3, some (.int (chr8 u)), _, _, _, X3, rfl, rfl, rfl, (fun h => by cases h), ⟨rfl, hh3⟩, fun fs hl => c4.trans (X3.ireturnOut hexec hret (narrow_c _) (Or.inr (Or.inr (Or.inr (Or.inl rfl)))) (hb hbytes d14) hl)⟩
end LChA
end StrChars
namespace StrChars.Road
open Jvm Sem ClassFile Op Lib Jvm.Stand Jvm.Free Jvm.Free.XT
open Jvm.Lib.Cold (StaticIs)
theorem consq {a : Array Value} {s : State} {c : Jvm.Cond} {L : List Jvm.Cond} (h0 : c.before a s = true) (h : ∀ w ∈ L, w.before a s = true) : ∀ w ∈ c :: L, w.before a s = true := fun w hw => (List.mem_cons.mp hw).elim (fun e => e ▸ h0) (h w)
/-- the words of String.length(), either coding -/
abbrev wordsLen : List Jvm.Cond := [.code Len.yN Len.yB 1 (some .int), .initialized ST, .fieldLink ST 9 ST "value" "[B", .fieldLink ST 38 ST "COMPACT_STRINGS" "Z", .fieldLink ST 15 ST "coder" "B", .code Cdr.yN Cdr.yB 1 (some .byte), .methodLink ST 335 Cdr.yN, .declares Cdr.yN, .selects ST Cdr.yN Cdr.yN, .instanceMethod Cdr.yN]
theorem tabLen_of {a : Array Value} {s : State} (h : ∀ w ∈ wordsLen, w.before a s = true) : Len.tab.before a s = true := by
  have hc : Cdr.tab.before a s = true := unparts (wk h (.code Cdr.yN Cdr.yB 1 (some .byte))) (wks h (.initialized Cdr.yN.cls :: Cdr.site))
  have q := consq hc h
  exact unparts (wk q (.code Len.yN Len.yB 1 (some .int))) (wks q (.initialized Len.yN.cls :: Len.site))
theorem movedLen {Z s : State} {a0 args : Array Value} (hZ : Z.Warmed39 s.vm) (hw : ∀ d ∈ wordsLen, d.before a0 Z = true) : ∀ d ∈ wordsLen, d.before args s = true := fun d hd => by
  have q := hw d hd
  have t : ∀ d ∈ wordsLen, d = .arrayClass .byte ∨ (d.onTables && d.keepsFace) = true := by decide +kernel
  rcases t d hd with rfl | t
  · exact RoadKit.mvA hZ q
  · exact RoadKit.mv hZ q t
/-- the bytes of the chars cs, low before high -/
def wideBytes : List Int32 → List Value
  | [] => []
  | c :: cs => .int (lo8 c) :: .int (hi8 c) :: wideBytes cs
theorem wide_lo (d : Value) : ∀ (cs : List Int32) (j : Nat), j < cs.length → (wideBytes cs).getD (2 * j) d = .int (lo8 (cs.getD j 0))
  | [], j, h => absurd h (Nat.not_lt_zero j)
  | c :: cs, 0, _ => rfl
  | c :: cs, j + 1, h => by
    have q := wide_lo d cs j (by simpa using h)
    rw [show 2 * (j + 1) = 2 * j + 1 + 1 from by omega]
    simpa [wideBytes] using q
theorem wide_hi (d : Value) : ∀ (cs : List Int32) (j : Nat), j < cs.length → (wideBytes cs).getD (2 * j + 1) d = .int (hi8 (cs.getD j 0))
  | [], j, h => absurd h (Nat.not_lt_zero j)
  | c :: cs, 0, _ => rfl
  | c :: cs, j + 1, h => by
    have q := wide_hi d cs j (by simpa using h)
    rw [show 2 * (j + 1) + 1 = 2 * j + 1 + 1 + 1 from by omega]
    simpa [wideBytes] using q
theorem low_at (d : Value) (cs : List Int32) (j : Nat) (h : j < cs.length) : (cs.map fun c => Value.int (lo8 c)).getD j d = .int (lo8 (cs.getD j 0)) := by
  simp [List.getD_eq_getElem?_getD, h]
/-- an array of N2 bytes vs codes the chars cs by the coder cd -/
def CodA (cs : List Int32) (cd N2 : Int32) (vs : List Value) : Prop := (cd = 0 ∧ N2 = Int32.ofNat cs.length ∧ vs = (cs.map fun c => Value.int (lo8 c)) ∧ ∀ c ∈ cs, ¬ 255 < c) ∨ (cd = 1 ∧ N2 = Int32.ofNat (2 * cs.length) ∧ vs = wideBytes cs ∧ ∃ c ∈ cs, 255 < c)
theorem CodA.cod {cs : List Int32} {cd N2 : Int32} {vs : List Value} {V : Cell} (h : CodA cs cd N2 vs) (hn : 2 * cs.length < 2 ^ 31) (hs : V.slots.size = N2.toNatClampNeg) (hv : RoadKit.Has V vs (.int 0)) : Cod cd cs.length (fun j => cs.getD j 0) V := by
  rcases h with ⟨rfl, rfl, rfl, h⟩ | ⟨rfl, rfl, rfl, c, hc, hw⟩
  · rw [n32 (by omega)] at hs
    exact Or.inl ⟨rfl, hs, fun j hj => ⟨by rw [hv j (by omega), low_at _ _ _ hj], by
      have e : cs.getD j 0 = cs[j] := by simp [List.getD_eq_getElem?_getD, hj]
      show ¬ 255 < cs.getD j 0
      rw [e]; exact h _ (List.getElem_mem _)⟩⟩
  · rw [n32 (by omega)] at hs
    obtain ⟨j, hj, rfl⟩ := List.getElem_of_mem hc
    exact Or.inr ⟨rfl, hs, fun j hj => ⟨by rw [hv _ (by omega), wide_lo _ _ _ hj], by rw [hv _ (by omega), wide_hi _ _ _ hj]⟩, j, hj, by
      have e : cs.getD j 0 = cs[j] := by simp [List.getD_eq_getElem?_getD, hj]
      show 255 < cs.getD j 0
      rw [e]; exact hw⟩
/-- an object of exactly java/lang/String, its two fields found: as the laws ask it -/
theorem strObj {Z U : State} {a0 : Array Value} {kI : Nat} (wi : (Jvm.Cond.instantiable ST kI).before a0 Z = true) (al : Z.vm.Alike U.vm) {x : Addr} {v0 c0 : Value} (E : RoadKit.Exa Z U.heap x ST) (V : RoadKit.Fld Z U.heap x ST "value" "[B" v0) (C : RoadKit.Fld Z U.heap x ST "coder" "B" c0) :
    ∃ (D : Cell) (fV fC : Field), Blank ST x D U ∧ Found ST "value" "[B" fV U ∧ Found ST "coder" "B" fC U ∧ D.slots[fV.slot]? = some v0 ∧ D.slots[fC.slot]? = some c0 ∧ RoadKit.slotOf Z ST "value" "[B" = fV.slot ∧ RoadKit.slotOf Z ST "coder" "B" = fC.slot := by
  obtain ⟨D, cfV, kV, iV, fV, hD, gV, stV, knV, obV, asV, slV⟩ := V
  obtain ⟨D', cfC, kC, iC, fC, hD', gC, stC, -, -, asC, slC⟩ := C
  cases hD.symm.trans hD'
  obtain ⟨D2, kD, e1, e2, e3, e4, e5⟩ := E
  cases hD.symm.trans e1
  obtain ⟨c2, k2, i1, i2, i3, -⟩ := Cond.instantiable_spec wi
  cases e2.symm.trans i1
  cases e3.symm.trans i2
  obtain ⟨kU, u1, u2⟩ := al.2.2 _ _ e3
  exact ⟨D, fV, fC, ⟨hD, ⟨knV, fun q hq => by rw [hq] at obV; cases obV⟩, by rw [al.findClass]; exact e2, kU, u1, by rw [u2]; exact i3, by rw [u2]; exact e5 i3⟩, ⟨SBG.found_only al ⟨cfV, kV, iV, gV⟩, stV⟩, ⟨SBG.found_only al ⟨cfC, kC, iC, gC⟩, stC⟩, slV, slC, by simp [RoadKit.slotOf, gV], by simp [RoadKit.slotOf, gC]⟩
theorem sta_is {Z U : State} (al : Z.vm.Alike U.vm) {C n d : String} {v : Value} (S : RoadKit.Sta Z U.heap C n d v) : StaticIs U C n d v := by
  obtain ⟨cfS, iS, kS, fS, st, cS, t1, t2, t3, t4, t5, t6, t7⟩ := S
  exact StaticIs.there (s := { Z with heap := U.heap }) ⟨cfS, iS, kS, fS, st, cS, t1, t2, t3, t4, t5, (fun q => by rw [q] at t6; cases t6), t7⟩ al rfl
/-- **length() OF SUCH A STRING** -/
theorem lenW {p : Program} {l : Launch} {e : Env} {R : Room} {s : State} {args : Array Value} {below : List Frame} {len W : Nat} {Z : State} {a0 : Array Value} {h : Heap} (hZ : Z.Warmed39 s.vm) (hw : ∀ d ∈ wordsLen, d.before a0 Z = true) {kI : Nat} (wi : (Jvm.Cond.instantiable ST kI).before a0 Z = true)
    {x t : Addr} {kb : ClassId} {cs : List Int32} {cd N2 z : Int32} {vs : List Value} (E : RoadKit.Exa Z h x ST) (V : RoadKit.Fld Z h x ST "value" "[B" (.ref t)) (C : RoadKit.Fld Z h x ST "coder" "B" (.int cd)) (K : RoadKit.Arv Z h t kb .byte N2 vs (.int 0)) (hc : CodA cs cd N2 vs) (hb : ∀ c ∈ cs, ¬ c < 0 ∧ ¬ (65535 : Int32) < c)
    (S : RoadKit.Sta Z h ST "COMPACT_STRINGS" "Z" (.int z)) (hz : ¬ z = 0) (l2 : cs.length ≤ 4000) (hfr : 2 ≤ R.frames) (hlo : W + 25 ≤ R.locals) :
    Back l R p e below s args (⟨"java/lang/String", "length", "()I"⟩ : MethodName) len W (fun P a => a = #[.ref x] ∧ P.U.heap = h ∧ P.cells + 0 ≤ R.cells ∧ P.slots + 0 ≤ R.slots)
      (fun P _ v B => ∃ L, (v = some (.int (Int32.ofNat cs.length)) ∧ L = [] ∧ B.U.heap = h) ∧ B.locs = P.locs ++ L ∧ B.cells = P.cells + 0 ∧ B.slots = P.slots + 0) := by
  obtain ⟨A, K1, K2, K3, K4, K5, K6⟩ := K
  have hcod := hc.cod (by omega) K3 K5
  intro m meth c P g ig mk a X hg hsize hdg hW hn hp'
  obtain ⟨rfl, rfl, r1, r2⟩ := hp'
  have al : Z.vm.Alike P.U.vm := hZ.alike.trans X.warmed.alike
  obtain ⟨D, fV, fC, hB, F1, F2, g1, g2, -, -⟩ := strObj wi al E V C
  have hx : Txt x t A cd cs.length (fun j => cs.getD j 0) P.U := ⟨⟨_, hB.2.2.1, D, hB.1, rfl, by cases q : D.vm <;> first | rfl | exact absurd q (hB.2.1.2 _)⟩, Has.of hB F1 g1, Has.of hB F2 g2, ⟨K1.1, State.isArrayOf_alike al K1.2.1, K1.2.2, by rcases hcod with ⟨-, q, -⟩ | ⟨-, q, -⟩ <;> omega⟩, hcod, fun j hj => by
    have e : cs.getD j 0 = cs[j] := by simp [List.getD_eq_getElem?_getD, hj]
    show ¬ cs.getD j 0 < 0 ∧ ¬ 65535 < cs.getD j 0
    rw [e]; exact hb _ (List.getElem_mem _)⟩
  obtain ⟨v, B, X', ⟨⟨hv, hh⟩, hl, hk, hs⟩, st⟩ := Len.pays x t A cd cs.length (fun j => cs.getD j 0) z (tabLen_of (movedLen hZ hw)) hfr hlo m meth c P g ig mk _ X hg hsize hdg hW hn ⟨r1, r2, rfl, hx, sta_is al S, hz⟩
  exact ⟨v, B, X', ⟨[], ⟨hv, rfl, hh⟩, hl, hk, hs⟩, st⟩
end StrChars.Road
namespace StrChars
open Jvm Sem ClassFile Op Lib Jvm.Stand Jvm.Free.XT Jvm.Free.ALB Jvm.Free.JM Jvm.Free
open Jvm.Lib.Cold (StaticIs)
/-- what place i of a byte[]'s cell holds -/
def yv (A : Cell) (i : Nat) : Int32 := match A.slots[i]? with | some (.int x) => x | _ => 0
theorem yv_get {a : Addr} {A : Cell} {U : State} (h : XT.Arr .byte a A U) (ht : Typed .byte A) {i : Nat} (hi : i < A.slots.size) : A.slots[i]? = some (.int (yv A i)) := by
  have e := Array.getElem?_eq_getElem hi
  have f := ht i _ e
  unfold yv; rw [e]
  generalize A.slots[i] = v at f
  cases v <;> simp [fits] at f ⊢
/-- the two arrays are equal, place for place -/
def EqC (A B : Cell) : Prop := A.slots.size = B.slots.size ∧ ∀ i, i < A.slots.size → yv A i = yv B i
/-- a boolean that says whether p -/
def Says01 (q : Prop) (r : Option Value) (s u : State) : Prop := ∃ v : Int32, r = some (.int v) ∧ u.heap = s.heap ∧ ((v = 1 ∧ q) ∨ (v = 0 ∧ ¬ q))
theorem Says01.mv {q : Prop} : ∀ r (U U' V V' : State), U'.heap = U.heap → V.vm.Alike V'.vm → V'.heap = V.heap → Says01 q r U V → Says01 q r U' V' :=
  fun r U U' V V' h1 _ h2 ⟨v, a, b, c⟩ => ⟨v, a, by rw [h1, h2]; exact b, c⟩
namespace LEq
def yN : MethodName := ⟨"java/lang/StringLatin1", "equals", "([B[B)Z"⟩
abbrev yB : ByteArray := jdk_43_method_13_code
theorem d0 : decode yB 0 = .ok (.aload_n 0, 1) := by decide +kernel
theorem d1 : decode yB 1 = .ok (.arraylength, 1) := by decide +kernel
theorem d2 : decode yB 2 = .ok (.aload_n 1, 1) := by decide +kernel
theorem d3 : decode yB 3 = .ok (.arraylength, 1) := by decide +kernel
theorem d4 : decode yB 4 = .ok (.if_icmp (.ne) 30, 3) := by decide +kernel
theorem d7 : decode yB 7 = .ok (.iconst 0, 1) := by decide +kernel
theorem d8 : decode yB 8 = .ok (.istore_n 2, 1) := by decide +kernel
theorem d9 : decode yB 9 = .ok (.iload_n 2, 1) := by decide +kernel
theorem d10 : decode yB 10 = .ok (.aload_n 0, 1) := by decide +kernel
theorem d11 : decode yB 11 = .ok (.arraylength, 1) := by decide +kernel
theorem d12 : decode yB 12 = .ok (.if_icmp (.ge) 20, 3) := by decide +kernel
theorem d15 : decode yB 15 = .ok (.aload_n 0, 1) := by decide +kernel
theorem d16 : decode yB 16 = .ok (.iload_n 2, 1) := by decide +kernel
theorem d17 : decode yB 17 = .ok (.baload, 1) := by decide +kernel
theorem d18 : decode yB 18 = .ok (.aload_n 1, 1) := by decide +kernel
theorem d19 : decode yB 19 = .ok (.iload_n 2, 1) := by decide +kernel
theorem d20 : decode yB 20 = .ok (.baload, 1) := by decide +kernel
theorem d21 : decode yB 21 = .ok (.if_icmp (.eq) 5, 3) := by decide +kernel
theorem d24 : decode yB 24 = .ok (.iconst 0, 1) := by decide +kernel
theorem d25 : decode yB 25 = .ok (.ireturn, 1) := by decide +kernel
theorem d26 : decode yB 26 = .ok (.iinc 2 1, 3) := by decide +kernel
theorem d29 : decode yB 29 = .ok (.goto (-20), 3) := by decide +kernel
theorem d32 : decode yB 32 = .ok (.iconst 1, 1) := by decide +kernel
theorem d33 : decode yB 33 = .ok (.ireturn, 1) := by decide +kernel
theorem d34 : decode yB 34 = .ok (.iconst 0, 1) := by decide +kernel
theorem d35 : decode yB 35 = .ok (.ireturn, 1) := by decide +kernel
def site : List Cond := []
def tab : Cond := tabOf yN yB 3 (some .boolean) site
def P (a : Addr) (A : Cell) (b : Addr) (B : Cell) (args : Array Value) (s : State) : Prop := args = #[.ref a, .ref b] ∧ XT.Arr .byte a A s ∧ Typed .byte A ∧ XT.Arr .byte b B s ∧ Typed .byte B
/-- whether two byte[] are equal, place for place -/
theorem law (l : Launch) (a : Addr) (A : Cell) (b : Addr) (B : Cell) : Law l yN 2 2 0 0 yB 3 (some .boolean) site (P a A b B) (Says01 (EqC A B)) [] 0 0 := by
  refine Law.of_walk (plainFor_of_name (by decide +kernel)) (by decide +kernel) (by decide +kernel) (by decide) (fun _ _ h => by rw [h.1]; rfl) (fun _ U U' hal hh h => ⟨h.1, h.2.1.mv hal hh, h.2.2.1, h.2.2.2.1.mv hal hh, h.2.2.2.2⟩) (fun r U U' V V' h1 hal h2 h => Says01.mv r U U' V V' h1 hal h2 h) ?_
  intro p e s m args below meth c s₁ X0 hexec hbytes hml hret hlk hnm hown hh0 W hP
  obtain ⟨rfl, hA, tA, hB, tB⟩ := hP
  have a31 := hA.2.2.2
  have b31 := hB.2.2.2
  have hA0 := hA.mv X0.warmed.alike hh0
  have hB0 := hB.mv X0.warmed.alike hh0
  have c1 : Steps p.tables e below (s₁.setTop (entryFrame m #[.ref a, .ref b] 3)) (s₁.setTop (mkF m 0 #[.val (.ref a), .val (.ref b), .unset] [])) := entry rfl
  have c2 : Steps p.tables e below (s₁.setTop (entryFrame m #[.ref a, .ref b] 3)) (s₁.setTop (mkF m 4 #[.val (.ref a), .val (.ref b), .unset] [.int (Int32.ofNat B.slots.size), .int (Int32.ofNat A.slots.size)])) := c1.trans (by
    refine XS.aloadN X0.here hexec rfl (hb hbytes d0) rfl rfl ?_
    refine X0.alen hexec hA0 rfl rfl (hb hbytes d1) ?_
    refine XS.aloadN X0.here hexec rfl (hb hbytes d2) rfl rfl ?_
    refine X0.alen hexec hB0 rfl rfl (hb hbytes d3) ?_
    exact Steps.refl _)
  by_cases hs : A.slots.size = B.slots.size
  · have c3 : Steps p.tables e below (s₁.setTop (entryFrame m #[.ref a, .ref b] 3)) (s₁.setTop (mkF m 9 #[.val (.ref a), .val (.ref b), .val (.int 0)] [])) := c2.trans (by
      refine XS.icmpNo X0.here hexec rfl (hb hbytes d4) rfl (ii_ne_f (by rw [hs])) ?_
      refine iconstV X0.here hexec rfl 0 (hb hbytes d7) (by decide) ?_
      refine XS.istoreN X0.here hexec rfl (hb hbytes d8) rfl rfl ?_
      exact Steps.refl _)
    have loop : ∀ (r i : Nat), i + r = A.slots.size → (∀ j, j < i → yv A j = yv B j) → Steps p.tables e below (s₁.setTop (entryFrame m #[.ref a, .ref b] 3)) (s₁.setTop (mkF m 9 #[.val (.ref a), .val (.ref b), .val (.int (Int32.ofNat i))] [])) → ∃ (pc : Nat) (Ls : Array Slot) (v : Int32), (pc = 25 ∨ pc = 33) ∧ ((v = 1 ∧ EqC A B) ∨ (v = 0 ∧ ¬ EqC A B)) ∧ Steps p.tables e below (s₁.setTop (entryFrame m #[.ref a, .ref b] 3)) (s₁.setTop (mkF m pc Ls [.int v])) := by
      intro r
      induction r with
      | zero =>
        intro i hi he cl
        exact ⟨33, _, 1, Or.inr rfl, Or.inl ⟨rfl, hs, fun j hj => he j (by omega)⟩, cl.trans (by
          refine XS.iloadN X0.here hexec rfl (hb hbytes d9) rfl ?_
          refine XS.aloadN X0.here hexec rfl (hb hbytes d10) rfl rfl ?_
          refine X0.alen hexec hA0 rfl rfl (hb hbytes d11) ?_
          refine XS.icmpYes X0.here hexec rfl (pc0 := 12) rfl (hb hbytes d12) rfl (ii_ge_t (nlt32 (by omega) (by omega))) (by decide) rfl ?_
          refine iconstV X0.here hexec rfl 1 (hb hbytes d32) (by decide) ?_
          exact Steps.refl _)⟩
      | succ r ih =>
        intro i hi he cl
        have c4 : Steps p.tables e below (s₁.setTop (entryFrame m #[.ref a, .ref b] 3)) (s₁.setTop (mkF m 21 #[.val (.ref a), .val (.ref b), .val (.int (Int32.ofNat i))] [.int (yv B i), .int (yv A i)])) := cl.trans (by
          refine XS.iloadN X0.here hexec rfl (hb hbytes d9) rfl ?_
          refine XS.aloadN X0.here hexec rfl (hb hbytes d10) rfl rfl ?_
          refine X0.alen hexec hA0 rfl rfl (hb hbytes d11) ?_
          refine XS.icmpNo X0.here hexec rfl (hb hbytes d12) rfl (ii_ge_f (lt32 (by omega) (by omega))) ?_
          refine XS.aloadN X0.here hexec rfl (hb hbytes d15) rfl rfl ?_
          refine XS.iloadN X0.here hexec rfl (hb hbytes d16) rfl ?_
          refine X0.aget hexec hA0 rfl (yv_get hA tA (i := i) (by omega)) rfl rfl (hb hbytes d17) ?_
          refine XS.aloadN X0.here hexec rfl (hb hbytes d18) rfl rfl ?_
          refine XS.iloadN X0.here hexec rfl (hb hbytes d19) rfl ?_
          refine X0.aget hexec hB0 rfl (yv_get hB tB (i := i) (by omega)) rfl rfl (hb hbytes d20) ?_
          exact Steps.refl _)
        by_cases hv : yv A i = yv B i
        · have c5 : Steps p.tables e below (s₁.setTop (entryFrame m #[.ref a, .ref b] 3)) (s₁.setTop (mkF m 9 #[.val (.ref a), .val (.ref b), .val (.int (Int32.ofNat i + 1))] [])) := c4.trans (by
            refine XS.icmpYes X0.here hexec rfl (pc0 := 21) rfl (hb hbytes d21) rfl (ii_eq_t hv) (by decide) rfl ?_
            refine iincV X0.here hexec rfl 1 (hb hbytes d26) (by decide) rfl rfl ?_
            refine XS.goto X0.here hexec rfl (pc0 := 29) rfl (hb hbytes d29) (by decide) rfl ?_
            exact Steps.refl _)
          rw [succ32] at c5
          exact ih (i + 1) (by omega) (fun j hj => by
            by_cases e : j = i
            · rw [e]; exact hv
            · exact he j (by omega)) c5
        · exact ⟨25, _, 0, Or.inl rfl, Or.inr ⟨rfl, fun q => hv (q.2 i (by omega))⟩, c4.trans (by
            refine XS.icmpNo X0.here hexec rfl (hb hbytes d21) rfl (ii_eq_f hv) ?_
            refine iconstV X0.here hexec rfl 0 (hb hbytes d24) (by decide) ?_
            exact Steps.refl _)⟩
    obtain ⟨pc, Ls, v, hpc, hv, cz⟩ := loop A.slots.size 0 (by omega) (fun j hj => absurd hj (Nat.not_lt_zero j)) c3
    have nv : narrow .boolean (.int v) = .int v := by rcases hv with ⟨rfl, -⟩ | ⟨rfl, -⟩ <;> rfl
    rcases hpc with rfl | rfl
    · exact ⟨s₁, some (.int v), _, _, _, X0, rfl, rfl, rfl, (fun h => by cases h), ⟨v, rfl, hh0, hv⟩, fun fs hl => cz.trans (X0.ireturnOut hexec hret nv (Or.inr (Or.inl rfl)) (hb hbytes d25) hl)⟩
    · exact ⟨s₁, some (.int v), _, _, _, X0, rfl, rfl, rfl, (fun h => by cases h), ⟨v, rfl, hh0, hv⟩, fun fs hl => cz.trans (X0.ireturnOut hexec hret nv (Or.inr (Or.inl rfl)) (hb hbytes d33) hl)⟩
  · have c3 : Steps p.tables e below (s₁.setTop (entryFrame m #[.ref a, .ref b] 3)) (s₁.setTop (mkF m 35 #[.val (.ref a), .val (.ref b), .unset] [.int 0])) := c2.trans (by
      refine XS.icmpYes X0.here hexec rfl (pc0 := 4) rfl (hb hbytes d4) rfl (ii_ne_t (ne32 a31 b31 hs)) (by decide) rfl ?_
      refine iconstV X0.here hexec rfl 0 (hb hbytes d34) (by decide) ?_
      exact Steps.refl _)
    exact ⟨s₁, some (.int 0), _, _, _, X0, rfl, rfl, rfl, (fun h => by cases h), ⟨0, rfl, hh0, Or.inr ⟨rfl, fun q => hs q.1⟩⟩, fun fs hl => c3.trans (X0.ireturnOut hexec hret rfl (Or.inr (Or.inl rfl)) (hb hbytes d35) hl)⟩
end LEq
theorem Cod.ty {cd : Int32} {n : Nat} {f : Nat → Int32} {V : Cell} (h : Cod cd n f V) : Typed .byte V := fun i v hv => by
  have hi : i < V.slots.size := (Array.getElem?_eq_some_iff.mp hv).1
  rcases h with ⟨-, k1, k2⟩ | ⟨-, k1, k2, -⟩
  · rw [(k2 i (by omega)).1] at hv; cases hv; exact fits_lo8 _
  · rcases Nat.mod_two_eq_zero_or_one i with e | e
    · obtain ⟨j, rfl⟩ : ∃ j, i = 2 * j := ⟨i / 2, by omega⟩
      rw [(k2 j (by omega)).1] at hv; cases hv; exact fits_lo8 _
    · obtain ⟨j, rfl⟩ : ∃ j, i = 2 * j + 1 := ⟨i / 2, by omega⟩
      rw [(k2 j (by omega)).2] at hv; cases hv; exact fits_lo8 _
/-- the same text -/
def SameT (n : Nat) (f : Nat → Int32) (k : Nat) (g : Nat → Int32) : Prop := n = k ∧ ∀ j, j < n → f j = g j
theorem lo8_inj {x y : Int32} (h0 : ¬ x < 0) (h1 : ¬ 255 < x) (k0 : ¬ y < 0) (k1 : ¬ 255 < y) (h : lo8 x = lo8 y) : x = y := by
  rw [← lo8_mask h0 h1, ← lo8_mask k0 k1, h]
/-- arrays coded by one coder are equal just where the texts are -/
theorem Cod.eqv {cd : Int32} {n k : Nat} {f g : Nat → Int32} {V V' : Cell} (h : Cod cd n f V) (h' : Cod cd k g V') (hf : ∀ j, j < n → ¬ f j < 0 ∧ ¬ 65535 < f j) (hg : ∀ j, j < k → ¬ g j < 0 ∧ ¬ 65535 < g j) : EqC V V' ↔ SameT n f k g := by
  have yvv : ∀ {W : Cell} {i : Nat} {x : Int32}, W.slots[i]? = some (.int x) → yv W i = x := fun q => by unfold yv; rw [q]
  rcases h with ⟨rfl, k1, k2⟩ | ⟨rfl, k1, k2, -⟩
  · rcases h' with ⟨-, m1, m2⟩ | ⟨e, -⟩
    · constructor
      · rintro ⟨e1, e2⟩
        refine ⟨by omega, fun j hj => ?_⟩
        have q := e2 j (by omega)
        rw [yvv (k2 j hj).1, yvv (m2 j (by omega)).1] at q
        exact lo8_inj (hf j hj).1 (k2 j hj).2 (hg j (by omega)).1 (m2 j (by omega)).2 q
      · rintro ⟨rfl, e2⟩
        refine ⟨by omega, fun j hj => ?_⟩
        rw [yvv (k2 j (by omega)).1, yvv (m2 j (by omega)).1, e2 j (by omega)]
    · exact absurd e (by decide)
  · rcases h' with ⟨e, -⟩ | ⟨-, m1, m2, -⟩
    · exact absurd e (by decide)
    · constructor
      · rintro ⟨e1, e2⟩
        refine ⟨by omega, fun j hj => ?_⟩
        have q1 := e2 (2 * j) (by omega)
        have q2 := e2 (2 * j + 1) (by omega)
        rw [yvv (k2 j hj).1, yvv (m2 j (by omega)).1] at q1
        rw [yvv (k2 j hj).2, yvv (m2 j (by omega)).2] at q2
        rw [← pair_says (hf j hj).1 (hf j hj).2, ← pair_says (hg j (by omega)).1 (hg j (by omega)).2, q1, q2]
      · rintro ⟨rfl, e2⟩
        refine ⟨by omega, fun i hi => ?_⟩
        rcases Nat.mod_two_eq_zero_or_one i with e | e
        · obtain ⟨j, rfl⟩ : ∃ j, i = 2 * j := ⟨i / 2, by omega⟩
          rw [yvv (k2 j (by omega)).1, yvv (m2 j (by omega)).1, e2 j (by omega)]
        · obtain ⟨j, rfl⟩ : ∃ j, i = 2 * j + 1 := ⟨i / 2, by omega⟩
          rw [yvv (k2 j (by omega)).2, yvv (m2 j (by omega)).2, e2 j (by omega)]
/-- two codings differ: so do the texts -/
theorem Cod.dif {cd cd' : Int32} {n k : Nat} {f g : Nat → Int32} {V V' : Cell} (h : Cod cd n f V) (h' : Cod cd' k g V') (hne : ¬ cd = cd') : ¬ SameT n f k g := by
  rintro ⟨rfl, e⟩
  rcases h with ⟨rfl, -, k2⟩ | ⟨rfl, -, -, j, hj, hw⟩
  · rcases h' with ⟨rfl, -⟩ | ⟨-, -, -, j, hj, hw⟩
    · exact hne rfl
    · exact (k2 j hj).2 (by rw [e j hj]; exact hw)
  · rcases h' with ⟨-, -, m2⟩ | ⟨rfl, -⟩
    · exact (m2 j hj).2 (by rw [← e j hj]; exact hw)
    · exact hne rfl
/-- an object of exactly C is an instance of C -/
theorem cinst {p : Program} {l : Launch} {e : Env} {R : Room} {s : State} {m : MethodId} {args : Array Value} {below : List Frame} {meth : Method} {c : Code} {T : State} {locs : List Loc} {cells slots : Nat} (X : Stand p l e R s m args below meth c T locs cells slots) (hexec : p.tables.exec = Jvm.exec) {own C : String} {index : Nat} (hown : s.vm.findClass own = some m.cls) (hlink : (Cond.classLink own index C).before args s = true) {a : Addr} (hE : Exact C a T)
    {g : JFrame} (hg : g.method = m) {rest : List Value} (hstack : g.stack = .ref a :: rest) (hdg : decode c.code g.pc = .ok (.instanceof index, 3)) :
    ∃ T', Stand p l e R s m args below meth c T' locs cells slots ∧ T'.heap = T.heap ∧ ∀ target, Steps p.tables e below (T'.setTop { g with pc := g.pc + 3, stack := .int 1 :: rest }) target → Steps p.tables e below (T.setTop g) target := by
  obtain ⟨cB, h1, D, h2, h3, h4⟩ := hE
  have h1' : s.vm.findClass C = some cB := by rw [← X.warmed.alike.findClass]; exact h1
  obtain ⟨vm', X', st⟩ := X.instanceofYes hexec hown hlink h2 h4 h1' (by rw [h3]; exact Jvm.Free.SB.assignable_self _ _) hg hstack hdg
  exact ⟨_, X', rfl, st⟩
theorem cself {p : Program} {l : Launch} {e : Env} {R : Room} {s : State} {m : MethodId} {args : Array Value} {below : List Frame} {meth : Method} {c : Code} {T : State} {locs : List Loc} {cells slots : Nat} (X : Stand p l e R s m args below meth c T locs cells slots) (hexec : p.tables.exec = Jvm.exec) {own C : String} {index : Nat} (hown : s.vm.findClass own = some m.cls) (hlink : (Cond.classLink own index C).before args s = true) {a : Addr} (hE : Exact C a T)
    {g : JFrame} (hg : g.method = m) {rest : List Value} (hstack : g.stack = .ref a :: rest) (hdg : decode c.code g.pc = .ok (.checkcast index, 3)) :
    ∃ T', Stand p l e R s m args below meth c T' locs cells slots ∧ T'.heap = T.heap ∧ ∀ target, Steps p.tables e below (T'.setTop { g with pc := g.pc + 3, stack := .ref a :: rest }) target → Steps p.tables e below (T.setTop g) target := by
  obtain ⟨cB, h1, D, h2, h3, h4⟩ := hE
  have h1' : s.vm.findClass C = some cB := by rw [← X.warmed.alike.findClass]; exact h1
  obtain ⟨vm', X', st⟩ := X.checkcastYes hexec hown hlink h2 h4 h1' (by rw [h3]; exact Jvm.Free.SB.assignable_self _ _) hg hstack hdg
  exact ⟨_, X', rfl, fun t h => st t (by rw [← hstack] at h; exact h)⟩
namespace SEq
def yN : MethodName := ⟨"java/lang/String", "equals", "(Ljava/lang/Object;)Z"⟩
abbrev yB : ByteArray := jdk_42_method_66_code
theorem d0 : decode yB 0 = .ok (.aload_n 0, 1) := by decide +kernel
theorem d1 : decode yB 1 = .ok (.aload_n 1, 1) := by decide +kernel
theorem d2 : decode yB 2 = .ok (.if_acmp (.ne) 5, 3) := by decide +kernel
theorem d5 : decode yB 5 = .ok (.iconst 1, 1) := by decide +kernel
theorem d6 : decode yB 6 = .ok (.ireturn, 1) := by decide +kernel
theorem d7 : decode yB 7 = .ok (.aload_n 1, 1) := by decide +kernel
theorem d8 : decode yB 8 = .ok (.instanceof 10, 3) := by decide +kernel
theorem d11 : decode yB 11 = .ok (.ifCond (.eq) 43, 3) := by decide +kernel
theorem d14 : decode yB 14 = .ok (.aload_n 1, 1) := by decide +kernel
theorem d15 : decode yB 15 = .ok (.checkcast 10, 3) := by decide +kernel
theorem d18 : decode yB 18 = .ok (.astore_n 2, 1) := by decide +kernel
theorem d19 : decode yB 19 = .ok (.getstatic 38, 3) := by decide +kernel
theorem d22 : decode yB 22 = .ok (.ifCond (.eq) 14, 3) := by decide +kernel
theorem d25 : decode yB 25 = .ok (.aload_n 0, 1) := by decide +kernel
theorem d26 : decode yB 26 = .ok (.getfield 15, 3) := by decide +kernel
theorem d29 : decode yB 29 = .ok (.aload_n 2, 1) := by decide +kernel
theorem d30 : decode yB 30 = .ok (.getfield 15, 3) := by decide +kernel
theorem d33 : decode yB 33 = .ok (.if_icmp (.ne) 21, 3) := by decide +kernel
theorem d36 : decode yB 36 = .ok (.aload_n 0, 1) := by decide +kernel
theorem d37 : decode yB 37 = .ok (.getfield 9, 3) := by decide +kernel
theorem d40 : decode yB 40 = .ok (.aload_n 2, 1) := by decide +kernel
theorem d41 : decode yB 41 = .ok (.getfield 9, 3) := by decide +kernel
theorem d44 : decode yB 44 = .ok (.invokestatic 541, 3) := by decide +kernel
theorem d47 : decode yB 47 = .ok (.ifCond (.eq) 7, 3) := by decide +kernel
theorem d50 : decode yB 50 = .ok (.iconst 1, 1) := by decide +kernel
theorem d51 : decode yB 51 = .ok (.goto 4, 3) := by decide +kernel
theorem d54 : decode yB 54 = .ok (.iconst 0, 1) := by decide +kernel
theorem d55 : decode yB 55 = .ok (.ireturn, 1) := by decide +kernel
def site : List Cond := [.classLink "java/lang/String" 10 "java/lang/String", .fieldLink "java/lang/String" 38 "java/lang/String" "COMPACT_STRINGS" "Z", .fieldLink "java/lang/String" 15 "java/lang/String" "coder" "B", .fieldLink "java/lang/String" 9 "java/lang/String" "value" "[B", LEq.tab] ++ staticW "java/lang/String" 541 LEq.yN
def tab : Cond := tabOf yN yB 3 (some .boolean) site
def P (x t : Addr) (V : Cell) (cd : Int32) (n : Nat) (f : Nat → Int32) (y t' : Addr) (V' : Cell) (cd' : Int32) (k : Nat) (g : Nat → Int32) (z : Int32) (args : Array Value) (s : State) : Prop := args = #[.ref x, .ref y] ∧ Txt x t V cd n f s ∧ Txt y t' V' cd' k g s ∧ StaticIs s "java/lang/String" "COMPACT_STRINGS" "Z" (.int z) ∧ ¬ z = 0
/-- equals(Object) of two Strings: whether the texts are the same -/
theorem law (l : Launch) (x t : Addr) (V : Cell) (cd : Int32) (n : Nat) (f : Nat → Int32) (y t' : Addr) (V' : Cell) (cd' : Int32) (k : Nat) (g : Nat → Int32) (z : Int32) : Law l yN 2 1 1 14 yB 3 (some .boolean) site (P x t V cd n f y t' V' cd' k g z) (Says01 (SameT n f k g)) [] 0 0 := by
  refine Law.of_walk (plainFor_of_name (by decide +kernel)) (by decide +kernel) (by decide +kernel) (by decide) (fun _ _ h => by rw [h.1]; rfl) (fun _ U U' hal hh h => ⟨h.1, h.2.1.mv hal hh, h.2.2.1.mv hal hh, h.2.2.2.1.there hal hh, h.2.2.2.2⟩) (fun r U U' V V' h1 hal h2 h => Says01.mv r U U' V V' h1 hal h2 h) ?_
  intro p e s m args below meth c s₁ X0 hexec hbytes hml hret hlk hnm hown hh0 W hP
  obtain ⟨rfl, hx, hy, s1, hz⟩ := hP
  have c1 : Steps p.tables e below (s₁.setTop (entryFrame m #[.ref x, .ref y] 3)) (s₁.setTop (mkF m 2 #[.val (.ref x), .val (.ref y), .unset] [.ref y, .ref x])) := Steps.trans (entry rfl) (by
    show Steps p.tables e below (s₁.setTop (mkF m 0 #[.val (.ref x), .val (.ref y), .unset] [])) _
    refine XS.aloadN X0.here hexec rfl (hb hbytes d0) rfl rfl ?_
    refine XS.aloadN X0.here hexec rfl (hb hbytes d1) rfl rfl ?_
    exact Steps.refl _)
  by_cases hxy : x = y
  · have c2 : Steps p.tables e below (s₁.setTop (entryFrame m #[.ref x, .ref y] 3)) (s₁.setTop (mkF m 6 #[.val (.ref x), .val (.ref y), .unset] [.int 1])) := c1.trans (by
      refine acmpNo X0.here hexec rfl (hb hbytes d2) rfl rfl rfl (by simp [acmp, hxy]) ?_
      refine iconstV X0.here hexec rfl 1 (hb hbytes d5) (by decide) ?_
      exact Steps.refl _)
    subst hxy
    have ec : cd = cd' := by
      obtain ⟨D, fd, a1, a2, a3⟩ := hx.2.2.1
      obtain ⟨D', fd', b1, b2, b3⟩ := hy.2.2.1
      cases a1.symm.trans b1
      obtain ⟨q1, q2, q3, q4⟩ := a2.1
      obtain ⟨r1, r2, r3, r4⟩ := b2.1
      cases q4.symm.trans r4
      cases a3.symm.trans b3; rfl
    have et : t = t' := by
      obtain ⟨D, fd, a1, a2, a3⟩ := hx.2.1
      obtain ⟨D', fd', b1, b2, b3⟩ := hy.2.1
      cases a1.symm.trans b1
      obtain ⟨q1, q2, q3, q4⟩ := a2.1
      obtain ⟨r1, r2, r3, r4⟩ := b2.1
      cases q4.symm.trans r4
      cases a3.symm.trans b3; rfl
    subst ec et
    have ev : V = V' := by cases hx.2.2.2.1.1.symm.trans hy.2.2.2.1.1; rfl
    subst ev
    have hs : SameT n f k g := (Cod.eqv hx.2.2.2.2.1 hy.2.2.2.2.1 hx.2.2.2.2.2 hy.2.2.2.2.2).mp ⟨rfl, fun _ _ => rfl⟩
    exact ⟨s₁, some (.int 1), _, _, _, X0, rfl, rfl, rfl, (fun h => by cases h), ⟨1, rfl, hh0, Or.inl ⟨rfl, hs⟩⟩, fun fs hl => c2.trans (X0.ireturnOut hexec hret rfl (Or.inr (Or.inl rfl)) (hb hbytes d6) hl)⟩
  · have c2 : Steps p.tables e below (s₁.setTop (entryFrame m #[.ref x, .ref y] 3)) (s₁.setTop (mkF m 8 #[.val (.ref x), .val (.ref y), .unset] [.ref y])) := c1.trans (by
      refine acmpYes X0.here hexec rfl (pc0 := 2) rfl (hb hbytes d2) rfl rfl rfl (by simp [acmp, hxy]) (by decide) rfl ?_
      refine XS.aloadN X0.here hexec rfl (hb hbytes d7) rfl rfl ?_
      exact Steps.refl _)
    obtain ⟨T3, X3, q3, st3⟩ := cinst X0 hexec hown (wk W (.classLink "java/lang/String" 10 "java/lang/String")) (hy.mv X0.warmed.alike hh0).1 (g := (mkF m 8 #[.val (.ref x), .val (.ref y), .unset] [.ref y])) rfl (rest := []) rfl (hb hbytes d8)
    have hh3 := q3.trans hh0
    have c4 : Steps p.tables e below (s₁.setTop (entryFrame m #[.ref x, .ref y] 3)) (T3.setTop (mkF m 15 #[.val (.ref x), .val (.ref y), .unset] [.ref y])) := (c2.trans (st3 _ (Steps.refl _))).trans (by
      refine XS.ifNo X3.here hexec rfl (hb hbytes d11) rfl (i0_eq_f (by decide)) ?_
      refine XS.aloadN X3.here hexec rfl (hb hbytes d14) rfl rfl ?_
      exact Steps.refl _)
    obtain ⟨T5, X5, q5, st5⟩ := cself X3 hexec hown (wk W (.classLink "java/lang/String" 10 "java/lang/String")) (hy.mv X3.warmed.alike hh3).1 (g := (mkF m 15 #[.val (.ref x), .val (.ref y), .unset] [.ref y])) rfl (rest := []) rfl (hb hbytes d15)
    have hh5 := q5.trans hh3
    have c6 : Steps p.tables e below (s₁.setTop (entryFrame m #[.ref x, .ref y] 3)) (T5.setTop (mkF m 19 #[.val (.ref x), .val (.ref y), .val (.ref y)] [])) := (c4.trans (st5 _ (Steps.refl _))).trans (by
      refine XS.astoreN X5.here hexec rfl (hb hbytes d18) rfl rfl rfl ?_
      exact Steps.refl _)
    obtain ⟨T7, X7, q7, st7⟩ := X5.sget hexec hown (wk W (.fieldLink "java/lang/String" 38 "java/lang/String" "COMPACT_STRINGS" "Z")) s1 (fun _ _ h => by rw [hh5]; exact h) (g := (mkF m 19 #[.val (.ref x), .val (.ref y), .val (.ref y)] [])) rfl (hb hbytes d19)
    have hh7 := q7.trans hh5
    have c8 : Steps p.tables e below (s₁.setTop (entryFrame m #[.ref x, .ref y] 3)) (T7.setTop (mkF m 26 #[.val (.ref x), .val (.ref y), .val (.ref y)] [.ref x])) := (c6.trans (st7 _ (Steps.refl _))).trans (by
      refine XS.ifNo X7.here hexec rfl (hb hbytes d22) rfl (i0_eq_f hz) ?_
      refine XS.aloadN X7.here hexec rfl (hb hbytes d25) rfl rfl ?_
      exact Steps.refl _)
    obtain ⟨T9, X9, q9, st9⟩ := X7.hget hexec hown (wk W (.fieldLink "java/lang/String" 15 "java/lang/String" "coder" "B")) (hx.mv X7.warmed.alike hh7).2.2.1 (g := (mkF m 26 #[.val (.ref x), .val (.ref y), .val (.ref y)] [.ref x])) rfl (rest := []) rfl (hb hbytes d26)
    have hh9 := q9.trans hh7
    have c10 : Steps p.tables e below (s₁.setTop (entryFrame m #[.ref x, .ref y] 3)) (T9.setTop (mkF m 30 #[.val (.ref x), .val (.ref y), .val (.ref y)] [.ref y, .int cd])) := (c8.trans (st9 _ (Steps.refl _))).trans (by
      refine XS.aloadN X9.here hexec rfl (hb hbytes d29) rfl rfl ?_
      exact Steps.refl _)
    obtain ⟨T11, X11, q11, st11⟩ := X9.hget hexec hown (wk W (.fieldLink "java/lang/String" 15 "java/lang/String" "coder" "B")) (hy.mv X9.warmed.alike hh9).2.2.1 (g := (mkF m 30 #[.val (.ref x), .val (.ref y), .val (.ref y)] [.ref y, .int cd])) rfl (rest := [.int cd]) rfl (hb hbytes d30)
    have hh11 := q11.trans hh9
    have c12 : Steps p.tables e below (s₁.setTop (entryFrame m #[.ref x, .ref y] 3)) (T11.setTop (mkF m 33 #[.val (.ref x), .val (.ref y), .val (.ref y)] [.int cd', .int cd])) := c10.trans (st11 _ (Steps.refl _))
    by_cases hcd : cd = cd'
    · subst hcd
      have c13 : Steps p.tables e below (s₁.setTop (entryFrame m #[.ref x, .ref y] 3)) (T11.setTop (mkF m 37 #[.val (.ref x), .val (.ref y), .val (.ref y)] [.ref x])) := c12.trans (by
        refine XS.icmpNo X11.here hexec rfl (hb hbytes d33) rfl (ii_ne_f rfl) ?_
        refine XS.aloadN X11.here hexec rfl (hb hbytes d36) rfl rfl ?_
        exact Steps.refl _)
      obtain ⟨T14, X14, q14, st14⟩ := X11.hget hexec hown (wk W (.fieldLink "java/lang/String" 9 "java/lang/String" "value" "[B")) (hx.mv X11.warmed.alike hh11).2.1 (g := (mkF m 37 #[.val (.ref x), .val (.ref y), .val (.ref y)] [.ref x])) rfl (rest := []) rfl (hb hbytes d37)
      have hh14 := q14.trans hh11
      have c15 : Steps p.tables e below (s₁.setTop (entryFrame m #[.ref x, .ref y] 3)) (T14.setTop (mkF m 41 #[.val (.ref x), .val (.ref y), .val (.ref y)] [.ref y, .ref t])) := (c13.trans (st14 _ (Steps.refl _))).trans (by
        refine XS.aloadN X14.here hexec rfl (hb hbytes d40) rfl rfl ?_
        exact Steps.refl _)
      obtain ⟨T16, X16, q16, st16⟩ := X14.hget hexec hown (wk W (.fieldLink "java/lang/String" 9 "java/lang/String" "value" "[B")) (hy.mv X14.warmed.alike hh14).2.1 (g := (mkF m 41 #[.val (.ref x), .val (.ref y), .val (.ref y)] [.ref y, .ref t])) rfl (rest := [.ref t]) rfl (hb hbytes d41)
      have hh16 := q16.trans hh14
      have c17 : Steps p.tables e below (s₁.setTop (entryFrame m #[.ref x, .ref y] 3)) (T16.setTop (mkF m 44 #[.val (.ref x), .val (.ref y), .val (.ref y)] [.ref t', .ref t])) := c15.trans (st16 _ (Steps.refl _))
      obtain ⟨v18, T18, X18, E18, g18⟩ := X16.callS hexec (LEq.law l t V t' V') hown (wks W (staticW "java/lang/String" 541 LEq.yN)) (wk W LEq.tab) (W := 0) (Nat.le_of_ble_eq_true rfl) (Nat.le_of_ble_eq_true rfl) (Nat.le_refl _) (Nat.le_refl _) (g := (mkF m 44 #[.val (.ref x), .val (.ref y), .val (.ref y)] [.ref t', .ref t])) rfl (by rw [hml]; rfl) c17 (argsL := [.ref t, .ref t']) (rest := []) rfl rfl (by show 2 * 0 + 0 ≤ _; decide) (hb hbytes d44) (⟨rfl, hx.2.2.2.1.mv X16.warmed.alike hh16, hx.2.2.2.2.1.ty, hy.2.2.2.1.mv X16.warmed.alike hh16, hy.2.2.2.2.1.ty⟩)
      obtain ⟨v, rfl, q18, hv⟩ := E18
      have iff := Cod.eqv hx.2.2.2.2.1 hy.2.2.2.2.1 hx.2.2.2.2.2 hy.2.2.2.2.2
      rcases hv with ⟨rfl, he⟩ | ⟨rfl, he⟩
      · have c19 : Steps p.tables e below (s₁.setTop (entryFrame m #[.ref x, .ref y] 3)) (T18.setTop (mkF m 55 #[.val (.ref x), .val (.ref y), .val (.ref y)] [.int 1])) := Steps.trans g18 (by
          refine XS.ifNo X18.here hexec rfl (hb hbytes d47) rfl (i0_eq_f (by decide)) ?_
          refine iconstV X18.here hexec rfl 1 (hb hbytes d50) (by decide) ?_
          refine XS.goto X18.here hexec rfl (pc0 := 51) rfl (hb hbytes d51) (by decide) rfl ?_
          exact Steps.refl _)
        exact ⟨T18, some (.int 1), _, _, _, X18, rfl, rfl, rfl, (fun h => by cases h), ⟨1, rfl, q18.trans hh16, Or.inl ⟨rfl, iff.mp he⟩⟩, fun fs hl => c19.trans (X18.ireturnOut hexec hret rfl (Or.inr (Or.inl rfl)) (hb hbytes d55) hl)⟩
      · have c19 : Steps p.tables e below (s₁.setTop (entryFrame m #[.ref x, .ref y] 3)) (T18.setTop (mkF m 55 #[.val (.ref x), .val (.ref y), .val (.ref y)] [.int 0])) := Steps.trans g18 (by
          refine XS.ifYes X18.here hexec rfl (pc0 := 47) rfl (hb hbytes d47) rfl (i0_eq_t rfl) (by decide) rfl ?_
          refine iconstV X18.here hexec rfl 0 (hb hbytes d54) (by decide) ?_
          exact Steps.refl _)
        exact ⟨T18, some (.int 0), _, _, _, X18, rfl, rfl, rfl, (fun h => by cases h), ⟨0, rfl, q18.trans hh16, Or.inr ⟨rfl, fun q => he (iff.mpr q)⟩⟩, fun fs hl => c19.trans (X18.ireturnOut hexec hret rfl (Or.inr (Or.inl rfl)) (hb hbytes d55) hl)⟩
    · have c13 : Steps p.tables e below (s₁.setTop (entryFrame m #[.ref x, .ref y] 3)) (T11.setTop (mkF m 55 #[.val (.ref x), .val (.ref y), .val (.ref y)] [.int 0])) := c12.trans (by
        refine XS.icmpYes X11.here hexec rfl (pc0 := 33) rfl (hb hbytes d33) rfl (ii_ne_t hcd) (by decide) rfl ?_
        refine iconstV X11.here hexec rfl 0 (hb hbytes d54) (by decide) ?_
        exact Steps.refl _)
      exact ⟨T11, some (.int 0), _, _, _, X11, rfl, rfl, rfl, (fun h => by cases h), ⟨0, rfl, hh11, Or.inr ⟨rfl, Cod.dif hx.2.2.2.2.1 hy.2.2.2.2.1 hcd⟩⟩, fun fs hl => c13.trans (X11.ireturnOut hexec hret rfl (Or.inr (Or.inl rfl)) (hb hbytes d55) hl)⟩
theorem pays {l : Launch} {R : Room} {p : Program} {e : Env} {below : List Frame} {s : State} {sargs : Array Value} {len W : Nat} (x t : Addr) (V : Cell) (cd : Int32) (n : Nat) (f : Nat → Int32) (y t' : Addr) (V' : Cell) (cd' : Int32) (k : Nat) (g : Nat → Int32) (z : Int32) (htab : tab.before sargs s = true) (hfr : 2 ≤ R.frames) (hlo : W + 28 ≤ R.locals) :
    Back l R p e below s sargs yN len W (fun A₁ a₁ => A₁.cells + 0 ≤ R.cells ∧ A₁.slots + 0 ≤ R.slots ∧ P x t V cd n f y t' V' cd' k g z a₁ A₁.U) (fun A₁ _ v₁ B₁ => Says01 (SameT n f k g) v₁ A₁.U B₁.U ∧ B₁.locs = A₁.locs ++ [] ∧ B₁.cells = A₁.cells + 0 ∧ B₁.slots = A₁.slots + 0) :=
  (law l x t V cd n f y t' V' cd' k g z).pays htab hfr (by omega)
end SEq
end StrChars
namespace StrChars.Road
open Jvm Sem ClassFile Op Lib Jvm.Stand Jvm.Free Jvm.Free.XT
open Jvm.Lib.Cold (StaticIs)
/-- the words of String.equals(Object) -/
abbrev wordsEq : List Jvm.Cond := [.code SEq.yN SEq.yB 3 (some .boolean), .initialized ST, .classLink ST 10 ST, .fieldLink ST 38 ST "COMPACT_STRINGS" "Z", .fieldLink ST 15 ST "coder" "B", .fieldLink ST 9 ST "value" "[B", .methodLink ST 541 LEq.yN, .static LEq.yN, .code LEq.yN LEq.yB 3 (some .boolean), .initialized "java/lang/StringLatin1"]
theorem tabEq_of {a : Array Value} {s : State} (h : ∀ w ∈ wordsEq, w.before a s = true) : SEq.tab.before a s = true := by
  have hl : LEq.tab.before a s = true := unparts (wk h (.code LEq.yN LEq.yB 3 (some .boolean))) (wks h (.initialized LEq.yN.cls :: LEq.site))
  have q := consq hl h
  exact unparts (wk q (.code SEq.yN SEq.yB 3 (some .boolean))) (wks q (.initialized SEq.yN.cls :: SEq.site))
theorem movedEq {Z s : State} {a0 args : Array Value} (hZ : Z.Warmed39 s.vm) (hw : ∀ d ∈ wordsEq, d.before a0 Z = true) : ∀ d ∈ wordsEq, d.before args s = true := fun d hd => by
  have t : ∀ d ∈ wordsEq, (d.onTables && d.keepsFace) = true := by decide +kernel
  exact RoadKit.mv hZ (hw d hd) (t d hd)
/-- the road's facts of a String, as the laws ask it -/
theorem txt_of {Z U : State} {a0 : Array Value} {kI : Nat} (wi : (Jvm.Cond.instantiable ST kI).before a0 Z = true) (al : Z.vm.Alike U.vm) {x t : Addr} {kb : ClassId} {cs : List Int32} {cd N2 : Int32} {vs : List Value} (E : RoadKit.Exa Z U.heap x ST) (V : RoadKit.Fld Z U.heap x ST "value" "[B" (.ref t)) (C : RoadKit.Fld Z U.heap x ST "coder" "B" (.int cd)) (K : RoadKit.Arv Z U.heap t kb .byte N2 vs (.int 0)) (hc : CodA cs cd N2 vs) (hb : ∀ c ∈ cs, ¬ c < 0 ∧ ¬ (65535 : Int32) < c) (l2 : cs.length ≤ 4000) :
    ∃ A, Txt x t A cd cs.length (fun j => cs.getD j 0) U := by
  obtain ⟨A, K1, K2, K3, K4, K5, K6⟩ := K
  have hcod := hc.cod (by omega) K3 K5
  obtain ⟨D, fV, fC, hB, F1, F2, g1, g2, -, -⟩ := strObj wi al E V C
  exact ⟨A, ⟨_, hB.2.2.1, D, hB.1, rfl, by cases q : D.vm <;> first | rfl | exact absurd q (hB.2.1.2 _)⟩, Has.of hB F1 g1, Has.of hB F2 g2, ⟨K1.1, State.isArrayOf_alike al K1.2.1, K1.2.2, by rcases hcod with ⟨-, q, -⟩ | ⟨-, q, -⟩ <;> omega⟩, hcod, fun j hj => by
    have e : cs.getD j 0 = cs[j] := by simp [List.getD_eq_getElem?_getD, hj]
    show ¬ cs.getD j 0 < 0 ∧ ¬ 65535 < cs.getD j 0
    rw [e]; exact hb _ (List.getElem_mem _)⟩
theorem same_list (cs ds : List Int32) : SameT cs.length (fun j => cs.getD j 0) ds.length (fun j => ds.getD j 0) ↔ cs = ds := by
  constructor
  · rintro ⟨e, q⟩
    refine List.ext_getElem e fun j h1 h2 => ?_
    have := q j h1
    simpa [List.getD_eq_getElem?_getD, h1, h2] using this
  · rintro rfl
    exact ⟨rfl, fun _ _ => rfl⟩
/-- **equals(Object) OF TWO SUCH STRINGS**: 1 just where the chars are the same -/
theorem eqW {p : Program} {l : Launch} {e : Env} {R : Room} {s : State} {args : Array Value} {below : List Frame} {len W : Nat} {Z : State} {a0 : Array Value} {h : Heap} (hZ : Z.Warmed39 s.vm) (hw : ∀ d ∈ wordsEq, d.before a0 Z = true) {kI : Nat} (wi : (Jvm.Cond.instantiable ST kI).before a0 Z = true)
    {x t : Addr} {kb : ClassId} {cs : List Int32} {cd N2 : Int32} {vs : List Value} (E : RoadKit.Exa Z h x ST) (V : RoadKit.Fld Z h x ST "value" "[B" (.ref t)) (C : RoadKit.Fld Z h x ST "coder" "B" (.int cd)) (K : RoadKit.Arv Z h t kb .byte N2 vs (.int 0)) (hc : CodA cs cd N2 vs) (hb : ∀ c ∈ cs, ¬ c < 0 ∧ ¬ (65535 : Int32) < c) (l2 : cs.length ≤ 4000)
    {y t' : Addr} {kb' : ClassId} {ds : List Int32} {cd' N2' : Int32} {vs' : List Value} (E' : RoadKit.Exa Z h y ST) (V' : RoadKit.Fld Z h y ST "value" "[B" (.ref t')) (C' : RoadKit.Fld Z h y ST "coder" "B" (.int cd')) (K' : RoadKit.Arv Z h t' kb' .byte N2' vs' (.int 0)) (hc' : CodA ds cd' N2' vs') (hb' : ∀ c ∈ ds, ¬ c < 0 ∧ ¬ (65535 : Int32) < c) (l2' : ds.length ≤ 4000)
    {z : Int32} (S : RoadKit.Sta Z h ST "COMPACT_STRINGS" "Z" (.int z)) (hz : ¬ z = 0) (hfr : 2 ≤ R.frames) (hlo : W + 28 ≤ R.locals) :
    Back l R p e below s args (⟨"java/lang/String", "equals", "(Ljava/lang/Object;)Z"⟩ : MethodName) len W (fun P a => a = #[.ref x, .ref y] ∧ P.U.heap = h ∧ P.cells + 0 ≤ R.cells ∧ P.slots + 0 ≤ R.slots)
      (fun P _ v B => ∃ L, (((v = some (.int 1) ∧ cs = ds) ∨ (v = some (.int 0) ∧ ¬ cs = ds)) ∧ L = [] ∧ B.U.heap = h) ∧ B.locs = P.locs ++ L ∧ B.cells = P.cells + 0 ∧ B.slots = P.slots + 0) := by
  intro m meth c P g ig mk a X hg hsize hdg hW hn hp'
  obtain ⟨rfl, rfl, r1, r2⟩ := hp'
  have al : Z.vm.Alike P.U.vm := hZ.alike.trans X.warmed.alike
  obtain ⟨A, hx⟩ := txt_of wi al E V C K hc hb l2
  obtain ⟨A', hy⟩ := txt_of wi al E' V' C' K' hc' hb' l2'
  obtain ⟨v, B, X', ⟨⟨w, hv, hh, hq⟩, hl, hk, hs⟩, st⟩ := SEq.pays x t A cd cs.length (fun j => cs.getD j 0) y t' A' cd' ds.length (fun j => ds.getD j 0) z (tabEq_of (movedEq hZ hw)) hfr hlo m meth c P g ig mk _ X hg hsize hdg hW hn ⟨r1, r2, rfl, hx, hy, sta_is al S, hz⟩
  refine ⟨v, B, X', ⟨[], ⟨?_, rfl, hh⟩, hl, hk, hs⟩, st⟩
  rcases hq with ⟨rfl, q⟩ | ⟨rfl, q⟩
  · exact Or.inl ⟨hv, (same_list cs ds).mp q⟩
  · exact Or.inr ⟨hv, fun e => q ((same_list cs ds).mpr e)⟩
end StrChars.Road
namespace StrChars
open Jvm Sem ClassFile Op Lib Jvm.Stand Jvm.Free.XT Jvm.Free.ALB Jvm.Free.JM Jvm.Free
open Jvm.Lib.Cold (StaticIs)
namespace ChN
def yN : MethodName := ⟨"java/lang/String", "charAt", "(I)C"⟩
abbrev yB : ByteArray := jdk_42_method_56_code
theorem d0 : decode yB 0 = .ok (.aload_n 0, 1) := by decide +kernel
theorem d1 : decode yB 1 = .ok (.invokevirtual 492, 3) := by decide +kernel
theorem d4 : decode yB 4 = .ok (.ifCond (.eq) 12, 3) := by decide +kernel
theorem d7 : decode yB 7 = .ok (.aload_n 0, 1) := by decide +kernel
theorem d8 : decode yB 8 = .ok (.getfield 9, 3) := by decide +kernel
theorem d11 : decode yB 11 = .ok (.iload_n 1, 1) := by decide +kernel
theorem d12 : decode yB 12 = .ok (.invokestatic 495, 3) := by decide +kernel
theorem d15 : decode yB 15 = .ok (.ireturn, 1) := by decide +kernel
def site : List Cond := [.fieldLink "java/lang/String" 9 "java/lang/String" "value" "[B", IsL.tab, LChA.tab] ++ virtW "java/lang/String" 492 "java/lang/String" IsL.yN IsL.yN ++ staticW "java/lang/String" 495 LChA.yN
def tab : Cond := tabOf yN yB 2 (some .char) site
def P (x t : Addr) (V : Cell) (n : Nat) (f : Nat → Int32) (z : Int32) (fm : Value) (i : Nat) (args : Array Value) (s : State) : Prop := args = #[.ref x, .int (Int32.ofNat i)] ∧ Txt x t V 0 n f s ∧ i < n ∧ StaticIs s "java/lang/String" "COMPACT_STRINGS" "Z" (.int z) ∧ ¬ z = 0 ∧ StaticIs s "jdk/internal/util/Preconditions" "SIOOBE_FORMATTER" "Ljava/util/function/BiFunction;" fm ∧ fm.isRef = true
def E (f : Nat → Int32) (i : Nat) (r : Option Value) (s u : State) : Prop := XT.PureE (some (.int (f i))) r s u
/-- charAt(i) of a Latin-1 String of n chars, i < n: f i -/
theorem law (l : Launch) (x t : Addr) (V : Cell) (n : Nat) (f : Nat → Int32) (z : Int32) (fm : Value) (i : Nat) : Law l yN 2 1 3 40 yB 2 (some .char) site (P x t V n f z fm i) (E f i) [] 0 0 := by
  refine Law.of_walk (plainFor_of_name (by decide +kernel)) (by decide +kernel) (by decide +kernel) (by decide) (fun _ _ h => by rw [h.1]; rfl) (fun _ U U' hal hh h => ⟨h.1, h.2.1.mv hal hh, h.2.2.1, h.2.2.2.1.there hal hh, h.2.2.2.2.1, h.2.2.2.2.2.1.there hal hh, h.2.2.2.2.2.2⟩) (fun r U U' V V' h1 hal h2 h => XT.PureE.mv r U U' V V' h1 hal h2 h) ?_
  intro p e s m args below meth c s₁ X0 hexec hbytes hml hret hlk hnm hown hh0 W hP
  obtain ⟨rfl, hx, hi, s1, hz, s3, rf⟩ := hP
  have v31 := hx.2.2.2.1.2.2.2
  have hr := hx.2.2.2.2.2 i hi
  have hx0 := hx.mv X0.warmed.alike hh0
  have c1 : Steps p.tables e below (s₁.setTop (entryFrame m #[.ref x, .int (Int32.ofNat i)] 2)) (s₁.setTop (mkF m 1 #[.val (.ref x), .val (.int (Int32.ofNat i))] [.ref x])) := Steps.trans (entry rfl) (by
    show Steps p.tables e below (s₁.setTop (mkF m 0 #[.val (.ref x), .val (.int (Int32.ofNat i))] [])) _
    refine XS.aloadN X0.here hexec rfl (hb hbytes d0) rfl rfl ?_
    exact Steps.refl _)
  obtain ⟨v2, T2, X2, E2, g2⟩ := X0.callV hexec (IsL.law l x 0 z) hown (wks W (virtW "java/lang/String" 492 "java/lang/String" IsL.yN IsL.yN)) rfl (by decide) (wk W IsL.tab) (W := 0) (Nat.le_of_ble_eq_true rfl) (Nat.le_of_ble_eq_true rfl) (Nat.le_refl _) (Nat.le_refl _) (hx0.1.fc X0.warmed.alike) hx0.1.is (g := (mkF m 1 #[.val (.ref x), .val (.int (Int32.ofNat i))] [.ref x])) rfl (by rw [hml]; rfl) c1 (argsL := []) (rest := []) rfl rfl (by show 2 * 0 + 0 ≤ _; decide) (hb hbytes d1) (⟨rfl, hx0.2.2.1, hx.2.2.2.2.1.cd, s1.there X0.warmed.alike hh0, hz⟩)
  obtain ⟨rfl, q2⟩ := E2
  have hh2 := q2.trans hh0
  have hx2 := hx.mv X2.warmed.alike hh2
  obtain ⟨-, k1, k2⟩ | ⟨k0, -⟩ := hx.2.2.2.2.1
  · have c3 : Steps p.tables e below (s₁.setTop (entryFrame m #[.ref x, .int (Int32.ofNat i)] 2)) (T2.setTop (mkF m 8 #[.val (.ref x), .val (.int (Int32.ofNat i))] [.ref x])) := Steps.trans g2 (by
      refine XS.ifNo X2.here hexec rfl (hb hbytes d4) rfl (i0_eq_f (by decide)) ?_
      refine XS.aloadN X2.here hexec rfl (hb hbytes d7) rfl rfl ?_
      exact Steps.refl _)
    obtain ⟨T4, X4, q4, st4⟩ := X2.hget hexec hown (wk W (.fieldLink "java/lang/String" 9 "java/lang/String" "value" "[B")) hx2.2.1 (g := (mkF m 8 #[.val (.ref x), .val (.int (Int32.ofNat i))] [.ref x])) rfl (rest := []) rfl (hb hbytes d8)
    have hh4 := q4.trans hh2
    have c5 : Steps p.tables e below (s₁.setTop (entryFrame m #[.ref x, .int (Int32.ofNat i)] 2)) (T4.setTop (mkF m 12 #[.val (.ref x), .val (.int (Int32.ofNat i))] [.int (Int32.ofNat i), .ref t])) := (c3.trans (st4 _ (Steps.refl _))).trans (by
      refine XS.iloadN X4.here hexec rfl (hb hbytes d11) rfl ?_
      exact Steps.refl _)
    obtain ⟨v6, T6, X6, E6, g6⟩ := X4.callS hexec (LChA.law l t V i (lo8 (f i)) fm) hown (wks W (staticW "java/lang/String" 495 LChA.yN)) (wk W LChA.tab) (W := 0) (Nat.le_of_ble_eq_true rfl) (Nat.le_of_ble_eq_true rfl) (Nat.le_refl _) (Nat.le_refl _) (g := (mkF m 12 #[.val (.ref x), .val (.int (Int32.ofNat i))] [.int (Int32.ofNat i), .ref t])) rfl (by rw [hml]; rfl) c5 (argsL := [.ref t, .int (Int32.ofNat i)]) (rest := []) rfl rfl (by show 2 * 0 + 0 ≤ _; decide) (hb hbytes d12) (⟨rfl, hx.2.2.2.1.mv X4.warmed.alike hh4, (k2 i hi).1, s3.there X4.warmed.alike hh4, rf⟩)
    obtain ⟨rfl, q6⟩ := E6
    rw [chr8_lo8 hr.1 (k2 i hi).2] at g6
    exact ⟨T6, some (.int (f i)), _, _, _, X6, rfl, rfl, rfl, (fun h => by cases h), ⟨rfl, q6.trans hh4⟩, fun fs hl => Steps.trans g6 (X6.ireturnOut hexec hret (narrow_ch hr.1 hr.2) (Or.inr (Or.inr (Or.inr (Or.inl rfl)))) (hb hbytes d15) hl)⟩
  · exact absurd k0 (by decide)
theorem pays {l : Launch} {R : Room} {p : Program} {e : Env} {below : List Frame} {s : State} {sargs : Array Value} {len W : Nat} (x t : Addr) (V : Cell) (n : Nat) (f : Nat → Int32) (z : Int32) (fm : Value) (i : Nat) (htab : tab.before sargs s = true) (hfr : 4 ≤ R.frames) (hlo : W + 53 ≤ R.locals) :
    Back l R p e below s sargs yN len W (fun A₁ a₁ => A₁.cells + 0 ≤ R.cells ∧ A₁.slots + 0 ≤ R.slots ∧ P x t V n f z fm i a₁ A₁.U) (fun A₁ _ v₁ B₁ => E f i v₁ A₁.U B₁.U ∧ B₁.locs = A₁.locs ++ [] ∧ B₁.cells = A₁.cells + 0 ∧ B₁.slots = A₁.slots + 0) :=
  (law l x t V n f z fm i).pays htab hfr (by omega)
end ChN
end StrChars
namespace StrChars.Road
open Jvm Sem ClassFile Op Lib Jvm.Stand Jvm.Free Jvm.Free.XT
open Jvm.Lib.Cold (StaticIs)
/-- the words of String.charAt(int), the Latin-1 road alone -/
abbrev wordsChN : List Jvm.Cond := [.code ChN.yN ChN.yB 2 (some .char), .initialized ST, .fieldLink ST 9 ST "value" "[B", .fieldLink ST 38 ST "COMPACT_STRINGS" "Z", .fieldLink ST 15 ST "coder" "B", .code IsL.yN IsL.yB 1 (some .boolean), .methodLink ST 492 IsL.yN, .declares IsL.yN, .selects ST IsL.yN IsL.yN, .instanceMethod IsL.yN,
  .methodLink ST 495 LChA.yN, .static LChA.yN, .code LChA.yN LChA.yB 2 (some .char), .initialized "java/lang/StringLatin1", .methodLink "java/lang/StringLatin1" 9 JO.Str_checkIndex.yN, .static JO.Str_checkIndex.yN, .code JO.Str_checkIndex.yN JO.Str_checkIndex.yB 2 none,
  .fieldLink ST 1053 "jdk/internal/util/Preconditions" "SIOOBE_FORMATTER" "Ljava/util/function/BiFunction;", .methodLink ST 1059 JC.PreCheck.yN, .static JC.PreCheck.yN, .code JC.PreCheck.yN JC.PreCheck.yB 3 (some .int), .initialized "jdk/internal/util/Preconditions"]
theorem tabChN_of {a : Array Value} {s : State} (h : ∀ w ∈ wordsChN, w.before a s = true) : ChN.tab.before a s = true := by
  have hp : JC.PreCheck.tab.before a s = true := unparts (wk h (.code JC.PreCheck.yN JC.PreCheck.yB 3 (some .int))) (wks h (.initialized JC.PreCheck.yN.cls :: JC.PreCheck.site))
  have qk := consq hp h
  have hk : JO.Str_checkIndex.tab.before a s = true := unparts (wk qk (.code JO.Str_checkIndex.yN JO.Str_checkIndex.yB 2 none)) (wks qk (.initialized JO.Str_checkIndex.yN.cls :: JO.Str_checkIndex.site))
  have ql := consq hk h
  have hl : LChA.tab.before a s = true := unparts (wk ql (.code LChA.yN LChA.yB 2 (some .char))) (wks ql (.initialized LChA.yN.cls :: LChA.site))
  have hi : IsL.tab.before a s = true := unparts (wk h (.code IsL.yN IsL.yB 1 (some .boolean))) (wks h (.initialized IsL.yN.cls :: IsL.site))
  have q := consq hi (consq hl h)
  exact unparts (wk q (.code ChN.yN ChN.yB 2 (some .char))) (wks q (.initialized ChN.yN.cls :: ChN.site))
theorem movedChN {Z s : State} {a0 args : Array Value} (hZ : Z.Warmed39 s.vm) (hw : ∀ d ∈ wordsChN, d.before a0 Z = true) : ∀ d ∈ wordsChN, d.before args s = true := fun d hd => by
  have t : ∀ d ∈ wordsChN, (d.onTables && d.keepsFace) = true := by decide +kernel
  exact RoadKit.mv hZ (hw d hd) (t d hd)
/-- **charAt(i) OF A LATIN-1 STRING**, i < n: the char -/
theorem chN {p : Program} {l : Launch} {e : Env} {R : Room} {s : State} {args : Array Value} {below : List Frame} {len W : Nat} {Z : State} {a0 : Array Value} {h : Heap} (hZ : Z.Warmed39 s.vm) (hw : ∀ d ∈ wordsChN, d.before a0 Z = true) {kI : Nat} (wi : (Jvm.Cond.instantiable ST kI).before a0 Z = true)
    {x t : Addr} {kb : ClassId} {cs : List Int32} {N2 z : Int32} {vs : List Value} {fm : Value} {i : Nat} {j : Int32} (E : RoadKit.Exa Z h x ST) (V : RoadKit.Fld Z h x ST "value" "[B" (.ref t)) (C : RoadKit.Fld Z h x ST "coder" "B" (.int 0)) (K : RoadKit.Arv Z h t kb .byte N2 vs (.int 0)) (hc : CodA cs 0 N2 vs) (hb : ∀ c ∈ cs, ¬ c < 0 ∧ ¬ (65535 : Int32) < c)
    (S : RoadKit.Sta Z h ST "COMPACT_STRINGS" "Z" (.int z)) (hz : ¬ z = 0) (F : RoadKit.Sta Z h "jdk/internal/util/Preconditions" "SIOOBE_FORMATTER" "Ljava/util/function/BiFunction;" fm) (rf : fm.isRef = true) (l2 : cs.length ≤ 4000) (hi : i < cs.length) (hj : j = Int32.ofNat i) (hfr : 4 ≤ R.frames) (hlo : W + 53 ≤ R.locals) :
    Back l R p e below s args (⟨"java/lang/String", "charAt", "(I)C"⟩ : MethodName) len W (fun P a => a = #[.ref x, .int j] ∧ P.U.heap = h ∧ P.cells + 0 ≤ R.cells ∧ P.slots + 0 ≤ R.slots)
      (fun P _ v B => ∃ L, (v = some (.int (cs.getD i 0)) ∧ L = [] ∧ B.U.heap = h) ∧ B.locs = P.locs ++ L ∧ B.cells = P.cells + 0 ∧ B.slots = P.slots + 0) := by
  subst hj
  intro m meth c P g ig mk a X hg hsize hdg hW hn hp'
  obtain ⟨rfl, rfl, r1, r2⟩ := hp'
  have al : Z.vm.Alike P.U.vm := hZ.alike.trans X.warmed.alike
  obtain ⟨A, hx⟩ := txt_of wi al E V C K hc hb l2
  obtain ⟨v, B, X', ⟨⟨hv, hh⟩, hl, hk, hs⟩, st⟩ := ChN.pays x t A cs.length (fun j => cs.getD j 0) z fm i (tabChN_of (movedChN hZ hw)) hfr hlo m meth c P g ig mk _ X hg hsize hdg hW hn ⟨r1, r2, rfl, hx, hi, sta_is al S, hz, sta_is al F, rf⟩
  exact ⟨v, B, X', ⟨[], ⟨hv, rfl, hh⟩, hl, hk, hs⟩, st⟩
/-- what backV says of its String, as the contracts of this text ask it: cs's low bytes, coder 0 -/
theorem codOf {cs : List Int32} {n : Nat} (hn : cs.length = n) (hb : ∀ c ∈ cs, ¬ 255 < c) : CodA cs 0 (Int32.ofNat n) ((cs.map lo8).map Value.int) := Or.inl ⟨rfl, by rw [hn], by simp [List.map_map, Function.comp_def], hb⟩
end StrChars.Road
end Jvm.Pilot.@@N@@
namespace Jvm.Pilot.@@N@@
open Jvm Jvm.ClassFile Sem Op Lib Jvm.Free Jvm.Stand Jvm.LawKit Jvm.RoadKit Bundle Jvm.Pilot.@@N@@.Jvm.D

namespace Own
open Jvm Jvm.ClassFile Sem Op Lib Jvm.Free Jvm.Stand Jvm.LawKit Jvm.RoadKit Bundle
abbrev Cx : Type := Program × Launch × Env × State × MethodId × Array Value × List Frame × Method × Code
abbrev Cx.p (X : Cx) : Program := X.1
abbrev Cx.l (X : Cx) : Launch := X.2.1
abbrev Cx.e (X : Cx) : Env := X.2.2.1
abbrev Cx.s (X : Cx) : State := X.2.2.2.1
abbrev Cx.m (X : Cx) : MethodId := X.2.2.2.2.1
abbrev Cx.args (X : Cx) : Array Value := X.2.2.2.2.2.1
abbrev Cx.below (X : Cx) : List Frame := X.2.2.2.2.2.2.1
abbrev Cx.meth (X : Cx) : Method := X.2.2.2.2.2.2.2.1
abbrev Cx.c (X : Cx) : Code := X.2.2.2.2.2.2.2.2
abbrev Rm (f k s l : Nat) : Room := { frames := f, cells := k, slots := s, locals := l }
/-- what never changes in one activation -/
def Fix (X : Cx) (Z : State) (a0 : Array Value) (EL : List (String × Nat)) (y : MethodName) (bs : ByteArray) (ml : Nat) (rt : Option FieldType) : Prop :=
  X.p.tables.exec = Jvm.exec ∧ X.c.code = bs ∧ X.c.maxLocals = ml ∧ X.meth.sig.returnType = rt ∧ X.meth.name = y.name ∧ X.meth.locks = false ∧ EW Z a0 EL
/-- where the walk stands: heap h, at most k cells and n slots made; sf: addresses that no booked literal lives at -/
def Spot (X : Cx) (R : Room) (Z : State) (a0 : Array Value) (EL : List (String × Nat)) (nw : Bool) (y : MethodName) (bs : ByteArray) (ml : Nat) (rt : Option FieldType) (sf : List Addr) (T : State) (h : Heap) (k n : Nat) : Prop :=
  Fix X Z a0 EL y bs ml rt ∧
  ∃ (vm0 : Vm) (L : List Loc), Stand X.p X.l X.e R (X.s.setVm vm0) X.m X.args X.below X.meth X.c T L k n ∧ T.heap = h ∧ X.s.Since vm0 h.size ∧ Z.Warmed39 vm0 ∧ vm0.findClass y.cls = some X.m.cls ∧ CHr Z EL X.s.vm X.s.heap vm0 h ∧ Fr Z.heap.size L ∧ Ext Z.heap h ∧ (∀ x ∈ sf, x < h.size ∧ Safe Z EL vm0 h x) ∧ (nw = true → X.s.WarmedH vm0)
def Done (X : Cx) (Z : State) (EL : List (String × Nat)) (nw : Bool) (Q : Option Value → Heap → Prop) (kc ks : Nat) (T : State) (g : JFrame) : Prop :=
  ∃ s₂ o, Steps X.p.tables X.e X.below (T.setTop g) s₂ ∧ s₂.status = .running ∧ Ended s₂ X.below o ∧ ∃ v L, o = .returned v ∧ (Q v s₂.heap ∧ Fr Z.heap.size L ∧ Ext Z.heap s₂.heap) ∧ CHr Z EL X.s.vm X.s.heap s₂.vm s₂.heap ∧ (nw = true → X.s.WarmedH s₂.vm) ∧ ReturnedEndW X.s o s₂ L kc ks
/-- from every state that stands so, the frame g runs to a return that Q allows -/
def Go (X : Cx) (R : Room) (Z : State) (a0 : Array Value) (EL : List (String × Nat)) (nw : Bool) (y : MethodName) (bs : ByteArray) (ml : Nat) (rt : Option FieldType) (Q : Option Value → Heap → Prop) (kc ks : Nat) (sf : List Addr) (h : Heap) (k n : Nat) (g : JFrame) : Prop :=
  ∀ T, Spot X R Z a0 EL nw y bs ml rt sf T h k n → Done X Z EL nw Q kc ks T g
section Kit
variable {X : Cx} {R : Room} {Z : State} {a0 : Array Value} {EL : List (String × Nat)} {nw : Bool} {y : MethodName} {bs : ByteArray} {ml : Nat} {rt : Option FieldType} {Q : Option Value → Heap → Prop} {kc ks : Nat} {sf sf' : List Addr} {h h' : Heap} {k n k' n' : Nat} {pc pc' pc2 : Nat} {Ls Ls' : Array Slot} {st : List Value} {g g' : JFrame} {T T' : State}
theorem acmp_eq (v w : Value) : XT.acmp .eq v w = decide (v = w) := rfl
theorem acmp_ne (v w : Value) : XT.acmp .ne v w = decide (v ≠ w) := rfl
theorem ble {a b : Nat} (q : Nat.ble a b = true) : a ≤ b := Nat.le_of_ble_eq_true q
theorem Done.back (st : ∀ t, Steps X.p.tables X.e X.below (T'.setTop g') t → Steps X.p.tables X.e X.below (T.setTop g) t) (D : Done X Z EL nw Q kc ks T' g') : Done X Z EL nw Q kc ks T g := by
  obtain ⟨s₂, o, h1, r⟩ := D
  exact ⟨s₂, o, st _ h1, r⟩
theorem Spot.mono (S : Spot X R Z a0 EL nw y bs ml rt sf T h k n) (hk : k ≤ k') (hn : n ≤ n') (hs : ∀ x ∈ sf', x ∈ sf) : Spot X R Z a0 EL nw y bs ml rt sf' T h k' n' := by
  obtain ⟨F, vm0, L, X1, r1, r2, r3, r4, r5, r6, r7, r8, r9⟩ := S
  exact ⟨F, vm0, L, X1.mono hk hn, r1, r2, r3, r4, r5, r6, r7, fun x hx => r8 x (hs x hx), r9⟩
theorem Go.mono (k' n' : Nat) (hk : Nat.ble k k' = true) (hn : Nat.ble n n' = true) (G : Go X R Z a0 EL nw y bs ml rt Q kc ks sf h k' n' g) : Go X R Z a0 EL nw y bs ml rt Q kc ks sf h k n g := fun T S => G T (S.mono (ble hk) (ble hn) fun _ q => q)
theorem Go.drop (G : Go X R Z a0 EL nw y bs ml rt Q kc ks [] h k n g) : Go X R Z a0 EL nw y bs ml rt Q kc ks sf h k n g := fun T S => G T (S.mono (Nat.le_refl _) (Nat.le_refl _) fun _ q => nomatch q)
theorem Go.step (st : ∀ T t, At T X.m X.c X.below → X.p.tables.exec = Jvm.exec → X.c.code = bs → Steps X.p.tables X.e X.below (T.setTop g') t → Steps X.p.tables X.e X.below (T.setTop g) t) (G : Go X R Z a0 EL nw y bs ml rt Q kc ks sf h k n g') : Go X R Z a0 EL nw y bs ml rt Q kc ks sf h k n g := fun T S => by
  have S' := S
  obtain ⟨⟨hx, hc, -⟩, vm0, L, X1, -⟩ := S'
  exact (G T S).back fun t q => st T t X1.here hx hc q
/-- what is known of the tables at hand, for a step that wants more -/
theorem Go.look (G : ∀ vm0, Z.Warmed39 vm0 → CHv Z EL vm0 h → Ext Z.heap h → (∀ x ∈ sf, x < h.size ∧ Safe Z EL vm0 h x) → Go X R Z a0 EL nw y bs ml rt Q kc ks sf h k n g) : Go X R Z a0 EL nw y bs ml rt Q kc ks sf h k n g := fun T S => by
  have S' := S
  obtain ⟨-, vm0, L, -, -, -, hZ, -, hC, -, hE, hs, -⟩ := S'
  exact G vm0 hZ hC.1 hE hs T S
/-- the statics and the old cells stand -/
theorem Go.old (G : Ext Z.heap h → Go X R Z a0 EL nw y bs ml rt Q kc ks sf h k n g) : Go X R Z a0 EL nw y bs ml rt Q kc ks sf h k n g := Go.look fun _ _ _ E _ => G E
theorem g_aloadN {i : Fin 4} {v : Value} (hd : decode bs pc = .ok (.aload_n i, 1)) (hp : pc + 1 = pc') (hv : Ls[i.val]? = some (.val v)) (hr : v.isRef = true) (G : Go X R Z a0 EL nw y bs ml rt Q kc ks sf h k n (mkF X.m pc' Ls (v :: st))) : Go X R Z a0 EL nw y bs ml rt Q kc ks sf h k n (mkF X.m pc Ls (st)) := by
  subst hp
  exact Go.step (fun T t hT hx hc q => XS.aloadN hT hx rfl (hb hc hd) hv hr q) G
theorem g_aload {i : Nat} {v : Value} (hd : decode bs pc = .ok (.aload i, 2)) (hp : pc + 2 = pc') (hv : Ls[i]? = some (.val v)) (hr : v.isRef = true) (G : Go X R Z a0 EL nw y bs ml rt Q kc ks sf h k n (mkF X.m pc' Ls (v :: st))) : Go X R Z a0 EL nw y bs ml rt Q kc ks sf h k n (mkF X.m pc Ls (st)) := by
  subst hp
  exact Go.step (fun T t hT hx hc q => XS.aload hT hx rfl (hb hc hd) hv hr q) G
theorem g_iloadN {i : Fin 4} {v : Int32} (hd : decode bs pc = .ok (.iload_n i, 1)) (hp : pc + 1 = pc') (hv : Ls[i.val]? = some (.val (.int v))) (G : Go X R Z a0 EL nw y bs ml rt Q kc ks sf h k n (mkF X.m pc' Ls (.int v :: st))) : Go X R Z a0 EL nw y bs ml rt Q kc ks sf h k n (mkF X.m pc Ls (st)) := by
  subst hp
  exact Go.step (fun T t hT hx hc q => XS.iloadN hT hx rfl (hb hc hd) hv q) G
theorem g_iload {i : Nat} {v : Int32} (hd : decode bs pc = .ok (.iload i, 2)) (hp : pc + 2 = pc') (hv : Ls[i]? = some (.val (.int v))) (G : Go X R Z a0 EL nw y bs ml rt Q kc ks sf h k n (mkF X.m pc' Ls (.int v :: st))) : Go X R Z a0 EL nw y bs ml rt Q kc ks sf h k n (mkF X.m pc Ls (st)) := by
  subst hp
  exact Go.step (fun T t hT hx hc q => XS.iload hT hx rfl (hb hc hd) hv q) G
theorem g_lloadN {i : Fin 4} {v : Int64} (hd : decode bs pc = .ok (.lload_n i, 1)) (hp : pc + 1 = pc') (hv : Ls[i.val]? = some (.val (.long v))) (G : Go X R Z a0 EL nw y bs ml rt Q kc ks sf h k n (mkF X.m pc' Ls (.long v :: st))) : Go X R Z a0 EL nw y bs ml rt Q kc ks sf h k n (mkF X.m pc Ls (st)) := by
  subst hp
  exact Go.step (fun T t hT hx hc q => XS.lloadN hT hx rfl (hb hc hd) hv q) G
theorem g_lload {i : Nat} {v : Int64} (hd : decode bs pc = .ok (.lload i, 2)) (hp : pc + 2 = pc') (hv : Ls[i]? = some (.val (.long v))) (G : Go X R Z a0 EL nw y bs ml rt Q kc ks sf h k n (mkF X.m pc' Ls (.long v :: st))) : Go X R Z a0 EL nw y bs ml rt Q kc ks sf h k n (mkF X.m pc Ls (st)) := by
  subst hp
  exact Go.step (fun T t hT hx hc q => XS.lload hT hx rfl (hb hc hd) hv q) G
theorem g_iconst {i : Int} {w : Int32} (hd : decode bs pc = .ok (.iconst i, 1)) (hp : pc + 1 = pc') (hw : Int32.ofInt i = w) (G : Go X R Z a0 EL nw y bs ml rt Q kc ks sf h k n (mkF X.m pc' Ls (.int w :: st))) : Go X R Z a0 EL nw y bs ml rt Q kc ks sf h k n (mkF X.m pc Ls st) := by
  subst hp hw
  exact Go.step (fun T t hT hx hc q => XS.iconst hT hx rfl (hb hc hd) q) G
theorem g_bipush {i : Int} {w : Int32} (hd : decode bs pc = .ok (.bipush i, 2)) (hp : pc + 2 = pc') (hw : (Int8.ofInt i).toInt32 = w) (G : Go X R Z a0 EL nw y bs ml rt Q kc ks sf h k n (mkF X.m pc' Ls (.int w :: st))) : Go X R Z a0 EL nw y bs ml rt Q kc ks sf h k n (mkF X.m pc Ls st) := by
  subst hp hw
  exact Go.step (fun T t hT hx hc q => XS.bipush hT hx rfl (hb hc hd) q) G
theorem g_sipush {i : Int} {w : Int32} (hd : decode bs pc = .ok (.sipush i, 3)) (hp : pc + 3 = pc') (hw : (Int16.ofInt i).toInt32 = w) (G : Go X R Z a0 EL nw y bs ml rt Q kc ks sf h k n (mkF X.m pc' Ls (.int w :: st))) : Go X R Z a0 EL nw y bs ml rt Q kc ks sf h k n (mkF X.m pc Ls st) := by
  subst hp hw
  exact Go.step (fun T t hT hx hc q => XS.sipush hT hx rfl (hb hc hd) q) G
theorem g_lconst {i : Fin 2} {w : Int64} (hd : decode bs pc = .ok (.lconst i, 1)) (hp : pc + 1 = pc') (hw : Int64.ofNat i = w) (G : Go X R Z a0 EL nw y bs ml rt Q kc ks sf h k n (mkF X.m pc' Ls (.long w :: st))) : Go X R Z a0 EL nw y bs ml rt Q kc ks sf h k n (mkF X.m pc Ls st) := by
  subst hp hw
  exact Go.step (fun T t hT hx hc q => XS.lconst hT hx rfl (hb hc hd) q) G
theorem g_aconst_null  (hd : decode bs pc = .ok (.aconst_null, 1)) (hp : pc + 1 = pc')  (G : Go X R Z a0 EL nw y bs ml rt Q kc ks sf h k n (mkF X.m pc' Ls (.null :: st))) : Go X R Z a0 EL nw y bs ml rt Q kc ks sf h k n (mkF X.m pc Ls (st)) := by
  subst hp
  exact Go.step (fun T t hT hx hc q => XS.aconstNull hT hx rfl (hb hc hd)  q) G
theorem g_iadd {x1 x2 : Int32} (hd : decode bs pc = .ok (.iadd, 1)) (hp : pc + 1 = pc')  (G : Go X R Z a0 EL nw y bs ml rt Q kc ks sf h k n (mkF X.m pc' Ls (.int (x1 + x2) :: st))) : Go X R Z a0 EL nw y bs ml rt Q kc ks sf h k n (mkF X.m pc Ls (.int x2 :: .int x1 :: st)) := by
  subst hp
  exact Go.step (fun T t hT hx hc q => XS.iadd hT hx rfl (hb hc hd) rfl  q) G
theorem g_isub {x1 x2 : Int32} (hd : decode bs pc = .ok (.isub, 1)) (hp : pc + 1 = pc')  (G : Go X R Z a0 EL nw y bs ml rt Q kc ks sf h k n (mkF X.m pc' Ls (.int (x1 - x2) :: st))) : Go X R Z a0 EL nw y bs ml rt Q kc ks sf h k n (mkF X.m pc Ls (.int x2 :: .int x1 :: st)) := by
  subst hp
  exact Go.step (fun T t hT hx hc q => XS.isub hT hx rfl (hb hc hd) rfl  q) G
theorem g_imul {x1 x2 : Int32} (hd : decode bs pc = .ok (.imul, 1)) (hp : pc + 1 = pc')  (G : Go X R Z a0 EL nw y bs ml rt Q kc ks sf h k n (mkF X.m pc' Ls (.int (x1 * x2) :: st))) : Go X R Z a0 EL nw y bs ml rt Q kc ks sf h k n (mkF X.m pc Ls (.int x2 :: .int x1 :: st)) := by
  subst hp
  exact Go.step (fun T t hT hx hc q => XS.imul hT hx rfl (hb hc hd) rfl  q) G
theorem g_iand {x1 x2 : Int32} (hd : decode bs pc = .ok (.iand, 1)) (hp : pc + 1 = pc')  (G : Go X R Z a0 EL nw y bs ml rt Q kc ks sf h k n (mkF X.m pc' Ls (.int (x1 &&& x2) :: st))) : Go X R Z a0 EL nw y bs ml rt Q kc ks sf h k n (mkF X.m pc Ls (.int x2 :: .int x1 :: st)) := by
  subst hp
  exact Go.step (fun T t hT hx hc q => XS.iand hT hx rfl (hb hc hd) rfl  q) G
theorem g_ior {x1 x2 : Int32} (hd : decode bs pc = .ok (.ior, 1)) (hp : pc + 1 = pc')  (G : Go X R Z a0 EL nw y bs ml rt Q kc ks sf h k n (mkF X.m pc' Ls (.int (x1 ||| x2) :: st))) : Go X R Z a0 EL nw y bs ml rt Q kc ks sf h k n (mkF X.m pc Ls (.int x2 :: .int x1 :: st)) := by
  subst hp
  exact Go.step (fun T t hT hx hc q => XS.ior hT hx rfl (hb hc hd) rfl  q) G
theorem g_ixor {x1 x2 : Int32} (hd : decode bs pc = .ok (.ixor, 1)) (hp : pc + 1 = pc')  (G : Go X R Z a0 EL nw y bs ml rt Q kc ks sf h k n (mkF X.m pc' Ls (.int (x1 ^^^ x2) :: st))) : Go X R Z a0 EL nw y bs ml rt Q kc ks sf h k n (mkF X.m pc Ls (.int x2 :: .int x1 :: st)) := by
  subst hp
  exact Go.step (fun T t hT hx hc q => XS.ixor hT hx rfl (hb hc hd) rfl  q) G
theorem g_ishl {x1 x2 : Int32} (hd : decode bs pc = .ok (.ishl, 1)) (hp : pc + 1 = pc')  (G : Go X R Z a0 EL nw y bs ml rt Q kc ks sf h k n (mkF X.m pc' Ls (.int (x1 <<< (x2 &&& 31)) :: st))) : Go X R Z a0 EL nw y bs ml rt Q kc ks sf h k n (mkF X.m pc Ls (.int x2 :: .int x1 :: st)) := by
  subst hp
  exact Go.step (fun T t hT hx hc q => XS.ishl hT hx rfl (hb hc hd) rfl  q) G
theorem g_ishr {x1 x2 : Int32} (hd : decode bs pc = .ok (.ishr, 1)) (hp : pc + 1 = pc')  (G : Go X R Z a0 EL nw y bs ml rt Q kc ks sf h k n (mkF X.m pc' Ls (.int (x1 >>> (x2 &&& 31)) :: st))) : Go X R Z a0 EL nw y bs ml rt Q kc ks sf h k n (mkF X.m pc Ls (.int x2 :: .int x1 :: st)) := by
  subst hp
  exact Go.step (fun T t hT hx hc q => XS.ishr hT hx rfl (hb hc hd) rfl  q) G
theorem g_iushr {x1 x2 : Int32} (hd : decode bs pc = .ok (.iushr, 1)) (hp : pc + 1 = pc')  (G : Go X R Z a0 EL nw y bs ml rt Q kc ks sf h k n (mkF X.m pc' Ls (.int (x1.toUInt32 >>> (x2 &&& 31).toUInt32).toInt32 :: st))) : Go X R Z a0 EL nw y bs ml rt Q kc ks sf h k n (mkF X.m pc Ls (.int x2 :: .int x1 :: st)) := by
  subst hp
  exact Go.step (fun T t hT hx hc q => XS.iushr hT hx rfl (hb hc hd) rfl  q) G
theorem g_idiv {x1 x2 : Int32} (hd : decode bs pc = .ok (.idiv, 1)) (hp : pc + 1 = pc') (hy : x2 ≠ 0) (G : Go X R Z a0 EL nw y bs ml rt Q kc ks sf h k n (mkF X.m pc' Ls (.int (x1 / x2) :: st))) : Go X R Z a0 EL nw y bs ml rt Q kc ks sf h k n (mkF X.m pc Ls (.int x2 :: .int x1 :: st)) := by
  subst hp
  exact Go.step (fun T t hT hx hc q => XS.idiv hT hx rfl (hb hc hd) rfl hy q) G
theorem g_ladd {x1 x2 : Int64} (hd : decode bs pc = .ok (.ladd, 1)) (hp : pc + 1 = pc')  (G : Go X R Z a0 EL nw y bs ml rt Q kc ks sf h k n (mkF X.m pc' Ls (.long (x1 + x2) :: st))) : Go X R Z a0 EL nw y bs ml rt Q kc ks sf h k n (mkF X.m pc Ls (.long x2 :: .long x1 :: st)) := by
  subst hp
  exact Go.step (fun T t hT hx hc q => XS.ladd hT hx rfl (hb hc hd) rfl  q) G
theorem g_lsub {x1 x2 : Int64} (hd : decode bs pc = .ok (.lsub, 1)) (hp : pc + 1 = pc')  (G : Go X R Z a0 EL nw y bs ml rt Q kc ks sf h k n (mkF X.m pc' Ls (.long (x1 - x2) :: st))) : Go X R Z a0 EL nw y bs ml rt Q kc ks sf h k n (mkF X.m pc Ls (.long x2 :: .long x1 :: st)) := by
  subst hp
  exact Go.step (fun T t hT hx hc q => XS.lsub hT hx rfl (hb hc hd) rfl  q) G
theorem g_lmul {x1 x2 : Int64} (hd : decode bs pc = .ok (.lmul, 1)) (hp : pc + 1 = pc')  (G : Go X R Z a0 EL nw y bs ml rt Q kc ks sf h k n (mkF X.m pc' Ls (.long (x1 * x2) :: st))) : Go X R Z a0 EL nw y bs ml rt Q kc ks sf h k n (mkF X.m pc Ls (.long x2 :: .long x1 :: st)) := by
  subst hp
  exact Go.step (fun T t hT hx hc q => XS.lmul hT hx rfl (hb hc hd) rfl  q) G
theorem g_land {x1 x2 : Int64} (hd : decode bs pc = .ok (.land, 1)) (hp : pc + 1 = pc')  (G : Go X R Z a0 EL nw y bs ml rt Q kc ks sf h k n (mkF X.m pc' Ls (.long (x1 &&& x2) :: st))) : Go X R Z a0 EL nw y bs ml rt Q kc ks sf h k n (mkF X.m pc Ls (.long x2 :: .long x1 :: st)) := by
  subst hp
  exact Go.step (fun T t hT hx hc q => XS.land hT hx rfl (hb hc hd) rfl  q) G
theorem g_lor {x1 x2 : Int64} (hd : decode bs pc = .ok (.lor, 1)) (hp : pc + 1 = pc')  (G : Go X R Z a0 EL nw y bs ml rt Q kc ks sf h k n (mkF X.m pc' Ls (.long (x1 ||| x2) :: st))) : Go X R Z a0 EL nw y bs ml rt Q kc ks sf h k n (mkF X.m pc Ls (.long x2 :: .long x1 :: st)) := by
  subst hp
  exact Go.step (fun T t hT hx hc q => XS.lor hT hx rfl (hb hc hd) rfl  q) G
theorem g_ldiv {x1 x2 : Int64} (hd : decode bs pc = .ok (.ldiv, 1)) (hp : pc + 1 = pc') (hy : x2 ≠ 0) (G : Go X R Z a0 EL nw y bs ml rt Q kc ks sf h k n (mkF X.m pc' Ls (.long (x1 / x2) :: st))) : Go X R Z a0 EL nw y bs ml rt Q kc ks sf h k n (mkF X.m pc Ls (.long x2 :: .long x1 :: st)) := by
  subst hp
  exact Go.step (fun T t hT hx hc q => XS.ldiv hT hx rfl (hb hc hd) rfl hy q) G
theorem g_lcmp {x1 x2 : Int64} (hd : decode bs pc = .ok (.lcmp, 1)) (hp : pc + 1 = pc')  (G : Go X R Z a0 EL nw y bs ml rt Q kc ks sf h k n (mkF X.m pc' Ls (.int (lcmpW x1 x2) :: st))) : Go X R Z a0 EL nw y bs ml rt Q kc ks sf h k n (mkF X.m pc Ls (.long x2 :: .long x1 :: st)) := by
  subst hp
  exact Go.step (fun T t hT hx hc q => XS.lcmp hT hx rfl (hb hc hd) rfl  q) G
theorem g_lshl {x1 : Int64} {x2 : Int32} (hd : decode bs pc = .ok (.lshl, 1)) (hp : pc + 1 = pc')  (G : Go X R Z a0 EL nw y bs ml rt Q kc ks sf h k n (mkF X.m pc' Ls (.long (x1 <<< (x2 &&& 63).toInt64) :: st))) : Go X R Z a0 EL nw y bs ml rt Q kc ks sf h k n (mkF X.m pc Ls (.int x2 :: .long x1 :: st)) := by
  subst hp
  exact Go.step (fun T t hT hx hc q => XS.lshl hT hx rfl (hb hc hd) rfl q) G
theorem g_lshr {x1 : Int64} {x2 : Int32} (hd : decode bs pc = .ok (.lshr, 1)) (hp : pc + 1 = pc')  (G : Go X R Z a0 EL nw y bs ml rt Q kc ks sf h k n (mkF X.m pc' Ls (.long (x1 >>> (x2 &&& 63).toInt64) :: st))) : Go X R Z a0 EL nw y bs ml rt Q kc ks sf h k n (mkF X.m pc Ls (.int x2 :: .long x1 :: st)) := by
  subst hp
  exact Go.step (fun T t hT hx hc q => XS.lshr hT hx rfl (hb hc hd) rfl q) G
theorem g_lushr {x1 : Int64} {x2 : Int32} (hd : decode bs pc = .ok (.lushr, 1)) (hp : pc + 1 = pc')  (G : Go X R Z a0 EL nw y bs ml rt Q kc ks sf h k n (mkF X.m pc' Ls (.long ((x1.toUInt64 >>> (x2 &&& 63).toInt64.toUInt64).toInt64) :: st))) : Go X R Z a0 EL nw y bs ml rt Q kc ks sf h k n (mkF X.m pc Ls (.int x2 :: .long x1 :: st)) := by
  subst hp
  exact Go.step (fun T t hT hx hc q => XS.lushr hT hx rfl (hb hc hd) rfl q) G
theorem g_irem {x1 x2 : Int32} (hd : decode bs pc = .ok (.irem, 1)) (hp : pc + 1 = pc') (hy : x2 ≠ 0) (G : Go X R Z a0 EL nw y bs ml rt Q kc ks sf h k n (mkF X.m pc' Ls (.int (x1 % x2) :: st))) : Go X R Z a0 EL nw y bs ml rt Q kc ks sf h k n (mkF X.m pc Ls (.int x2 :: .int x1 :: st)) := by
  subst hp
  exact Go.step (fun T t hT hx hc q => XS.irem hT hx rfl (hb hc hd) rfl hy (by rw [irem_eq_mod]; exact q)) G
theorem g_lrem {x1 x2 : Int64} (hd : decode bs pc = .ok (.lrem, 1)) (hp : pc + 1 = pc') (hy : x2 ≠ 0) (G : Go X R Z a0 EL nw y bs ml rt Q kc ks sf h k n (mkF X.m pc' Ls (.long (x1 - (x1 / x2) * x2) :: st))) : Go X R Z a0 EL nw y bs ml rt Q kc ks sf h k n (mkF X.m pc Ls (.long x2 :: .long x1 :: st)) := by
  subst hp
  exact Go.step (fun T t hT hx hc q => XS.lrem hT hx rfl (hb hc hd) rfl hy q) G
theorem g_ineg {x1 : Int32} (hd : decode bs pc = .ok (.ineg, 1)) (hp : pc + 1 = pc')  (G : Go X R Z a0 EL nw y bs ml rt Q kc ks sf h k n (mkF X.m pc' Ls (.int (-x1) :: st))) : Go X R Z a0 EL nw y bs ml rt Q kc ks sf h k n (mkF X.m pc Ls (.int x1 :: st)) := by
  subst hp
  exact Go.step (fun T t hT hx hc q => XS.ineg hT hx rfl (hb hc hd) rfl q) G
theorem g_lneg {x1 : Int64} (hd : decode bs pc = .ok (.lneg, 1)) (hp : pc + 1 = pc')  (G : Go X R Z a0 EL nw y bs ml rt Q kc ks sf h k n (mkF X.m pc' Ls (.long (-x1) :: st))) : Go X R Z a0 EL nw y bs ml rt Q kc ks sf h k n (mkF X.m pc Ls (.long x1 :: st)) := by
  subst hp
  exact Go.step (fun T t hT hx hc q => XS.lneg hT hx rfl (hb hc hd) rfl q) G
theorem g_i2l {x1 : Int32} (hd : decode bs pc = .ok (.i2l, 1)) (hp : pc + 1 = pc')  (G : Go X R Z a0 EL nw y bs ml rt Q kc ks sf h k n (mkF X.m pc' Ls (.long (x1.toInt64) :: st))) : Go X R Z a0 EL nw y bs ml rt Q kc ks sf h k n (mkF X.m pc Ls (.int x1 :: st)) := by
  subst hp
  exact Go.step (fun T t hT hx hc q => XS.i2l hT hx rfl (hb hc hd) rfl q) G
theorem g_l2i {x1 : Int64} (hd : decode bs pc = .ok (.l2i, 1)) (hp : pc + 1 = pc')  (G : Go X R Z a0 EL nw y bs ml rt Q kc ks sf h k n (mkF X.m pc' Ls (.int (x1.toInt32) :: st))) : Go X R Z a0 EL nw y bs ml rt Q kc ks sf h k n (mkF X.m pc Ls (.long x1 :: st)) := by
  subst hp
  exact Go.step (fun T t hT hx hc q => XS.l2i hT hx rfl (hb hc hd) rfl q) G
theorem g_i2b {x1 : Int32} (hd : decode bs pc = .ok (.i2b, 1)) (hp : pc + 1 = pc')  (G : Go X R Z a0 EL nw y bs ml rt Q kc ks sf h k n (mkF X.m pc' Ls (.int (x1.toInt8.toInt32) :: st))) : Go X R Z a0 EL nw y bs ml rt Q kc ks sf h k n (mkF X.m pc Ls (.int x1 :: st)) := by
  subst hp
  exact Go.step (fun T t hT hx hc q => XS.i2b hT hx rfl (hb hc hd) rfl q) G
theorem g_i2c {x1 : Int32} (hd : decode bs pc = .ok (.i2c, 1)) (hp : pc + 1 = pc')  (G : Go X R Z a0 EL nw y bs ml rt Q kc ks sf h k n (mkF X.m pc' Ls (.int (x1.toUInt32.toUInt16.toUInt32.toInt32) :: st))) : Go X R Z a0 EL nw y bs ml rt Q kc ks sf h k n (mkF X.m pc Ls (.int x1 :: st)) := by
  subst hp
  exact Go.step (fun T t hT hx hc q => XS.i2c hT hx rfl (hb hc hd) rfl q) G
theorem g_i2s {x1 : Int32} (hd : decode bs pc = .ok (.i2s, 1)) (hp : pc + 1 = pc')  (G : Go X R Z a0 EL nw y bs ml rt Q kc ks sf h k n (mkF X.m pc' Ls (.int (x1.toInt16.toInt32) :: st))) : Go X R Z a0 EL nw y bs ml rt Q kc ks sf h k n (mkF X.m pc Ls (.int x1 :: st)) := by
  subst hp
  exact Go.step (fun T t hT hx hc q => XS.i2s hT hx rfl (hb hc hd) rfl q) G
theorem g_dup {x1 : Value} (hd : decode bs pc = .ok (.dup, 1)) (hp : pc + 1 = pc') (hc1 : x1.category = 1) (G : Go X R Z a0 EL nw y bs ml rt Q kc ks sf h k n (mkF X.m pc' Ls (x1 :: x1 :: st))) : Go X R Z a0 EL nw y bs ml rt Q kc ks sf h k n (mkF X.m pc Ls (x1 :: st)) := by
  subst hp
  exact Go.step (fun T t hT hx hc q => XS.dup hT hx rfl (hb hc hd) rfl hc1 q) G
theorem g_pop {x1 : Value} (hd : decode bs pc = .ok (.pop, 1)) (hp : pc + 1 = pc') (hc1 : x1.category = 1) (G : Go X R Z a0 EL nw y bs ml rt Q kc ks sf h k n (mkF X.m pc' Ls (st))) : Go X R Z a0 EL nw y bs ml rt Q kc ks sf h k n (mkF X.m pc Ls (x1 :: st)) := by
  subst hp
  exact Go.step (fun T t hT hx hc q => XS.pop hT hx rfl (hb hc hd) rfl hc1 q) G
theorem g_dup_x1 {x1 x2 : Value} (hd : decode bs pc = .ok (.dup_x1, 1)) (hp : pc + 1 = pc') (hc1 : x1.category = 1) (hc2 : x2.category = 1) (G : Go X R Z a0 EL nw y bs ml rt Q kc ks sf h k n (mkF X.m pc' Ls (x1 :: x2 :: x1 :: st))) : Go X R Z a0 EL nw y bs ml rt Q kc ks sf h k n (mkF X.m pc Ls (x1 :: x2 :: st)) := by
  subst hp
  exact Go.step (fun T t hT hx hc q => XT.dupX1 hT hx rfl (hb hc hd) rfl hc1 hc2 q) G
theorem g_dup2 {x1 x2 : Value} (hd : decode bs pc = .ok (.dup2, 1)) (hp : pc + 1 = pc') (hc1 : x1.category = 1) (hc2 : x2.category = 1) (G : Go X R Z a0 EL nw y bs ml rt Q kc ks sf h k n (mkF X.m pc' Ls (x1 :: x2 :: x1 :: x2 :: st))) : Go X R Z a0 EL nw y bs ml rt Q kc ks sf h k n (mkF X.m pc Ls (x1 :: x2 :: st)) := by
  subst hp
  exact Go.step (fun T t hT hx hc q => XT.dup2 hT hx rfl (hb hc hd) rfl hc1 hc2 q) G
theorem g_istoreN {i : Fin 4} {x1 : Int32} (hd : decode bs pc = .ok (.istore_n i, 1)) (hp : pc + 1 = pc') (hl : storeLocals Ls i.val (.int x1) = some Ls') (G : Go X R Z a0 EL nw y bs ml rt Q kc ks sf h k n (mkF X.m pc' Ls' (st))) : Go X R Z a0 EL nw y bs ml rt Q kc ks sf h k n (mkF X.m pc Ls (.int x1 :: st)) := by
  subst hp
  exact Go.step (fun T t hT hx hc q => XS.istoreN hT hx rfl (hb hc hd) rfl hl q) G
theorem g_istore {i : Nat} {x1 : Int32} (hd : decode bs pc = .ok (.istore i, 2)) (hp : pc + 2 = pc') (hl : storeLocals Ls i (.int x1) = some Ls') (G : Go X R Z a0 EL nw y bs ml rt Q kc ks sf h k n (mkF X.m pc' Ls' (st))) : Go X R Z a0 EL nw y bs ml rt Q kc ks sf h k n (mkF X.m pc Ls (.int x1 :: st)) := by
  subst hp
  exact Go.step (fun T t hT hx hc q => XS.istore hT hx rfl (hb hc hd) rfl hl q) G
theorem g_lstoreN {i : Fin 4} {x1 : Int64} (hd : decode bs pc = .ok (.lstore_n i, 1)) (hp : pc + 1 = pc') (hl : storeLocals Ls i.val (.long x1) = some Ls') (G : Go X R Z a0 EL nw y bs ml rt Q kc ks sf h k n (mkF X.m pc' Ls' (st))) : Go X R Z a0 EL nw y bs ml rt Q kc ks sf h k n (mkF X.m pc Ls (.long x1 :: st)) := by
  subst hp
  exact Go.step (fun T t hT hx hc q => XS.lstoreN hT hx rfl (hb hc hd) rfl hl q) G
theorem g_lstore {i : Nat} {x1 : Int64} (hd : decode bs pc = .ok (.lstore i, 2)) (hp : pc + 2 = pc') (hl : storeLocals Ls i (.long x1) = some Ls') (G : Go X R Z a0 EL nw y bs ml rt Q kc ks sf h k n (mkF X.m pc' Ls' (st))) : Go X R Z a0 EL nw y bs ml rt Q kc ks sf h k n (mkF X.m pc Ls (.long x1 :: st)) := by
  subst hp
  exact Go.step (fun T t hT hx hc q => XS.lstore hT hx rfl (hb hc hd) rfl hl q) G
theorem g_astoreN {i : Fin 4} {x1 : Value} (hd : decode bs pc = .ok (.astore_n i, 1)) (hp : pc + 1 = pc') (hr : x1.isRef = true) (hl : storeLocals Ls i.val x1 = some Ls') (G : Go X R Z a0 EL nw y bs ml rt Q kc ks sf h k n (mkF X.m pc' Ls' (st))) : Go X R Z a0 EL nw y bs ml rt Q kc ks sf h k n (mkF X.m pc Ls (x1 :: st)) := by
  subst hp
  exact Go.step (fun T t hT hx hc q => XS.astoreN hT hx rfl (hb hc hd) rfl hr hl q) G
theorem g_astore {i : Nat} {x1 : Value} (hd : decode bs pc = .ok (.astore i, 2)) (hp : pc + 2 = pc') (hr : x1.isRef = true) (hl : storeLocals Ls i x1 = some Ls') (G : Go X R Z a0 EL nw y bs ml rt Q kc ks sf h k n (mkF X.m pc' Ls' (st))) : Go X R Z a0 EL nw y bs ml rt Q kc ks sf h k n (mkF X.m pc Ls (x1 :: st)) := by
  subst hp
  exact Go.step (fun T t hT hx hc q => XS.astore hT hx rfl (hb hc hd) rfl hr hl q) G
theorem g_iinc {i : Nat} {cst : Int} {x1 : Int32} (hd : decode bs pc = .ok (.iinc i cst, 3)) (hp : pc + 3 = pc') (hv : Ls[i]? = some (.val (.int x1))) (hl : storeLocals Ls i (.int (x1 + Int32.ofInt cst)) = some Ls') (G : Go X R Z a0 EL nw y bs ml rt Q kc ks sf h k n (mkF X.m pc' Ls' st)) : Go X R Z a0 EL nw y bs ml rt Q kc ks sf h k n (mkF X.m pc Ls st) := by
  subst hp
  exact Go.step (fun T t hT hx hc q => XS.iinc hT hx rfl (hb hc hd) hv hl q) G
theorem g_goto {o : Int} (hd : decode bs pc = .ok (.goto o, 3)) (ho : 0 ≤ (pc : Int) + o) (hp : ((pc : Int) + o).toNat = pc') (G : Go X R Z a0 EL nw y bs ml rt Q kc ks sf h k n (mkF X.m pc' Ls st)) : Go X R Z a0 EL nw y bs ml rt Q kc ks sf h k n (mkF X.m pc Ls st) :=
  Go.step (fun T t hT hx hc q => XS.goto hT hx rfl rfl (hb hc hd) ho hp q) G
theorem g_icmpeq {o : Int} {x1 x2 : Int32} (hd : decode bs pc = .ok (.if_icmp .eq o, 3)) (hp : pc + 3 = pc') (ho : 0 ≤ (pc : Int) + o) (hp2 : ((pc : Int) + o).toNat = pc2) (Gn : ¬ x1 = x2 → Go X R Z a0 EL nw y bs ml rt Q kc ks sf h k n (mkF X.m pc' Ls st)) (Gy : x1 = x2 → Go X R Z a0 EL nw y bs ml rt Q kc ks sf h k n (mkF X.m pc2 Ls st)) : Go X R Z a0 EL nw y bs ml rt Q kc ks sf h k n (mkF X.m pc Ls (.int x2 :: .int x1 :: st)) := by
  subst hp
  by_cases q : x1 = x2
  · exact Go.step (fun T t hT hx hc r => XS.icmpYes hT hx rfl rfl (hb hc hd) rfl ((teq q).1) ho hp2 r) (Gy q)
  · have q : ¬ x1 = x2 := q
    exact Go.step (fun T t hT hx hc r => XS.icmpNo hT hx rfl (hb hc hd) rfl ((feq q).1) r) (Gn q)
theorem g_ifeq {o : Int} {x1 : Int32} (hd : decode bs pc = .ok (.ifCond .eq o, 3)) (hp : pc + 3 = pc') (ho : 0 ≤ (pc : Int) + o) (hp2 : ((pc : Int) + o).toNat = pc2) (Gn : ¬ x1 = 0 → Go X R Z a0 EL nw y bs ml rt Q kc ks sf h k n (mkF X.m pc' Ls st)) (Gy : x1 = 0 → Go X R Z a0 EL nw y bs ml rt Q kc ks sf h k n (mkF X.m pc2 Ls st)) : Go X R Z a0 EL nw y bs ml rt Q kc ks sf h k n (mkF X.m pc Ls (.int x1 :: st)) := by
  subst hp
  by_cases q : x1 = 0
  · exact Go.step (fun T t hT hx hc r => XS.ifYes hT hx rfl rfl (hb hc hd) rfl (by rw [if0]; exact (teq q).1) ho hp2 r) (Gy q)
  · have q : ¬ x1 = 0 := q
    exact Go.step (fun T t hT hx hc r => XS.ifNo hT hx rfl (hb hc hd) rfl (by rw [if0]; exact (feq q).1) r) (Gn q)
theorem g_icmpne {o : Int} {x1 x2 : Int32} (hd : decode bs pc = .ok (.if_icmp .ne o, 3)) (hp : pc + 3 = pc') (ho : 0 ≤ (pc : Int) + o) (hp2 : ((pc : Int) + o).toNat = pc2) (Gn : x1 = x2 → Go X R Z a0 EL nw y bs ml rt Q kc ks sf h k n (mkF X.m pc' Ls st)) (Gy : ¬ x1 = x2 → Go X R Z a0 EL nw y bs ml rt Q kc ks sf h k n (mkF X.m pc2 Ls st)) : Go X R Z a0 EL nw y bs ml rt Q kc ks sf h k n (mkF X.m pc Ls (.int x2 :: .int x1 :: st)) := by
  subst hp
  by_cases q : ¬ x1 = x2
  · exact Go.step (fun T t hT hx hc r => XS.icmpYes hT hx rfl rfl (hb hc hd) rfl ((feq q).2) ho hp2 r) (Gy q)
  · have q : x1 = x2 := Decidable.not_not.mp q
    exact Go.step (fun T t hT hx hc r => XS.icmpNo hT hx rfl (hb hc hd) rfl ((teq q).2) r) (Gn q)
theorem g_ifne {o : Int} {x1 : Int32} (hd : decode bs pc = .ok (.ifCond .ne o, 3)) (hp : pc + 3 = pc') (ho : 0 ≤ (pc : Int) + o) (hp2 : ((pc : Int) + o).toNat = pc2) (Gn : x1 = 0 → Go X R Z a0 EL nw y bs ml rt Q kc ks sf h k n (mkF X.m pc' Ls st)) (Gy : ¬ x1 = 0 → Go X R Z a0 EL nw y bs ml rt Q kc ks sf h k n (mkF X.m pc2 Ls st)) : Go X R Z a0 EL nw y bs ml rt Q kc ks sf h k n (mkF X.m pc Ls (.int x1 :: st)) := by
  subst hp
  by_cases q : ¬ x1 = 0
  · exact Go.step (fun T t hT hx hc r => XS.ifYes hT hx rfl rfl (hb hc hd) rfl (by rw [if0]; exact (feq q).2) ho hp2 r) (Gy q)
  · have q : x1 = 0 := Decidable.not_not.mp q
    exact Go.step (fun T t hT hx hc r => XS.ifNo hT hx rfl (hb hc hd) rfl (by rw [if0]; exact (teq q).2) r) (Gn q)
theorem g_icmplt {o : Int} {x1 x2 : Int32} (hd : decode bs pc = .ok (.if_icmp .lt o, 3)) (hp : pc + 3 = pc') (ho : 0 ≤ (pc : Int) + o) (hp2 : ((pc : Int) + o).toNat = pc2) (Gn : ¬ x1 < x2 → Go X R Z a0 EL nw y bs ml rt Q kc ks sf h k n (mkF X.m pc' Ls st)) (Gy : x1 < x2 → Go X R Z a0 EL nw y bs ml rt Q kc ks sf h k n (mkF X.m pc2 Ls st)) : Go X R Z a0 EL nw y bs ml rt Q kc ks sf h k n (mkF X.m pc Ls (.int x2 :: .int x1 :: st)) := by
  subst hp
  by_cases q : x1 < x2
  · exact Go.step (fun T t hT hx hc r => XS.icmpYes hT hx rfl rfl (hb hc hd) rfl ((tlt q).1) ho hp2 r) (Gy q)
  · have q : ¬ x1 < x2 := q
    exact Go.step (fun T t hT hx hc r => XS.icmpNo hT hx rfl (hb hc hd) rfl ((flt q).1) r) (Gn q)
theorem g_iflt {o : Int} {x1 : Int32} (hd : decode bs pc = .ok (.ifCond .lt o, 3)) (hp : pc + 3 = pc') (ho : 0 ≤ (pc : Int) + o) (hp2 : ((pc : Int) + o).toNat = pc2) (Gn : ¬ x1 < 0 → Go X R Z a0 EL nw y bs ml rt Q kc ks sf h k n (mkF X.m pc' Ls st)) (Gy : x1 < 0 → Go X R Z a0 EL nw y bs ml rt Q kc ks sf h k n (mkF X.m pc2 Ls st)) : Go X R Z a0 EL nw y bs ml rt Q kc ks sf h k n (mkF X.m pc Ls (.int x1 :: st)) := by
  subst hp
  by_cases q : x1 < 0
  · exact Go.step (fun T t hT hx hc r => XS.ifYes hT hx rfl rfl (hb hc hd) rfl (by rw [if0]; exact (tlt q).1) ho hp2 r) (Gy q)
  · have q : ¬ x1 < 0 := q
    exact Go.step (fun T t hT hx hc r => XS.ifNo hT hx rfl (hb hc hd) rfl (by rw [if0]; exact (flt q).1) r) (Gn q)
theorem g_icmpge {o : Int} {x1 x2 : Int32} (hd : decode bs pc = .ok (.if_icmp .ge o, 3)) (hp : pc + 3 = pc') (ho : 0 ≤ (pc : Int) + o) (hp2 : ((pc : Int) + o).toNat = pc2) (Gn : x1 < x2 → Go X R Z a0 EL nw y bs ml rt Q kc ks sf h k n (mkF X.m pc' Ls st)) (Gy : ¬ x1 < x2 → Go X R Z a0 EL nw y bs ml rt Q kc ks sf h k n (mkF X.m pc2 Ls st)) : Go X R Z a0 EL nw y bs ml rt Q kc ks sf h k n (mkF X.m pc Ls (.int x2 :: .int x1 :: st)) := by
  subst hp
  by_cases q : ¬ x1 < x2
  · exact Go.step (fun T t hT hx hc r => XS.icmpYes hT hx rfl rfl (hb hc hd) rfl ((flt q).2.1) ho hp2 r) (Gy q)
  · have q : x1 < x2 := Decidable.not_not.mp q
    exact Go.step (fun T t hT hx hc r => XS.icmpNo hT hx rfl (hb hc hd) rfl ((tlt q).2.1) r) (Gn q)
theorem g_ifge {o : Int} {x1 : Int32} (hd : decode bs pc = .ok (.ifCond .ge o, 3)) (hp : pc + 3 = pc') (ho : 0 ≤ (pc : Int) + o) (hp2 : ((pc : Int) + o).toNat = pc2) (Gn : x1 < 0 → Go X R Z a0 EL nw y bs ml rt Q kc ks sf h k n (mkF X.m pc' Ls st)) (Gy : ¬ x1 < 0 → Go X R Z a0 EL nw y bs ml rt Q kc ks sf h k n (mkF X.m pc2 Ls st)) : Go X R Z a0 EL nw y bs ml rt Q kc ks sf h k n (mkF X.m pc Ls (.int x1 :: st)) := by
  subst hp
  by_cases q : ¬ x1 < 0
  · exact Go.step (fun T t hT hx hc r => XS.ifYes hT hx rfl rfl (hb hc hd) rfl (by rw [if0]; exact (flt q).2.1) ho hp2 r) (Gy q)
  · have q : x1 < 0 := Decidable.not_not.mp q
    exact Go.step (fun T t hT hx hc r => XS.ifNo hT hx rfl (hb hc hd) rfl (by rw [if0]; exact (tlt q).2.1) r) (Gn q)
theorem g_icmpgt {o : Int} {x1 x2 : Int32} (hd : decode bs pc = .ok (.if_icmp .gt o, 3)) (hp : pc + 3 = pc') (ho : 0 ≤ (pc : Int) + o) (hp2 : ((pc : Int) + o).toNat = pc2) (Gn : ¬ x2 < x1 → Go X R Z a0 EL nw y bs ml rt Q kc ks sf h k n (mkF X.m pc' Ls st)) (Gy : x2 < x1 → Go X R Z a0 EL nw y bs ml rt Q kc ks sf h k n (mkF X.m pc2 Ls st)) : Go X R Z a0 EL nw y bs ml rt Q kc ks sf h k n (mkF X.m pc Ls (.int x2 :: .int x1 :: st)) := by
  subst hp
  by_cases q : x2 < x1
  · exact Go.step (fun T t hT hx hc r => XS.icmpYes hT hx rfl rfl (hb hc hd) rfl ((tlt q).2.2.1) ho hp2 r) (Gy q)
  · have q : ¬ x2 < x1 := q
    exact Go.step (fun T t hT hx hc r => XS.icmpNo hT hx rfl (hb hc hd) rfl ((flt q).2.2.1) r) (Gn q)
theorem g_ifgt {o : Int} {x1 : Int32} (hd : decode bs pc = .ok (.ifCond .gt o, 3)) (hp : pc + 3 = pc') (ho : 0 ≤ (pc : Int) + o) (hp2 : ((pc : Int) + o).toNat = pc2) (Gn : ¬ 0 < x1 → Go X R Z a0 EL nw y bs ml rt Q kc ks sf h k n (mkF X.m pc' Ls st)) (Gy : 0 < x1 → Go X R Z a0 EL nw y bs ml rt Q kc ks sf h k n (mkF X.m pc2 Ls st)) : Go X R Z a0 EL nw y bs ml rt Q kc ks sf h k n (mkF X.m pc Ls (.int x1 :: st)) := by
  subst hp
  by_cases q : 0 < x1
  · exact Go.step (fun T t hT hx hc r => XS.ifYes hT hx rfl rfl (hb hc hd) rfl (by rw [if0]; exact (tlt q).2.2.1) ho hp2 r) (Gy q)
  · have q : ¬ 0 < x1 := q
    exact Go.step (fun T t hT hx hc r => XS.ifNo hT hx rfl (hb hc hd) rfl (by rw [if0]; exact (flt q).2.2.1) r) (Gn q)
theorem g_icmple {o : Int} {x1 x2 : Int32} (hd : decode bs pc = .ok (.if_icmp .le o, 3)) (hp : pc + 3 = pc') (ho : 0 ≤ (pc : Int) + o) (hp2 : ((pc : Int) + o).toNat = pc2) (Gn : x2 < x1 → Go X R Z a0 EL nw y bs ml rt Q kc ks sf h k n (mkF X.m pc' Ls st)) (Gy : ¬ x2 < x1 → Go X R Z a0 EL nw y bs ml rt Q kc ks sf h k n (mkF X.m pc2 Ls st)) : Go X R Z a0 EL nw y bs ml rt Q kc ks sf h k n (mkF X.m pc Ls (.int x2 :: .int x1 :: st)) := by
  subst hp
  by_cases q : ¬ x2 < x1
  · exact Go.step (fun T t hT hx hc r => XS.icmpYes hT hx rfl rfl (hb hc hd) rfl ((flt q).2.2.2) ho hp2 r) (Gy q)
  · have q : x2 < x1 := Decidable.not_not.mp q
    exact Go.step (fun T t hT hx hc r => XS.icmpNo hT hx rfl (hb hc hd) rfl ((tlt q).2.2.2) r) (Gn q)
theorem g_ifle {o : Int} {x1 : Int32} (hd : decode bs pc = .ok (.ifCond .le o, 3)) (hp : pc + 3 = pc') (ho : 0 ≤ (pc : Int) + o) (hp2 : ((pc : Int) + o).toNat = pc2) (Gn : 0 < x1 → Go X R Z a0 EL nw y bs ml rt Q kc ks sf h k n (mkF X.m pc' Ls st)) (Gy : ¬ 0 < x1 → Go X R Z a0 EL nw y bs ml rt Q kc ks sf h k n (mkF X.m pc2 Ls st)) : Go X R Z a0 EL nw y bs ml rt Q kc ks sf h k n (mkF X.m pc Ls (.int x1 :: st)) := by
  subst hp
  by_cases q : ¬ 0 < x1
  · exact Go.step (fun T t hT hx hc r => XS.ifYes hT hx rfl rfl (hb hc hd) rfl (by rw [if0]; exact (flt q).2.2.2) ho hp2 r) (Gy q)
  · have q : 0 < x1 := Decidable.not_not.mp q
    exact Go.step (fun T t hT hx hc r => XS.ifNo hT hx rfl (hb hc hd) rfl (by rw [if0]; exact (tlt q).2.2.2) r) (Gn q)
theorem g_ifnullY {o : Int} (hd : decode bs pc = .ok (.ifnull o, 3)) (ho : 0 ≤ (pc : Int) + o) (hp2 : ((pc : Int) + o).toNat = pc2) (G : Go X R Z a0 EL nw y bs ml rt Q kc ks sf h k n (mkF X.m pc2 Ls st)) : Go X R Z a0 EL nw y bs ml rt Q kc ks sf h k n (mkF X.m pc Ls (.null :: st)) :=
  Go.step (fun T t hT hx hc r => XS.ifnullYes hT hx rfl rfl (hb hc hd) rfl ho hp2 r) G
theorem g_ifnullN {o : Int} {b : Addr} (hd : decode bs pc = .ok (.ifnull o, 3)) (hp : pc + 3 = pc') (G : Go X R Z a0 EL nw y bs ml rt Q kc ks sf h k n (mkF X.m pc' Ls st)) : Go X R Z a0 EL nw y bs ml rt Q kc ks sf h k n (mkF X.m pc Ls (.ref b :: st)) := by
  subst hp
  exact Go.step (fun T t hT hx hc r => XS.ifnullNo hT hx rfl (hb hc hd) rfl r) G
theorem g_ifnonnullY {o : Int} {b : Addr} (hd : decode bs pc = .ok (.ifnonnull o, 3)) (ho : 0 ≤ (pc : Int) + o) (hp2 : ((pc : Int) + o).toNat = pc2) (G : Go X R Z a0 EL nw y bs ml rt Q kc ks sf h k n (mkF X.m pc2 Ls st)) : Go X R Z a0 EL nw y bs ml rt Q kc ks sf h k n (mkF X.m pc Ls (.ref b :: st)) :=
  Go.step (fun T t hT hx hc r => XS.ifnonnullYes hT hx rfl rfl (hb hc hd) rfl ho hp2 r) G
theorem g_ifnonnullN {o : Int} (hd : decode bs pc = .ok (.ifnonnull o, 3)) (hp : pc + 3 = pc') (G : Go X R Z a0 EL nw y bs ml rt Q kc ks sf h k n (mkF X.m pc' Ls st)) : Go X R Z a0 EL nw y bs ml rt Q kc ks sf h k n (mkF X.m pc Ls (.null :: st)) := by
  subst hp
  exact Go.step (fun T t hT hx hc r => XS.ifnonnullNo hT hx rfl (hb hc hd) rfl r) G
theorem g_acmp {cd : ClassFile.ACond} {o : Int} {x1 x2 : Value} (hd : decode bs pc = .ok (.if_acmp cd o, 3)) (hp : pc + 3 = pc') (ho : 0 ≤ (pc : Int) + o) (hp2 : ((pc : Int) + o).toNat = pc2) (hr1 : x1.isRef = true) (hr2 : x2.isRef = true) (Gn : XT.acmp cd x1 x2 = false → Go X R Z a0 EL nw y bs ml rt Q kc ks sf h k n (mkF X.m pc' Ls st)) (Gy : XT.acmp cd x1 x2 = true → Go X R Z a0 EL nw y bs ml rt Q kc ks sf h k n (mkF X.m pc2 Ls st)) : Go X R Z a0 EL nw y bs ml rt Q kc ks sf h k n (mkF X.m pc Ls (x2 :: x1 :: st)) := by
  subst hp
  cases q : XT.acmp cd x1 x2 with
  | true => exact Go.step (fun T t hT hx hc r => XT.acmpYes hT hx rfl rfl (hb hc hd) rfl hr1 hr2 q ho hp2 r) (Gy q)
  | false => exact Go.step (fun T t hT hx hc r => XT.acmpNo hT hx rfl (hb hc hd) rfl hr1 hr2 q r) (Gn q)
/-! returns -/
theorem Go.out {v : Option Value} (hv : rt = none → v = none) (hk : Nat.ble k kc = true) (hn : Nat.ble n ks = true) (hQ : Q v h)
    (stp : ∀ {s0 : State} {L : List Loc} {T : State} {fs : List Frame}, Stand X.p X.l X.e R s0 X.m X.args X.below X.meth X.c T L k n → X.p.tables.exec = Jvm.exec → X.c.code = bs → X.meth.sig.returnType = rt → (∀ (f : JFrame) (acts : List Action), f.method = X.m → f.locked = none → f.entered = [] → (doReturn X.e (T.setTop f) acts v).1 = T.setFrames fs) → Steps X.p.tables X.e X.below (T.setTop g) (T.setFrames fs)) : Go X R Z a0 EL nw y bs ml rt Q kc ks sf h k n g := fun T S => by
  obtain ⟨⟨hx, hc, hml, hrt, hnm, hlk, hEL⟩, vm0, L, X1, rfl, hS, hZ, hown, hC, hF, hE, hs, hN⟩ := S
  obtain ⟨fs, hr, hrun, hended, hW, hsame⟩ := X1.leave (v := v) (fun q => hv (hrt ▸ q)) hlk
  refine ⟨_, _, stp X1 hx hc hrt hr, hrun, hended, v, L, rfl, ⟨hQ, hF, hE⟩, hC.trans (show CHr Z EL vm0 T.heap T.vm T.heap from CHv.at X1 hZ hEL hC.1), fun q => State.WarmedH.trans (hN q) hW, ⟨v, rfl⟩, State.Warmed39.trans (t := X.s.setVm vm0) hS.1 hW.wide, fun j q hj hp => ?_, (hsame.setVm X.s.vm).mono (ble hk) (ble hn)⟩
  exact hS.2 j q hj (by have := hW.interned_eq; rw [this] at hp; exact hp)
theorem g_ireturn {w : Int32} {t : FieldType} (hd : decode bs pc = .ok (.ireturn, 1)) (hrt : rt = some t) (ht : t = .int ∨ t = .boolean ∨ t = .byte ∨ t = .char ∨ t = .short) (hw : narrow t (.int w) = .int w) (hk : Nat.ble k kc = true) (hn : Nat.ble n ks = true) (hQ : Q (some (.int w)) h) : Go X R Z a0 EL nw y bs ml rt Q kc ks sf h k n (mkF X.m pc Ls (.int w :: st)) :=
  Go.out (fun q => by rw [hrt] at q; cases q) hk hn hQ fun X1 hx hc hr hl => retOut X1 hx (hr.trans hrt) hw (Or.inl ⟨rfl, ht, _, rfl⟩) (hb hc hd) hl
theorem g_lreturn {w : Int64} (hd : decode bs pc = .ok (.lreturn, 1)) (hrt : rt = some .long) (hk : Nat.ble k kc = true) (hn : Nat.ble n ks = true) (hQ : Q (some (.long w)) h) : Go X R Z a0 EL nw y bs ml rt Q kc ks sf h k n (mkF X.m pc Ls (.long w :: st)) :=
  Go.out (fun q => by rw [hrt] at q; cases q) hk hn hQ fun X1 hx hc hr hl => retOut X1 hx (hr.trans hrt) rfl (Or.inr (Or.inl ⟨rfl, rfl, _, rfl⟩)) (hb hc hd) hl
theorem g_areturn {w : Value} {t : FieldType} (hd : decode bs pc = .ok (.areturn, 1)) (hrt : rt = some t) (ht : t.isReference = true) (hw : w.isRef = true) (hnw : narrow t w = w) (hk : Nat.ble k kc = true) (hn : Nat.ble n ks = true) (hQ : Q (some w) h) : Go X R Z a0 EL nw y bs ml rt Q kc ks sf h k n (mkF X.m pc Ls (w :: st)) :=
  Go.out (fun q => by rw [hrt] at q; cases q) hk hn hQ fun X1 hx hc hr hl => retOut X1 hx (hr.trans hrt) hnw (Or.inr (Or.inr (Or.inr (Or.inr ⟨rfl, ht, hw⟩)))) (hb hc hd) hl
theorem g_return (hd : decode bs pc = .ok (.return_, 1)) (hrt : rt = none) (hk : Nat.ble k kc = true) (hn : Nat.ble n ks = true) (hQ : Q none h) : Go X R Z a0 EL nw y bs ml rt Q kc ks sf h k n (mkF X.m pc Ls []) :=
  Go.out (fun _ => rfl) hk hn hQ fun X1 hx hc hr hl => X1.returnOut hx (hr.trans hrt) (hb hc hd) hl
/-! steps that move the heap, the tables not interned anew -/
theorem Spot.next {vm0 : Vm} {L' : List Loc} (F : Fix X Z a0 EL y bs ml rt) (X1 : Stand X.p X.l X.e R (X.s.setVm vm0) X.m X.args X.below X.meth X.c T' L' k' n') (e : T'.heap = h') (hS : X.s.Since vm0 h.size) (hZ : Z.Warmed39 vm0) (hown : vm0.findClass y.cls = some X.m.cls) (hC : CHr Z EL X.s.vm X.s.heap vm0 h) (hC' : CHr Z EL vm0 h vm0 h') (hF : Fr Z.heap.size L') (hE : Ext Z.heap h') (hs : ∀ x ∈ sf, x < h.size ∧ Safe Z EL vm0 h x) (hN : nw = true → X.s.WarmedH vm0) : Spot X R Z a0 EL nw y bs ml rt sf T' h' k' n' :=
  ⟨F, vm0, L', X1, e, ⟨hS.1, hS.2.mono hC'.2.1⟩, hZ, hown, hC.trans hC', hF, hE, fun x hx => ⟨Nat.lt_of_lt_of_le (hs x hx).1 hC'.2.1, hC'.safe (hs x hx).1 (hs x hx).2⟩, hN⟩
theorem ext_trans {h1 h2 h3 : Heap} (E : Ext h1 h2) (E' : Ext h2 h3) : Ext h1 h3 := ⟨Nat.le_trans E.1 E'.1, fun a c q => E'.2 a c (E.2 a c q)⟩
theorem ext_refl (h1 : Heap) : Ext h1 h1 := ⟨Nat.le_refl _, fun _ _ q => q⟩
/-- what is written lies behind the first heap's end: the first heap stands -/
theorem ext_keep {h1 h2 h3 : Heap} {ws : List Addr} (E : Ext h1 h2) (K : Keep h2 h3 ws) (q : ∀ x ∈ ws, h1.size ≤ x) : Ext h1 h3 := ⟨Nat.le_trans E.1 K.1, fun a c r => K.2.1 a c (E.2 a c r) fun z => absurd (Array.getElem?_eq_some_iff.mp r).1 (Nat.not_lt.mpr (q a z))⟩
theorem keep_ext {h1 h2 : Heap} (E : Ext h1 h2) : Keep h1 h2 [] := (Keep.refl _ _).ext E
theorem g_new {C : String} {ix sz : Nat} (hd : decode bs pc = .ok (.new ix, 3)) (hp : pc + 3 = pc') (w : (Jvm.Cond.classLink y.cls ix C).before a0 Z = true) (wi : (Jvm.Cond.instantiable C sz).before a0 Z = true) (wz : (Jvm.Cond.initialized C).before a0 Z = true) (hk : Nat.ble (k + 1) R.cells = true) (hn : Nat.ble (n + sz) R.slots = true)
    (G : ∀ h' a, a = h.size → Ext h h' → Exa Z h' a C → (∀ {O nm d : String} {ty : FieldType}, Laid Z a0 C O nm d → parseFieldDescriptor d = some ty → Fld Z h' a O nm d (defaultValue ty)) → Go X R Z a0 EL nw y bs ml rt Q kc ks (a :: sf) h' (k + 1) (n + sz) (mkF X.m pc' Ls (.ref a :: st))) : Go X R Z a0 EL nw y bs ml rt Q kc ks sf h k n (mkF X.m pc Ls st) := fun T S => by
  subst hp
  obtain ⟨F, vm0, L, X1, eT, hS, hZ, hown, hC, hF, hE, hs, hN⟩ := S
  obtain ⟨T', h', X2, e2, E2, A2, D2, -, stp⟩ := newO X1 F.1 (Z := Z) hZ hown w wi wz eT (g := mkF X.m pc Ls st) rfl (hb F.2.1 hd) (ble hk) (ble hn)
  refine (G h' _ rfl E2 A2 D2 T' ?_).back stp
  exact ⟨F, vm0, _, X2, e2, ⟨hS.1, hS.2.mono E2.1⟩, hZ, hown, hC.trans (CHr.ext E2 hC.1), hF, ext_trans hE E2, fun x hx => by
    rcases List.mem_cons.mp hx with rfl | hx
    · exact ⟨A2.lt, Safe.ext E2 hC.1 (Safe.new (Nat.le_refl _))⟩
    · exact ⟨Nat.lt_of_lt_of_le (hs x hx).1 E2.1, Safe.ext E2 hC.1 (hs x hx).2⟩, hN⟩
theorem g_newarray {aty : ArrayType} {z : Int32} {cap : Nat} (hd : decode bs pc = .ok (.newarray aty, 2)) (hp : pc + 2 = pc') (w : (Jvm.Cond.arrayClass (newarray.typeOf aty)).before a0 Z = true) (hz : ¬ z < 0) (hcap : z.toNatClampNeg = cap) (h8 : Nat.ble (cap * 8) 536870912 = true) (hk : Nat.ble (k + 1) R.cells = true) (hn : Nat.ble (n + cap) R.slots = true)
    (G : ∀ h' a kA, a = h.size → Ext h h' → Arv Z h' a kA (newarray.typeOf aty) z (List.replicate cap (defaultValue (newarray.typeOf aty))) (defaultValue (newarray.typeOf aty)) → Go X R Z a0 EL nw y bs ml rt Q kc ks (a :: sf) h' (k + 1) (n + cap) (mkF X.m pc' Ls (.ref a :: st))) : Go X R Z a0 EL nw y bs ml rt Q kc ks sf h k n (mkF X.m pc Ls (.int z :: st)) := fun T S => by
  subst hp
  obtain ⟨F, vm0, L, X1, eT, hS, hZ, hown, hC, hF, hE, hs, hN⟩ := S
  obtain ⟨T', h', cA, X2, e2, E2, A2, stp⟩ := newP X1 F.1 (Z := Z) hZ w eT (g := mkF X.m pc Ls (.int z :: st)) rfl (hb F.2.1 hd) rfl hz (cap := cap) (Nat.le_of_eq hcap) (ble h8) (ble hk) (ble hn)
  have A3 := (Arv.new A2 hz).pad (vs' := List.replicate cap (defaultValue (newarray.typeOf aty))) (fun i => by have := pad_rep [] (defaultValue (newarray.typeOf aty)) cap i; simpa using this)
  refine (G h' _ cA rfl E2 A3 T' ?_).back stp
  exact ⟨F, vm0, _, X2, e2, ⟨hS.1, hS.2.mono E2.1⟩, hZ, hown, hC.trans (CHr.ext E2 hC.1), hF, ext_trans hE E2, fun x hx => by
    rcases List.mem_cons.mp hx with rfl | hx
    · exact ⟨A3.lt, Safe.ext E2 hC.1 (Safe.new (Nat.le_refl _))⟩
    · exact ⟨Nat.lt_of_lt_of_le (hs x hx).1 E2.1, Safe.ext E2 hC.1 (hs x hx).2⟩, hN⟩
/-- newarray again, with the array's class told by its name -/
theorem g_newarrayX {aty : ArrayType} {z : Int32} {cap : Nat} (hd : decode bs pc = .ok (.newarray aty, 2)) (hp : pc + 2 = pc') (w : (Jvm.Cond.arrayClass (newarray.typeOf aty)).before a0 Z = true) (hz : ¬ z < 0) (hcap : z.toNatClampNeg = cap) (h8 : Nat.ble (cap * 8) 536870912 = true) (hk : Nat.ble (k + 1) R.cells = true) (hn : Nat.ble (n + cap) R.slots = true)
    (G : ∀ h' a kA, a = h.size → Ext h h' → Z.vm.findClass ("[" ++ (newarray.typeOf aty).toString) = some kA → Arv Z h' a kA (newarray.typeOf aty) z (List.replicate cap (defaultValue (newarray.typeOf aty))) (defaultValue (newarray.typeOf aty)) → Go X R Z a0 EL nw y bs ml rt Q kc ks (a :: sf) h' (k + 1) (n + cap) (mkF X.m pc' Ls (.ref a :: st))) : Go X R Z a0 EL nw y bs ml rt Q kc ks sf h k n (mkF X.m pc Ls (.int z :: st)) := fun T S => by
  subst hp
  obtain ⟨F, vm0, L, X1, rfl, hS, hZ, hown, hC, hF, hE, hs, hN⟩ := S
  have hcb : componentBytes (newarray.typeOf aty) ≤ 8 := by cases aty <;> decide
  obtain ⟨cA, kA, comp, h1, h2, h3, X2, stp⟩ := X1.newarrayPrim F.1 (mvA hZ w) (g := mkF X.m pc Ls (.int z :: st)) rfl (hb F.2.1 hd) rfl hz (Nat.le_trans (Nat.mul_le_mul (Nat.le_of_eq hcap) hcb) (ble h8)) (ble hk) (by have := ble hn; omega)
  have h1 : vm0.findClass _ = some cA := h1
  rw [hZ.alike.findClass] at h1
  obtain ⟨kZ, z1, -⟩ := Vm.findClass_spec h1
  obtain ⟨k', z2, z3⟩ := hZ.alike.2.2 _ _ z1
  cases h2.symm.trans z2
  have E2 : Ext T.heap (T.heap.push (newA cA (newarray.typeOf aty) z)) := ⟨by simp, fun a c q => by rw [Array.getElem?_push_lt (Array.getElem?_eq_some_iff.mp q).1]; exact (Array.getElem?_eq_getElem _).symm.trans q⟩
  have A2 : Arr Z (T.heap.push (newA cA (newarray.typeOf aty) z)) T.heap.size (newA cA (newarray.typeOf aty) z) (newarray.typeOf aty) := ⟨by simp, ⟨by simp [newA], kZ, z1, comp, by rw [← h3, z3]⟩, by simp [newA]⟩
  have A3 := (Arv.new A2 hz).pad (vs' := List.replicate cap (defaultValue (newarray.typeOf aty))) (fun i => by have := pad_rep [] (defaultValue (newarray.typeOf aty)) cap i; simpa using this)
  refine (G _ _ cA rfl E2 h1 A3 _ ?_).back stp
  exact ⟨F, vm0, _, X2.more (Nat.le_refl _) (by omega), rfl, ⟨hS.1, hS.2.mono E2.1⟩, hZ, hown, hC.trans (CHr.ext E2 hC.1), hF, ext_trans hE E2, fun x hx => by
    rcases List.mem_cons.mp hx with rfl | hx
    · exact ⟨A3.lt, Safe.ext E2 hC.1 (Safe.new (Nat.le_refl _))⟩
    · exact ⟨Nat.lt_of_lt_of_le (hs x hx).1 E2.1, Safe.ext E2 hC.1 (hs x hx).2⟩, hN⟩
theorem Arv.exa {Z : State} {h : Heap} {a : Addr} {kA : ClassId} {ty : FieldType} {z : Int32} {vs : List Value} {d : Value} {C : String} (A : Arv Z h a kA ty z vs d) (q : Z.vm.findClass C = some kA) : Exa Z h a C := by
  obtain ⟨c, ⟨q1, ⟨q2, kz, q3, co, q4⟩, q5⟩, rfl, -⟩ := A
  exact ⟨c, kz, q1, q, q3, by cases hv : c.vm <;> first | rfl | exact absurd hv (q2 _), fun e => by rw [q4] at e; cases e⟩
theorem g_anewarray {C : String} {ix : Nat} {z : Int32} {cap : Nat} (hd : decode bs pc = .ok (.anewarray ix, 3)) (hp : pc + 3 = pc') (w : (Jvm.Cond.classLink y.cls ix C).before a0 Z = true) (w2 : (Jvm.Cond.arrayOver (.object C)).before a0 Z = true) (hz : ¬ z < 0) (hcap : z.toNatClampNeg = cap) (h8 : Nat.ble (cap * 8) 536870912 = true) (hk : Nat.ble (k + 1) R.cells = true) (hn : Nat.ble (n + cap) R.slots = true)
    (G : ∀ h' a kA, a = h.size → Ext h h' → Ovr Z kA C → Arv Z h' a kA (.object C) z (List.replicate cap .null) .null → Go X R Z a0 EL nw y bs ml rt Q kc ks (a :: sf) h' (k + 1) (n + cap) (mkF X.m pc' Ls (.ref a :: st))) : Go X R Z a0 EL nw y bs ml rt Q kc ks sf h k n (mkF X.m pc Ls (.int z :: st)) := fun T S => by
  subst hp
  obtain ⟨F, vm0, L, X1, eT, hS, hZ, hown, hC, hF, hE, hs, hN⟩ := S
  obtain ⟨T', h', cA, X2, e2, E2, A2, O2, stp⟩ := newR X1 F.1 (Z := Z) hZ hown w w2 eT (g := mkF X.m pc Ls (.int z :: st)) rfl (hb F.2.1 hd) rfl hz (cap := cap) (Nat.le_of_eq hcap) (ble h8) (ble hk) (ble hn)
  have A3 := (Arv.new A2 hz).pad (vs' := List.replicate cap (defaultValue (.object C))) (fun i => by have := pad_rep [] (defaultValue (.object C)) cap i; simpa using this)
  refine (G h' _ cA rfl E2 O2 A3 T' ?_).back stp
  exact ⟨F, vm0, _, X2, e2, ⟨hS.1, hS.2.mono E2.1⟩, hZ, hown, hC.trans (CHr.ext E2 hC.1), hF, ext_trans hE E2, fun x hx => by
    rcases List.mem_cons.mp hx with rfl | hx
    · exact ⟨A3.lt, Safe.ext E2 hC.1 (Safe.new (Nat.le_refl _))⟩
    · exact ⟨Nat.lt_of_lt_of_le (hs x hx).1 E2.1, Safe.ext E2 hC.1 (hs x hx).2⟩, hN⟩
/-- a step over one Stand that moves nothing but the tables (narrowly) -/
theorem Go.same (stp : ∀ {vm0 : Vm} {L : List Loc} {T : State}, Fix X Z a0 EL y bs ml rt → Stand X.p X.l X.e R (X.s.setVm vm0) X.m X.args X.below X.meth X.c T L k n → T.heap = h → Z.Warmed39 vm0 → vm0.findClass y.cls = some X.m.cls →
      ∃ T', Stand X.p X.l X.e R (X.s.setVm vm0) X.m X.args X.below X.meth X.c T' L k n ∧ T'.heap = h ∧ ∀ t, Steps X.p.tables X.e X.below (T'.setTop g') t → Steps X.p.tables X.e X.below (T.setTop g) t)
    (G : Go X R Z a0 EL nw y bs ml rt Q kc ks sf h k n g') : Go X R Z a0 EL nw y bs ml rt Q kc ks sf h k n g := fun T S => by
  obtain ⟨F, vm0, L, X1, eT, hS, hZ, hown, r⟩ := S
  obtain ⟨T', X2, e2, q⟩ := stp F X1 eT hZ hown
  exact (G T' ⟨F, vm0, L, X2, e2, hS, hZ, hown, r⟩).back q
theorem g_ldcI {ix : Nat} {v : Int32} (hd : decode bs pc = .ok (.ldc ix, 2)) (hp : pc + 2 = pc') (w : (Jvm.Cond.constant y.cls ix v).before a0 Z = true) (G : Go X R Z a0 EL nw y bs ml rt Q kc ks sf h k n (mkF X.m pc' Ls (.int v :: st))) : Go X R Z a0 EL nw y bs ml rt Q kc ks sf h k n (mkF X.m pc Ls st) := by
  subst hp
  exact Go.same (fun F X1 eT hZ hown => ⟨_, X1, eT, fun t q => X1.ldcI F.1 hown (mvT hZ w) rfl (hb F.2.1 hd) q⟩) G
theorem g_ldc2J {ix : Nat} {v : Int64} (hd : decode bs pc = .ok (.ldc2_w ix, 3)) (hp : pc + 3 = pc') (w : (Jvm.Cond.constantLong y.cls ix v).before a0 Z = true) (G : Go X R Z a0 EL nw y bs ml rt Q kc ks sf h k n (mkF X.m pc' Ls (.long v :: st))) : Go X R Z a0 EL nw y bs ml rt Q kc ks sf h k n (mkF X.m pc Ls st) := by
  subst hp
  exact Go.same (fun F X1 eT hZ hown => ⟨_, X1, eT, fun t q => X1.ldc2J F.1 hown (mvT hZ w) rfl (hb F.2.1 hd) q⟩) G
/-! arrays read -/
section Arrays
variable {a : Addr} {kA : ClassId} {z j : Int32} {vs : List Value} {d v : Value}
theorem g_arraylength {ty : FieldType} (hd : decode bs pc = .ok (.arraylength, 1)) (hp : pc + 1 = pc') (A : Arv Z h a kA ty z vs d) (G : Go X R Z a0 EL nw y bs ml rt Q kc ks sf h k n (mkF X.m pc' Ls (.int z :: st))) : Go X R Z a0 EL nw y bs ml rt Q kc ks sf h k n (mkF X.m pc Ls (.ref a :: st)) := by
  subst hp
  refine Go.same (fun F X1 eT hZ hown => ⟨_, X1, eT, fun t q => ?_⟩) G
  obtain ⟨c, Ar, -, s1, n1, -⟩ := A
  refine X1.arraylength F.1 (by rw [eT]; exact Ar.1) (State.isArrayOf_alike hZ.alike Ar.2.1) (g := mkF X.m pc Ls (.ref a :: st)) rfl rfl (hb F.2.1 hd) _ ?_
  rw [len_of s1 n1]
  exact q
theorem g_caload {w : Int32} (hd : decode bs pc = .ok (.caload, 1)) (hp : pc + 1 = pc') (A : Arv Z h a kA .char z vs d) (hj : ¬ j < 0 ∧ j < z) (hv : vs.getD j.toNatClampNeg d = .int w) (G : Go X R Z a0 EL nw y bs ml rt Q kc ks sf h k n (mkF X.m pc' Ls (.int w :: st))) : Go X R Z a0 EL nw y bs ml rt Q kc ks sf h k n (mkF X.m pc Ls (.int j :: .ref a :: st)) := by
  subst hp
  refine Go.same (fun F X1 eT hZ hown => ⟨_, X1, eT, fun t q => ?_⟩) G
  obtain ⟨c, Ar, -, s1, n1, H, -⟩ := A
  exact X1.caload F.1 (by rw [eT]; exact Ar.1) (State.isArrayOf_alike hZ.alike Ar.2.1) Ar.2.2 (inb_of s1 hj) (H.at (inb_of s1 hj) hv) (g := mkF X.m pc Ls (.int j :: .ref a :: st)) rfl rfl (hb F.2.1 hd) _ q
theorem g_iaload {w : Int32} (hd : decode bs pc = .ok (.iaload, 1)) (hp : pc + 1 = pc') (A : Arv Z h a kA .int z vs d) (hj : ¬ j < 0 ∧ j < z) (hv : vs.getD j.toNatClampNeg d = .int w) (G : Go X R Z a0 EL nw y bs ml rt Q kc ks sf h k n (mkF X.m pc' Ls (.int w :: st))) : Go X R Z a0 EL nw y bs ml rt Q kc ks sf h k n (mkF X.m pc Ls (.int j :: .ref a :: st)) := by
  subst hp
  refine Go.same (fun F X1 eT hZ hown => ⟨_, X1, eT, fun t q => ?_⟩) G
  obtain ⟨c, Ar, -, s1, n1, H, -⟩ := A
  exact X1.iaload F.1 (by rw [eT]; exact Ar.1) (State.isArrayOf_alike hZ.alike Ar.2.1) Ar.2.2 (inb_of s1 hj) (H.at (inb_of s1 hj) hv) (g := mkF X.m pc Ls (.int j :: .ref a :: st)) rfl rfl (hb F.2.1 hd) _ q
theorem g_baload {w : Int32} (hd : decode bs pc = .ok (.baload, 1)) (hp : pc + 1 = pc') (A : Arv Z h a kA .byte z vs d) (hj : ¬ j < 0 ∧ j < z) (hv : vs.getD j.toNatClampNeg d = .int w) (G : Go X R Z a0 EL nw y bs ml rt Q kc ks sf h k n (mkF X.m pc' Ls (.int w :: st))) : Go X R Z a0 EL nw y bs ml rt Q kc ks sf h k n (mkF X.m pc Ls (.int j :: .ref a :: st)) := by
  subst hp
  refine Go.same (fun F X1 eT hZ hown => ⟨_, X1, eT, fun t q => ?_⟩) G
  obtain ⟨c, Ar, -, s1, n1, H, -⟩ := A
  exact X1.baloadBytes F.1 (by rw [eT]; exact Ar.1) (State.isArrayOf_alike hZ.alike Ar.2.1) Ar.2.2 (inb_of s1 hj) (H.at (inb_of s1 hj) hv) (g := mkF X.m pc Ls (.int j :: .ref a :: st)) rfl rfl (hb F.2.1 hd) _ q
theorem g_aaload {ty : FieldType} (hd : decode bs pc = .ok (.aaload, 1)) (hp : pc + 1 = pc') (A : Arv Z h a kA ty z vs d) (ht : ty.isReference = true) (hj : ¬ j < 0 ∧ j < z) (hv : vs.getD j.toNatClampNeg d = v) (G : Go X R Z a0 EL nw y bs ml rt Q kc ks sf h k n (mkF X.m pc' Ls (v :: st))) : Go X R Z a0 EL nw y bs ml rt Q kc ks sf h k n (mkF X.m pc Ls (.int j :: .ref a :: st)) := by
  subst hp
  refine Go.same (fun F X1 eT hZ hown => ⟨_, X1, eT, fun t q => ?_⟩) G
  obtain ⟨c, Ar, -, s1, n1, H, -⟩ := A
  exact X1.aaload F.1 (by rw [eT]; exact Ar.1) (State.isArrayOf_alike hZ.alike Ar.2.1) ht Ar.2.2 (inb_of s1 hj) (H.at (inb_of s1 hj) hv) (g := mkF X.m pc Ls (.int j :: .ref a :: st)) rfl rfl (hb F.2.1 hd) _ q
/-! writes: one place of one cell, made since the start, that is no literal's -/
theorem Go.write {sl : Nat} {v : Value} (ha : Z.heap.size ≤ a) (hsafe : ∀ vm, Z.Warmed39 vm → CHv Z EL vm h → (∀ x ∈ sf, x < h.size ∧ Safe Z EL vm h x) → Safe Z EL vm h a)
    (stp : ∀ {vm0 : Vm} {L : List Loc} {T : State}, Fix X Z a0 EL y bs ml rt → Stand X.p X.l X.e R (X.s.setVm vm0) X.m X.args X.below X.meth X.c T L k n → T.heap = h → Z.Warmed39 vm0 → vm0.findClass y.cls = some X.m.cls →
      ∃ T' h', Stand X.p X.l X.e R (X.s.setVm vm0) X.m X.args X.below X.meth X.c T' (L ++ [⟨a, sl⟩]) k n ∧ T'.heap = h' ∧ Wr h h' a sl v ∧ ∀ t, Steps X.p.tables X.e X.below (T'.setTop g') t → Steps X.p.tables X.e X.below (T.setTop g) t)
    (G : ∀ h', Wr h h' a sl v → Go X R Z a0 EL nw y bs ml rt Q kc ks sf h' k n g') : Go X R Z a0 EL nw y bs ml rt Q kc ks sf h k n g := fun T S => by
  obtain ⟨F, vm0, L, X1, eT, hS, hZ, hown, hC, hF, hE, hs, hN⟩ := S
  obtain ⟨T', h', X2, e2, W, q⟩ := stp F X1 eT hZ hown
  exact (G h' W T' (Spot.next F X2 e2 hS hZ hown hC (CHr.wr W (hsafe vm0 hZ hC.1 hs) hC.1) (Fr.snoc X2 hF ha) (ext_keep hE (Keep.of_wr W) (allS ha all0)) hs hN)).back q
theorem sfIn (hm : a ∈ sf) : ∀ vm, Z.Warmed39 vm → CHv Z EL vm h → (∀ x ∈ sf, x < h.size ∧ Safe Z EL vm h x) → Safe Z EL vm h a := fun _ _ _ q => (q a hm).2
theorem sfArv {ty : FieldType} (A : Arv Z h a kA ty z vs d) (ht : ty ≠ .byte) : ∀ vm, Z.Warmed39 vm → CHv Z EL vm h → (∀ x ∈ sf, x < h.size ∧ Safe Z EL vm h x) → Safe Z EL vm h a := fun _ hZ _ _ => Safe.arv hZ.alike A ht
theorem sfExa {C : String} (E : Exa Z h a C) (h1 : C ≠ "java/lang/String") (h2 : C ≠ "[B") : ∀ vm, Z.Warmed39 vm → CHv Z EL vm h → (∀ x ∈ sf, x < h.size ∧ Safe Z EL vm h x) → Safe Z EL vm h a := fun _ hZ _ _ => Safe.exa hZ.alike E h1 h2
theorem g_castore {x1 : Int32} {i : Nat} (hd : decode bs pc = .ok (.castore, 1)) (hp : pc + 1 = pc') (A : Arv Z h a kA .char z vs d) (ha : Z.heap.size ≤ a) (hj : ¬ j < 0 ∧ j < z) (hi : j.toNatClampNeg = i) (hl : i < vs.length)
    (G : ∀ h', Keep h h' [a] → Arv Z h' a kA .char z (vs.set i (.int (nar .char x1))) d → Go X R Z a0 EL nw y bs ml rt Q kc ks sf h' k n (mkF X.m pc' Ls st)) : Go X R Z a0 EL nw y bs ml rt Q kc ks sf h k n (mkF X.m pc Ls (.int x1 :: .int j :: .ref a :: st)) := by
  subst hp
  have A' := A
  obtain ⟨c, Ar, k1, s1, n1, H, G1⟩ := A'
  refine Go.write (v := .int (nar .char x1)) ha (sfArv A (by decide)) (fun F X1 eT hZ hown => stC X1 F.1 (Z := Z) hZ eT Ar (x := x1) (inb_of s1 hj) (g := mkF X.m pc Ls (.int x1 :: .int j :: .ref a :: st)) rfl rfl (hb F.2.1 hd)) (fun h' W => G h' (Keep.of_wr W) (Arv.set Ar k1 s1 n1 H G1 (fits_nar_char x1) W i hi hl))
theorem g_castoreX {x1 : Int32} {i : Nat} (hd : decode bs pc = .ok (.castore, 1)) (hp : pc + 1 = pc') (hx1 : nar .char x1 = x1) (A : Arv Z h a kA .char z vs d) (ha : Z.heap.size ≤ a) (hj : ¬ j < 0 ∧ j < z) (hi : j.toNatClampNeg = i) (hl : i < vs.length)
    (G : ∀ h', Keep h h' [a] → Arv Z h' a kA .char z (vs.set i (.int x1)) d → Go X R Z a0 EL nw y bs ml rt Q kc ks sf h' k n (mkF X.m pc' Ls st)) : Go X R Z a0 EL nw y bs ml rt Q kc ks sf h k n (mkF X.m pc Ls (.int x1 :: .int j :: .ref a :: st)) :=
  g_castore hd hp A ha hj hi hl fun h' K A' => G h' K (by rw [hx1] at A'; exact A')
theorem g_bastore {x1 : Int32} {i : Nat} (hd : decode bs pc = .ok (.bastore, 1)) (hp : pc + 1 = pc') (A : Arv Z h a kA .byte z vs d) (ha : Z.heap.size ≤ a) (hm : a ∈ sf) (hj : ¬ j < 0 ∧ j < z) (hi : j.toNatClampNeg = i) (hl : i < vs.length)
    (G : ∀ h', Keep h h' [a] → Arv Z h' a kA .byte z (vs.set i (.int (nar .byte x1))) d → Go X R Z a0 EL nw y bs ml rt Q kc ks sf h' k n (mkF X.m pc' Ls st)) : Go X R Z a0 EL nw y bs ml rt Q kc ks sf h k n (mkF X.m pc Ls (.int x1 :: .int j :: .ref a :: st)) := by
  subst hp
  obtain ⟨c, Ar, k1, s1, n1, H, G1⟩ := A
  refine Go.write (v := .int (nar .byte x1)) ha (sfIn hm) (fun F X1 eT hZ hown => stB X1 F.1 (Z := Z) hZ eT Ar (x := x1) (inb_of s1 hj) (g := mkF X.m pc Ls (.int x1 :: .int j :: .ref a :: st)) rfl rfl (hb F.2.1 hd)) (fun h' W => G h' (Keep.of_wr W) (Arv.set Ar k1 s1 n1 H G1 (fits_nar_byte x1) W i hi hl))
theorem g_iastore {x1 : Int32} {i : Nat} (hd : decode bs pc = .ok (.iastore, 1)) (hp : pc + 1 = pc') (A : Arv Z h a kA .int z vs d) (ha : Z.heap.size ≤ a) (hj : ¬ j < 0 ∧ j < z) (hi : j.toNatClampNeg = i) (hl : i < vs.length)
    (G : ∀ h', Keep h h' [a] → Arv Z h' a kA .int z (vs.set i (.int x1)) d → Go X R Z a0 EL nw y bs ml rt Q kc ks sf h' k n (mkF X.m pc' Ls st)) : Go X R Z a0 EL nw y bs ml rt Q kc ks sf h k n (mkF X.m pc Ls (.int x1 :: .int j :: .ref a :: st)) := by
  subst hp
  have A' := A
  obtain ⟨c, Ar, k1, s1, n1, H, G1⟩ := A'
  refine Go.write (v := .int x1) ha (sfArv A (by decide)) (fun F X1 eT hZ hown => stI X1 F.1 (Z := Z) hZ eT Ar (x := x1) (inb_of s1 hj) (g := mkF X.m pc Ls (.int x1 :: .int j :: .ref a :: st)) rfl rfl (hb F.2.1 hd)) (fun h' W => G h' (Keep.of_wr W) (Arv.set Ar k1 s1 n1 H G1 rfl W i hi hl))
theorem g_aastore {C : String} {w : Addr} {i : Nat} (hd : decode bs pc = .ok (.aastore, 1)) (hp : pc + 1 = pc') (A : Arv Z h a kA (.object C) z vs d) (O : Ovr Z kA C) (I : Ins Z h w C true) (ha : Z.heap.size ≤ a) (hj : ¬ j < 0 ∧ j < z) (hi : j.toNatClampNeg = i) (hl : i < vs.length)
    (G : ∀ h', Keep h h' [a] → Arv Z h' a kA (.object C) z (vs.set i (.ref w)) d → Go X R Z a0 EL nw y bs ml rt Q kc ks sf h' k n (mkF X.m pc' Ls st)) : Go X R Z a0 EL nw y bs ml rt Q kc ks sf h k n (mkF X.m pc Ls (.ref w :: .int j :: .ref a :: st)) := by
  subst hp
  have A' := A
  obtain ⟨c, Ar, k1, s1, n1, H, G1⟩ := A'
  refine Go.write (v := .ref w) ha (sfArv A (by intro q; cases q)) (fun F X1 eT hZ hown => stR X1 F.1 (Z := Z) hZ eT Ar (inb_of s1 hj) rfl (Sto.ofV Ar k1 O I) (g := mkF X.m pc Ls (.ref w :: .int j :: .ref a :: st)) rfl rfl (hb F.2.1 hd)) (fun h' W => G h' (Keep.of_wr W) (Arv.set Ar k1 s1 n1 H G1 rfl W i hi hl))
end Arrays
/-! fields -/
theorem g_getfield {O nm d : String} {ix : Nat} {a : Addr} {v : Value} (hd : decode bs pc = .ok (.getfield ix, 3)) (hp : pc + 3 = pc') (w : (Jvm.Cond.fieldLink y.cls ix O nm d).before a0 Z = true) (Fl : Fld Z h a O nm d v) (G : Go X R Z a0 EL nw y bs ml rt Q kc ks sf h k n (mkF X.m pc' Ls (v :: st))) : Go X R Z a0 EL nw y bs ml rt Q kc ks sf h k n (mkF X.m pc Ls (.ref a :: st)) := by
  subst hp
  exact Go.same (fun F X1 eT hZ hown => getF X1 F.1 (Z := Z) hZ hown (host := "") (Or.inl w) Via.refl eT Fl (g := mkF X.m pc Ls (.ref a :: st)) rfl rfl (hb F.2.1 hd)) G
theorem g_getstatic {O nm d : String} {ix : Nat} {v : Value} (hd : decode bs pc = .ok (.getstatic ix, 3)) (hp : pc + 3 = pc') (w : (Jvm.Cond.fieldLink y.cls ix O nm d).before a0 Z = true) (Fl : Sta Z Z.heap O nm d v) (G : Go X R Z a0 EL nw y bs ml rt Q kc ks sf h k n (mkF X.m pc' Ls (v :: st))) : Go X R Z a0 EL nw y bs ml rt Q kc ks sf h k n (mkF X.m pc Ls st) := by
  subst hp
  exact Go.old fun E => Go.same (fun F X1 eT hZ hown => getS X1 F.1 (Z := Z) hZ (host := "") hown w Via.refl eT (Fl.ext E) (g := mkF X.m pc Ls st) rfl (hb F.2.1 hd)) G
theorem g_putfield {O nm d C : String} {ix kk : Nat} {ty : FieldType} {a : Addr} {v old : Value} (hd : decode bs pc = .ok (.putfield ix, 3)) (hp : pc + 3 = pc') (w : (Jvm.Cond.fieldLink y.cls ix O nm d).before a0 Z = true) (Fl : Fld Z h a O nm d old) (E : Exa Z h a C)
    (L : (Jvm.Cond.lays C O nm d).before a0 Z = true ∨ ((Jvm.Cond.laysFinal C O nm d).before a0 Z = true ∧ y.cls = O ∧ y.name = "<init>")) (wi : (Jvm.Cond.instantiable C kk).before a0 Z = true) (hty : parseFieldDescriptor d = some ty) (hn : narrow ty v = v) (hf : fits ty v = true) (ha : Z.heap.size ≤ a) (hm : a ∈ sf)
    (G : ∀ h', Wr h h' a (RoadKit.slotOf Z O nm d) v → Go X R Z a0 EL nw y bs ml rt Q kc ks sf h' k n (mkF X.m pc' Ls st)) : Go X R Z a0 EL nw y bs ml rt Q kc ks sf h k n (mkF X.m pc Ls (v :: .ref a :: st)) := by
  subst hp
  exact Go.write (v := v) ha (sfIn hm) (fun F X1 eT hZ hown => putF X1 F.1 (Z := Z) hZ hown (host := "") (Or.inl w) Via.refl eT Fl E (L.imp id fun q => ⟨q.1, q.2.1, F.2.2.2.2.1.trans q.2.2⟩) wi hty hn hf (g := mkF X.m pc Ls (v :: .ref a :: st)) rfl rfl (hb F.2.1 hd)) G
theorem g_checkcast {K : String} {ix : Nat} {a : Addr} (hd : decode bs pc = .ok (.checkcast ix, 3)) (hp : pc + 3 = pc') (w : (Jvm.Cond.classLink y.cls ix K).before a0 Z = true) (I : Ins Z h a K true) (G : Go X R Z a0 EL nw y bs ml rt Q kc ks sf h k n (mkF X.m pc' Ls (.ref a :: st))) : Go X R Z a0 EL nw y bs ml rt Q kc ks sf h k n (mkF X.m pc Ls (.ref a :: st)) := by
  subst hp
  exact Go.same (fun F X1 eT hZ hown => castY X1 F.1 (Z := Z) hZ hown w eT I (g := mkF X.m pc Ls (.ref a :: st)) rfl rfl (hb F.2.1 hd)) G
theorem g_instanceofY {K : String} {ix : Nat} {a : Addr} (hd : decode bs pc = .ok (.instanceof ix, 3)) (hp : pc + 3 = pc') (w : (Jvm.Cond.classLink y.cls ix K).before a0 Z = true) (I : Ins Z h a K true) (G : Go X R Z a0 EL nw y bs ml rt Q kc ks sf h k n (mkF X.m pc' Ls (.int 1 :: st))) : Go X R Z a0 EL nw y bs ml rt Q kc ks sf h k n (mkF X.m pc Ls (.ref a :: st)) := by
  subst hp
  exact Go.same (fun F X1 eT hZ hown => instY X1 F.1 (Z := Z) hZ hown w eT I (g := mkF X.m pc Ls (.ref a :: st)) rfl rfl (hb F.2.1 hd)) G
/-- Object's constructor -/
theorem g_objinit {ix : Nat} {a : Addr} (hd : decode bs pc = .ok (.invokespecial ix, 3)) (hp : pc + 3 = pc') (w1 : (Jvm.Cond.methodLink y.cls ix Lib.objectInit).before a0 Z = true) (w2 : (Jvm.Cond.instanceMethod Lib.objectInit).before a0 Z = true) (w3 : (Jvm.Cond.code Lib.objectInit ⟨#[0xb1]⟩ 1 none).before a0 Z = true)
    (hz : Ls.size = ml) (hf : Nat.ble 1 R.frames = true) (hl : Nat.ble ((st.map fun v => v.category).sum + 12) R.locals = true) (G : Go X R Z a0 EL nw y bs ml rt Q kc ks sf h k n (mkF X.m pc' Ls st)) : Go X R Z a0 EL nw y bs ml rt Q kc ks sf h k n (mkF X.m pc Ls (.ref a :: st)) := by
  subst hp
  exact Go.same (fun F X1 eT hZ hown => initO X1 F.1 (Z := Z) hZ hown w1 w2 w3 eT (g := mkF X.m pc Ls (.ref a :: st)) rfl (by rw [F.2.2.1]; exact hz) rfl (hb F.2.1 hd) (ble hf) (W := (st.map fun v => v.category).sum) (by show 2 * 0 + _ ≤ _; omega) (ble hl)) G
/-- an array's clone() -/
theorem g_clone {ix cap : Nat} {ad : String} {a : Addr} {kA : ClassId} {ty : FieldType} {z : Int32} {vs : List Value} {d : Value} (hd : decode bs pc = .ok (.invokevirtual ix, 3)) (hp : pc + 3 = pc')
    (w1 : (Jvm.Cond.methodLink y.cls ix ⟨ad, "clone", "()Ljava/lang/Object;"⟩).before a0 Z = true) (w2 : (Jvm.Cond.sameMethod ad "java/lang/Object" "clone" "()Ljava/lang/Object;").before a0 Z = true) (w3 : (Jvm.Cond.native ⟨"java/lang/Object", "clone", "()Ljava/lang/Object;"⟩).before a0 Z = true)
    (w4 : (Jvm.Cond.instanceMethod ⟨"java/lang/Object", "clone", "()Ljava/lang/Object;"⟩).before a0 Z = true) (w5 : (Jvm.Cond.selects ad ⟨ad, "clone", "()Ljava/lang/Object;"⟩ ⟨"java/lang/Object", "clone", "()Ljava/lang/Object;"⟩).before a0 Z = true) (w6 : (Jvm.Cond.castable ad "java/lang/Cloneable").before a0 Z = true)
    (A : Arv Z h a kA ty z vs d) (E : Exa Z h a ad) (hz : Ls.size = ml) (hf : Nat.ble 1 R.frames = true) (hl : Nat.ble ((st.map fun v => v.category).sum + 14) R.locals = true) (hcap : z.toNatClampNeg ≤ cap) (hk : Nat.ble (k + 1) R.cells = true) (hn : Nat.ble (n + cap) R.slots = true)
    (G : ∀ h' b, b = h.size → Ext h h' → Arv Z h' b kA ty z vs d → Exa Z h' b ad → Go X R Z a0 EL nw y bs ml rt Q kc ks (b :: sf) h' (k + 1) (n + cap) (mkF X.m pc' Ls (.ref b :: st))) : Go X R Z a0 EL nw y bs ml rt Q kc ks sf h k n (mkF X.m pc Ls (.ref a :: st)) := fun T S => by
  subst hp
  obtain ⟨F, vm0, L, X1, eT, hS, hZ, hown, hC, hF, hE, hs, hN⟩ := S
  obtain ⟨c, Ar, k1, s1, n1, H, G1⟩ := A
  have hfit : FitC Z c := fitC_of Ar fun i hi v hv => by
    have q := H i hi
    rw [hv] at q
    cases q
    exact G1 i hi
  obtain ⟨T', h', X2, e2, E2, A2, B2, stp⟩ := cloneA X1 F.1 (Z := Z) hZ hown w1 w2 w3 w4 w5 w6 eT Ar E hfit (g := mkF X.m pc Ls (.ref a :: st)) rfl (by rw [F.2.2.1]; exact hz) rfl (hb F.2.1 hd) (ble hf) (W := (st.map fun v => v.category).sum) (cap := cap) (by show 2 * 0 + _ ≤ _; omega) (ble hl) (by rw [s1]; exact hcap) (ble hk) (ble hn)
  have A3 : Arv Z h' h.size kA ty z vs d := ⟨cloneOf c, A2, k1, s1, n1, H, G1⟩
  refine (G h' _ rfl E2 A3 B2 T' ?_).back stp
  exact ⟨F, vm0, _, X2, e2, ⟨hS.1, hS.2.mono E2.1⟩, hZ, hown, hC.trans (CHr.ext E2 hC.1), hF, ext_trans hE E2, fun x hx => by
    rcases List.mem_cons.mp hx with rfl | hx
    · exact ⟨A3.lt, Safe.ext E2 hC.1 (Safe.new (Nat.le_refl _))⟩
    · exact ⟨Nat.lt_of_lt_of_le (hs x hx).1 E2.1, Safe.ext E2 hC.1 (hs x hx).2⟩, hN⟩
/-! a String constant -/
theorem g_ldcS (hnw : nw = false) {text : String} {ix nn : Nat} {vs : List Value} {z : Int32} (hd : decode bs pc = .ok (.ldc ix, 2)) (hp : pc + 2 = pc') (w : (Jvm.Cond.stringLink y.cls ix text).before a0 Z = true) (wS : ∀ a ∈ Bundle.stringAtoms, a.before a0 Z = true) (hm : (y.cls, ix) ∈ EL)
    (ht : (∀ c ∈ text.toList, c.toNat < 256) ∧ text.toList.map (fun c => Value.int (Jvm.Lit.byteI c.toNat.toUInt16)) = vs) (hz : ¬ z < 0) (hl : z.toNatClampNeg = vs.length) (h4 : Nat.ble (4 * text.toList.length) nn = true) (hbig : Nat.ble nn 536870912 = true) (hk : Nat.ble (k + 2) R.cells = true) (hn : Nat.ble (n + (nn + 4)) R.slots = true)
    (G : ∀ h' a b kb, Ext h h' → Exa Z h' a "java/lang/String" → Fld Z h' a "java/lang/String" "coder" "B" (.int 0) → Fld Z h' a "java/lang/String" "value" "[B" (.ref b) → Arv Z h' b kb .byte z vs (.int 0) → (∀ x ∈ sf, x ≠ a ∧ x ≠ b) → Go X R Z a0 EL nw y bs ml rt Q kc ks sf h' (k + 2) (n + (nn + 4)) (mkF X.m pc' Ls (.ref a :: st))) : Go X R Z a0 EL nw y bs ml rt Q kc ks sf h k n (mkF X.m pc Ls st) := fun T S => by
  subst hp
  obtain ⟨F, vm0, L, X1, eT, hS, hZ, hown, hC, hF, hE, hs, hN⟩ := S
  obtain ⟨a, T', h', k1, b, kb, X2, e2, E2, hS2, hk2, hZ2, hown2, A1, A2, A3, A4, l1, l2, hC2, -, hne, q⟩ := ldcCH X1 F.1 (Z := Z) hZ hown w wS eT hS (Nat.le_refl _) F.2.2.2.2.2.2 hm hC.1 ht hz hl (g := mkF X.m pc Ls st) rfl (hb F.2.1 hd) (ble h4) (ble hbig) (ble hk) (ble hn)
  have hs' : ∀ x ∈ sf, x < h'.size ∧ Safe Z EL T'.vm h' x := fun x hx => ⟨Nat.lt_of_lt_of_le (hs x hx).1 E2.1, hC2.safe (hs x hx).1 (hs x hx).2⟩
  exact (G h' a b kb E2 A1 A2 A3 A4 (fun x hx => hne x (hs' x hx).2) T' ⟨F, T'.vm, L, X2, e2, ⟨hS2.1, hS2.2.mono hk2⟩, hZ2, hown2, hC.trans hC2, hF, ext_trans hE E2, hs', fun q => by rw [hnw] at q; cases q⟩).back q
/-! calls -/
/-- whoever pays the call of y on the arguments as', from the heap h: at most kc cells and ks slots made; Q of what comes back -/
def Pay (l : Launch) (R : Room) (y : MethodName) (W : Nat) (as' : Array Value) (Z : State) (a0 : Array Value) (EL : List (String × Nat)) (nw : Bool) (sf : List Addr) (h : Heap) (kc ks : Nat) (Q : Option Value → Heap → Prop) : Prop :=
  ∀ (p : Program) (e : Env) (below : List Frame) (s : State) (args : Array Value) (len : Nat) (vm0 : Vm), Z.Warmed39 vm0 → CHv Z EL vm0 h → Ext Z.heap h → (∀ x ∈ sf, x < h.size ∧ Safe Z EL vm0 h x) → EW Z a0 EL →
    BackS l R p e below (s.setVm vm0) args y len W (fun A a => a = as' ∧ A.U.heap = h ∧ A.cells + kc ≤ R.cells ∧ A.slots + ks ≤ R.slots)
      (fun A _ v B => ∃ L, (Q v B.U.heap ∧ Fr Z.heap.size L ∧ Ext Z.heap B.U.heap) ∧ B.locs = A.locs ++ L ∧ B.cells = A.cells + kc ∧ B.slots = A.slots + ks ∧ CHr Z EL vm0 h B.U.vm B.U.heap ∧ (nw = true → (s.setVm vm0).WarmedH B.U.vm))
/-- the contract of a method: walked from its entry -/
def MetW (ws : List Jvm.Cond) (l : Launch) (y : MethodName) (bs : ByteArray) (ml : Nat) (rt : Option FieldType) (rm : Room) (as' : Array Value) (Z : State) (a0 : Array Value) (EL : List (String × Nat)) (nw : Bool) (sf : List Addr) (h : Heap) (Q : Option Value → Heap → Prop) : Prop :=
  MetFree l y (head1 (Jvm.Cond.code y bs ml rt :: ws) rm) (fun a U => a = as' ∧ Z.Warmed39 U.vm ∧ U.heap = h ∧ CHv Z EL U.vm h ∧ Ext Z.heap h ∧ EW Z a0 EL ∧ ∀ x ∈ sf, x < h.size ∧ Safe Z EL U.vm h x) (fun _ _ _ _ _ => True)
    (fun _ U o U' => ∃ v L, o = .returned v ∧ (Q v U'.heap ∧ Fr Z.heap.size L ∧ Ext Z.heap U'.heap) ∧ CHr Z EL U.vm U.heap U'.vm U'.heap ∧ (nw = true → U.WarmedH U'.vm) ∧ ReturnedEndW U o U' L rm.cells rm.slots)
theorem MetW.of {ws : List Jvm.Cond} {l : Launch} {rm : Room} {as' : Array Value} (hpl : plainFor y = true)
    (H : ∀ X : Cx, X.l = l → Go X rm Z a0 EL nw y bs ml rt Q rm.cells rm.slots sf h 0 0 (entryFrame X.m as' ml)) : MetW ws l y bs ml rt rm as' Z a0 EL nw sf h Q := by
  refine MetFree.of_bodySF hpl hisR ?_
  intro p e s m args below meth c s₁ Bd hml0 hP hK
  obtain ⟨rfl, hZ, rfl, hC, hE, hEL, hs⟩ := hP
  have e0 : s₁.heap = s.heap := by rw [Bd.state]; rfl
  exact H (p, l, e, s, m, args, below, meth, c) rfl s₁ ⟨⟨Bd.exec, Bd.bytes, hml0, Bd.returns, (name_of_methodNamed Bd.named Bd.method).1, Bd.notSynchronized, hEL⟩, s.vm, [], Stand.of_body Bd, e0, (State.WarmedH.refl s).since _, hZ, findClass_of_methodNamed Bd.named, CHr.refl hC, Fr.nil _, hE, hs, fun _ => State.WarmedH.refl s⟩
theorem Pay.of_met {l : Launch} {rm : Room} {as' : Array Value} {W : Nat} (hM : MetW [] l y bs ml rt rm as' Z a0 EL nw sf h Q) (wc : (Jvm.Cond.code y bs ml rt).before a0 Z = true) (wz : (Jvm.Cond.initialized y.cls).before a0 Z = true) (hf : Nat.ble (rm.frames + 1) R.frames = true) (hl : Nat.ble (W + (ml + 11) + rm.locals) R.locals = true) :
    Pay l R y W as' Z a0 EL nw sf h rm.cells rm.slots Q := fun p e below s args len vm0 hZ H hE hs hEL =>
  BackS.of_freeW (bytes := bs) (maxL := ml) (ret := rt) (E := fun _ first o t L k n => k = rm.cells ∧ n = rm.slots ∧ (∃ v, o = .returned v ∧ Q v t.heap ∧ Fr Z.heap.size L ∧ Ext Z.heap t.heap) ∧ CHr Z EL first.vm first.heap t.vm t.heap ∧ (nw = true → first.WarmedH t.vm)) hM (ble hf) (ble hl)
    (fun m meth c A a Y hp => have hU : Z.Warmed39 A.U.vm := wtrans (s := s.setVm vm0) hZ Y.warmed
      ⟨by show (Jvm.Cond.and _ .tt).before a A.U = true; rw [Cond.before_and, mv hU wc]; rfl, mv hU wc, mv hU wz, hp.2.2.1, hp.2.2.2⟩)
    (fun m meth c A a g mk Y hp => ⟨hp.1, wtrans (s := s.setVm vm0) hZ Y.warmed, hp.2.1, (CHv.at Y hZ hEL H).1, hE, hEL, fun x hx => ⟨(hs x hx).1, (CHv.at Y hZ hEL H).safe (hs x hx).1 (hs x hx).2⟩⟩) (fun _ _ _ _ _ _ _ _ _ => trivial)
    (fun _ _ _ _ ⟨v, L, h1, h2, h3, h5, h4⟩ => ⟨L, _, _, h4, rfl, rfl, ⟨v, h1, h2⟩, h3, h5⟩)
    (fun m meth c A a g mk v t L k n Y hp _ _ ⟨e1, e2, ⟨v', e3, e4⟩, e5, e6⟩ => by
      cases e3; subst e1 e2
      refine ⟨L, e4, rfl, rfl, rfl, (CHv.at Y hZ hEL H).trans ?_, fun q => State.WarmedH.trans Y.warmed (e6 q)⟩
      rw [← hp.2.1]; exact e5)
/-- a law of the other texts, that interns nothing: what it writes are cells made since the start, no literal's -/
theorem Pay.of_back {l : Launch} {as' : Array Value} {W : Nat} {Q0 : Option Value → Heap → List Loc → Prop} (wsl : List Addr)
    (hB : ∀ (p : Program) (e : Env) (below : List Frame) (s : State) (args : Array Value) (len : Nat), Z.Warmed39 s.vm → Back l R p e below s args y len W (fun A a => a = as' ∧ A.U.heap = h ∧ A.cells + kc ≤ R.cells ∧ A.slots + ks ≤ R.slots) (fun A _ v B => ∃ L, Q0 v B.U.heap L ∧ B.locs = A.locs ++ L ∧ B.cells = A.cells + kc ∧ B.slots = A.slots + ks))
    (hw : ∀ x ∈ wsl, x ∈ sf ∧ Z.heap.size ≤ x) (hQ : ∀ v h' L, Q0 v h' L → Q v h' ∧ Keep h h' wsl ∧ Fr Z.heap.size L) : Pay l R y W as' Z a0 EL nw sf h kc ks Q := fun p e below s args len vm0 hZ H hE hs hEL m meth c A g ig mk a X1 hg hsize hdg hW hn hp => by
  obtain ⟨v, B, X2, ⟨L, hq, e1, e2, e3⟩, stp⟩ := hB p e below (s.setVm vm0) args len hZ m meth c A g ig mk a X1 hg hsize hdg hW hn hp
  obtain ⟨q1, q2, q3⟩ := hQ _ _ _ hq
  have hC2 : CHr Z EL vm0 h vm0 B.U.heap := CHr.keep q2 (fun x hx => (hs x (hw x hx).1).2) H
  have hsz : A.U.heap.size ≤ B.U.heap.size := by rw [hp.2.1]; exact q2.1
  exact ⟨v, B, X2.retabled X2.warmed.wide, X2.warmed.since _, hsz, ⟨L, ⟨q1, q3, ext_keep hE q2 fun x hx => (hw x hx).2⟩, e1, e2, e3, hC2.trans (CHv.at X2 hZ hEL hC2.1), fun _ => X2.warmed⟩, stp⟩
theorem Pay.pure {l : Launch} {as' : Array Value} {W : Nat} {P : Option Value → Prop}
    (hB : ∀ (p : Program) (e : Env) (below : List Frame) (s : State) (args : Array Value) (len : Nat), Z.Warmed39 s.vm → Back l R p e below s args y len W (fun A a => a = as' ∧ A.U.heap = h ∧ A.cells + 0 ≤ R.cells ∧ A.slots + 0 ≤ R.slots) (fun A _ v B => ∃ L, (P v ∧ L = [] ∧ B.U.heap = h) ∧ B.locs = A.locs ++ L ∧ B.cells = A.cells + 0 ∧ B.slots = A.slots + 0)) : Pay l R y W as' Z a0 EL nw sf h 0 0 (fun v h' => P v ∧ h' = h) :=
  Pay.of_back (Q0 := fun v h' L => P v ∧ L = [] ∧ h' = h) [] hB (fun _ q => nomatch q) fun v h' L q => by
    obtain ⟨q1, rfl, rfl⟩ := q
    exact ⟨⟨q1, rfl⟩, Keep.refl _ _, Fr.nil _⟩
theorem Pay.weak {l : Launch} {as' : Array Value} {W : Nat} {Q' : Option Value → Heap → Prop} (P : Pay l R y W as' Z a0 EL nw sf h kc ks Q) (hQ : ∀ v h', Q v h' → Q' v h') : Pay l R y W as' Z a0 EL nw sf h kc ks Q' := fun p e below s args len vm0 hZ H hE hs hEL m meth c A g ig mk a X1 hg hsize hdg hW hn hp => by
  obtain ⟨v, B, X2, h1, h2, ⟨L, ⟨q1, q2⟩, r⟩, stp⟩ := P p e below s args len vm0 hZ H hE hs hEL m meth c A g ig mk a X1 hg hsize hdg hW hn hp
  exact ⟨v, B, X2, h1, h2, ⟨L, ⟨hQ _ _ q1, q2⟩, r⟩, stp⟩
/-- more room than it needs -/
theorem Pay.up {l : Launch} {as' : Array Value} {W kc' ks' : Nat} (P : Pay l R y W as' Z a0 EL nw sf h kc ks Q) (hk : kc ≤ kc') (hs' : ks ≤ ks') : Pay l R y W as' Z a0 EL nw sf h kc' ks' Q := fun p e below s args len vm0 hZ H hE hs hEL m meth c A g ig mk a X1 hg hsize hdg hW hn hp => by
  obtain ⟨v, B, X2, h1, h2, ⟨L, q, e1, e2, e3, r⟩, stp⟩ := P p e below s args len vm0 hZ H hE hs hEL m meth c A g ig mk a X1 hg hsize hdg hW hn ⟨hp.1, hp.2.1, by have := hp.2.2.1; omega, by have := hp.2.2.2; omega⟩
  exact ⟨v, ⟨B.U, B.locs, A.cells + kc', A.slots + ks'⟩, X2.mono (by rw [e2]; show _ ≤ A.cells + kc'; omega) (by rw [e3]; show _ ≤ A.slots + ks'; omega), h1, h2, ⟨L, q, e1, rfl, rfl, r⟩, stp⟩
/-- behind any call -/
theorem Go.back {vm0 : Vm} {L : List Loc} {kc' ks' : Nat} {Q' : Option Value → Heap → Prop} {v : Option Value} {B : Pt} (F : Fix X Z a0 EL y bs ml rt) (eT : T.heap = h) (hS : X.s.Since vm0 h.size) (hZ : Z.Warmed39 vm0) (hown : vm0.findClass y.cls = some X.m.cls) (hC : CHr Z EL X.s.vm X.s.heap vm0 h) (hF : Fr Z.heap.size L) (hs : ∀ x ∈ sf, x < h.size ∧ Safe Z EL vm0 h x)
    (X2 : Stand X.p X.l X.e R ((X.s.setVm vm0).setVm B.U.vm) X.m X.args X.below X.meth X.c B.U B.locs B.cells B.slots) (hS2 : (X.s.setVm vm0).Since B.U.vm B.U.heap.size) (hle : T.heap.size ≤ B.U.heap.size)
    (hq : ∃ L', (Q' v B.U.heap ∧ Fr Z.heap.size L' ∧ Ext Z.heap B.U.heap) ∧ B.locs = L ++ L' ∧ B.cells = k + kc' ∧ B.slots = n + ks' ∧ CHr Z EL vm0 h B.U.vm B.U.heap ∧ (nw = true → (X.s.setVm vm0).WarmedH B.U.vm)) (hN : nw = true → X.s.WarmedH vm0)
    (G : ∀ v h', Q' v h' → h.size ≤ h'.size → Go X R Z a0 EL nw y bs ml rt Q kc ks sf h' (k + kc') (n + ks') (mkF X.m pc' Ls (v.toList ++ st))) : Done X Z EL nw Q kc ks B.U (mkF X.m pc' Ls (v.toList ++ st)) := by
  subst eT
  obtain ⟨L', ⟨q1, q2, q3⟩, e1, e2, e3, hC2, hN2⟩ := hq
  rw [e1, e2, e3] at X2
  exact G v B.U.heap q1 hle B.U ⟨F, B.U.vm, _, X2, rfl, hS.trans hS2 hle, State.Warmed39.trans (t := X.s.setVm vm0) hZ hS2.1, (hS2.1.alike.findClass _ _).trans hown, hC.trans hC2, hF.app q2, q3, fun x hx => ⟨Nat.lt_of_lt_of_le (hs x hx).1 hle, hC2.safe (hs x hx).1 (hs x hx).2⟩, fun q => State.WarmedH.trans (hN q) (hN2 q)⟩
/-- behind a call that interned nothing: what it made is no literal's -/
theorem Go.backB {vm0 : Vm} {L : List Loc} {kc' ks' : Nat} {Q' : Option Value → Heap → Prop} {v : Option Value} {B : Pt} (wsl : List Addr) (F : Fix X Z a0 EL y bs ml rt) (eT : T.heap = h) (hS : X.s.Since vm0 h.size) (hZ : Z.Warmed39 vm0) (hown : vm0.findClass y.cls = some X.m.cls) (hC : CHr Z EL X.s.vm X.s.heap vm0 h) (hF : Fr Z.heap.size L) (hs : ∀ x ∈ sf, x < h.size ∧ Safe Z EL vm0 h x)
    (X2 : Stand X.p X.l X.e R ((X.s.setVm vm0).setVm B.U.vm) X.m X.args X.below X.meth X.c B.U B.locs B.cells B.slots) (hS2 : (X.s.setVm vm0).Since B.U.vm B.U.heap.size) (hle : T.heap.size ≤ B.U.heap.size)
    (hq : ∃ L', (Q' v B.U.heap ∧ Fr Z.heap.size L' ∧ Ext Z.heap B.U.heap) ∧ B.locs = L ++ L' ∧ B.cells = k + kc' ∧ B.slots = n + ks' ∧ CHr Z EL vm0 h B.U.vm B.U.heap ∧ (true = true → (X.s.setVm vm0).WarmedH B.U.vm)) (hN : nw = true → X.s.WarmedH vm0)
    (hKp : ∀ v h', Q' v h' → Keep h h' wsl) (hws : ∀ x ∈ wsl, x ∈ sf)
    (G : ∀ v h', Q' v h' → h.size ≤ h'.size → ∃ nb : List Addr, (∀ x ∈ nb, h.size ≤ x ∧ x < h'.size) ∧ Go X R Z a0 EL nw y bs ml rt Q kc ks (nb ++ sf) h' (k + kc') (n + ks') (mkF X.m pc' Ls (v.toList ++ st))) : Done X Z EL nw Q kc ks B.U (mkF X.m pc' Ls (v.toList ++ st)) := by
  subst eT
  obtain ⟨L', ⟨q1, q2, q3⟩, e1, e2, e3, hC2, hN2⟩ := hq
  have hW : (X.s.setVm vm0).WarmedH B.U.vm := hN2 rfl
  have hlat := CHv.later (vm := vm0) (vm1 := B.U.vm) (h := T.heap) (h' := T.heap) hZ (show (Wst Z vm0 T.heap).Warmed39 B.U.vm from hW.wide) F.2.2.2.2.2.2 (ext_refl _) (Or.inl hW.interned_eq) hC.1
  have hsl : ∀ x ∈ wsl, Safe Z EL B.U.vm T.heap x := fun x hx bk => by
    have hx' := hs x (hws x hx)
    rcases hlat.2 x bk with q | q
    · exact hx'.2 q
    · exact absurd hx'.1 (Nat.not_lt.mpr q)
  obtain ⟨nb, hnb, G'⟩ := G v B.U.heap q1 hle
  rw [e1, e2, e3] at X2
  refine G' B.U ⟨F, B.U.vm, _, X2, rfl, hS.trans hS2 hle, State.Warmed39.trans (t := X.s.setVm vm0) hZ hS2.1, (hS2.1.alike.findClass _ _).trans hown, hC.trans hC2, hF.app q2, q3, fun x hx => ?_, fun q => State.WarmedH.trans (hN q) hW⟩
  rcases List.mem_append.mp hx with hx | hx
  · exact ⟨(hnb x hx).2, Safe.keep (hKp _ _ q1) hsl hlat.1 (Safe.new (hnb x hx).1)⟩
  · exact ⟨Nat.lt_of_lt_of_le (hs x hx).1 hle, hC2.safe (hs x hx).1 (hs x hx).2⟩
theorem g_invokestatic {ix : Nat} {y' : MethodName} {bs' : ByteArray} {ml' : Nat} {rt' : Option FieldType} {as' : Array Value} {kc' ks' : Nat} {Q' : Option Value → Heap → Prop} (sfc : List Addr) (argsL : List Value) {ps : List FieldType} {r : Option FieldType} (hd : decode bs pc = .ok (.invokestatic ix, 3)) (hp : pc + 3 = pc')
    (w1 : (Jvm.Cond.methodLink y.cls ix y').before a0 Z = true) (w2 : (Jvm.Cond.static y').before a0 Z = true) (w3 : (Jvm.Cond.initialized y'.cls).before a0 Z = true) (w4 : (Jvm.Cond.code y' bs' ml' rt').before a0 Z = true) (hy : y'.cls ≠ "java/lang/invoke/MethodHandle" ∧ y'.cls ≠ "java/lang/invoke/VarHandle")
    (P : Pay X.l R y' (st.map fun v => v.category).sum as' Z a0 EL nw sfc h kc' ks' Q') (hpd : parseMethodDescriptor y'.desc = some ⟨ps, r⟩) (hlen : argsL.length = ps.length) (hargs : argsL.toArray = as') (hz : Ls.size = ml) (hk : Nat.ble (k + kc') R.cells = true) (hn : Nat.ble (n + ks') R.slots = true) (hsf : ∀ x ∈ sfc, x ∈ sf)
    (G : ∀ v h', Q' v h' → h.size ≤ h'.size → Go X R Z a0 EL nw y bs ml rt Q kc ks sf h' (k + kc') (n + ks') (mkF X.m pc' Ls (v.toList ++ st))) : Go X R Z a0 EL nw y bs ml rt Q kc ks sf h k n (mkF X.m pc Ls (argsL.reverse ++ st)) := fun T S => by
  subst hp
  obtain ⟨F, vm0, L, X1, eT, hS, hZ, hown, hC, hF, hE, hs, hN⟩ := S
  obtain ⟨v, vm1, B, -, X2, hS2, hle, hq, stp⟩ := callSS X1 F.1 (y := y') hown (mvT (s := X.s.setVm vm0) hZ w1) (mvT (s := X.s.setVm vm0) hZ w2) (mvT (s := X.s.setVm vm0) hZ w3) (mvT (s := X.s.setVm vm0) hZ w4) hy (P _ _ _ _ _ _ vm0 hZ hC.1 hE (fun x hx => hs x (hsf x hx)) F.2.2.2.2.2.2) (g := mkF X.m pc Ls (argsL.reverse ++ st)) rfl (by rw [F.2.2.1]; exact hz) (argsL := argsL) (rest := st) (lenOf hpd hlen) rfl (by show 2 * 0 + _ ≤ _; omega) (hb F.2.1 hd) (fun _ _ => ⟨hargs, eT, ble hk, ble hn⟩)
  exact (Go.back F eT hS hZ hown hC hF hs X2 hS2 hle hq hN G).back fun t q => stp.trans q
theorem g_invokestaticB (nb : Option Value → List Addr) {ix : Nat} {y' : MethodName} {bs' : ByteArray} {ml' : Nat} {rt' : Option FieldType} {as' : Array Value} {kc' ks' : Nat} {Q' : Option Value → Heap → Prop} (sfc : List Addr) (argsL : List Value) {ps : List FieldType} {r : Option FieldType} (hd : decode bs pc = .ok (.invokestatic ix, 3)) (hp : pc + 3 = pc')
    (w1 : (Jvm.Cond.methodLink y.cls ix y').before a0 Z = true) (w2 : (Jvm.Cond.static y').before a0 Z = true) (w3 : (Jvm.Cond.initialized y'.cls).before a0 Z = true) (w4 : (Jvm.Cond.code y' bs' ml' rt').before a0 Z = true) (hy : y'.cls ≠ "java/lang/invoke/MethodHandle" ∧ y'.cls ≠ "java/lang/invoke/VarHandle")
    (P : Pay X.l R y' (st.map fun v => v.category).sum as' Z a0 EL true sfc h kc' ks' Q') (hE' : ∀ v h', Q' v h' → Ext h h') (hnb : ∀ v h', Q' v h' → ∀ x ∈ nb v, h.size ≤ x ∧ x < h'.size) (hpd : parseMethodDescriptor y'.desc = some ⟨ps, r⟩) (hlen : argsL.length = ps.length) (hargs : argsL.toArray = as') (hz : Ls.size = ml) (hk : Nat.ble (k + kc') R.cells = true) (hn : Nat.ble (n + ks') R.slots = true) (hsf : ∀ x ∈ sfc, x ∈ sf)
    (G : ∀ v h', Q' v h' → h.size ≤ h'.size → Go X R Z a0 EL nw y bs ml rt Q kc ks (nb v ++ sf) h' (k + kc') (n + ks') (mkF X.m pc' Ls (v.toList ++ st))) : Go X R Z a0 EL nw y bs ml rt Q kc ks sf h k n (mkF X.m pc Ls (argsL.reverse ++ st)) := fun T S => by
  subst hp
  obtain ⟨F, vm0, L, X1, eT, hS, hZ, hown, hC, hF, hE, hs, hN⟩ := S
  obtain ⟨v, vm1, B, -, X2, hS2, hle, hq, stp⟩ := callSS X1 F.1 (y := y') hown (mvT (s := X.s.setVm vm0) hZ w1) (mvT (s := X.s.setVm vm0) hZ w2) (mvT (s := X.s.setVm vm0) hZ w3) (mvT (s := X.s.setVm vm0) hZ w4) hy (P _ _ _ _ _ _ vm0 hZ hC.1 hE (fun x hx => hs x (hsf x hx)) F.2.2.2.2.2.2) (g := mkF X.m pc Ls (argsL.reverse ++ st)) rfl (by rw [F.2.2.1]; exact hz) (argsL := argsL) (rest := st) (lenOf hpd hlen) rfl (by show 2 * 0 + _ ≤ _; omega) (hb F.2.1 hd) (fun _ _ => ⟨hargs, eT, ble hk, ble hn⟩)
  refine Done.back (T' := B.U) (g' := mkF X.m (pc + 3) Ls (v.toList ++ st)) (fun t q => stp.trans q) ?_
  subst eT
  obtain ⟨L', ⟨q1, q2, q3⟩, e1, e2, e3, hC2, hN2⟩ := hq
  have hW : (X.s.setVm vm0).WarmedH B.U.vm := hN2 rfl
  have hlat := CHv.later (vm := vm0) (vm1 := B.U.vm) (h := T.heap) (h' := T.heap) hZ (show (Wst Z vm0 T.heap).Warmed39 B.U.vm from hW.wide) F.2.2.2.2.2.2 (ext_refl _) (Or.inl hW.interned_eq) hC.1
  rw [e1, e2, e3] at X2
  refine G v B.U.heap q1 hle B.U ⟨F, B.U.vm, _, X2, rfl, hS.trans hS2 hle, State.Warmed39.trans (t := X.s.setVm vm0) hZ hS2.1, (hS2.1.alike.findClass _ _).trans hown, hC.trans hC2, hF.app q2, q3, fun x hx => ?_, fun q => State.WarmedH.trans (hN q) hW⟩
  rcases List.mem_append.mp hx with hx | hx
  · exact ⟨(hnb _ _ q1 x hx).2, Safe.ext (hE' _ _ q1) hlat.1 (Safe.new (hnb _ _ q1 x hx).1)⟩
  · exact ⟨Nat.lt_of_lt_of_le (hs x hx).1 hle, hC2.safe (hs x hx).1 (hs x hx).2⟩
theorem g_invokespecial {ix : Nat} {y' : MethodName} {bs' : ByteArray} {ml' : Nat} {as' : Array Value} {kc' ks' : Nat} {Q' : Option Value → Heap → Prop} (sfc : List Addr) {a : Addr} (argsL : List Value) {ps : List FieldType} {r : Option FieldType} (hd : decode bs pc = .ok (.invokespecial ix, 3)) (hp : pc + 3 = pc') (hi : y'.name = "<init>")
    (w1 : (Jvm.Cond.methodLink y.cls ix y').before a0 Z = true) (w2 : (Jvm.Cond.instanceMethod y').before a0 Z = true) (w4 : (Jvm.Cond.code y' bs' ml' none).before a0 Z = true) (hy : y'.cls ≠ "java/lang/invoke/MethodHandle" ∧ y'.cls ≠ "java/lang/invoke/VarHandle")
    (P : Pay X.l R y' (st.map fun v => v.category).sum as' Z a0 EL nw sfc h kc' ks' Q') (hpd : parseMethodDescriptor y'.desc = some ⟨ps, r⟩) (hlen : argsL.length = ps.length) (hargs : (Value.ref a :: argsL).toArray = as') (hz : Ls.size = ml) (hk : Nat.ble (k + kc') R.cells = true) (hn : Nat.ble (n + ks') R.slots = true) (hsf : ∀ x ∈ sfc, x ∈ sf)
    (G : ∀ v h', Q' v h' → h.size ≤ h'.size → Go X R Z a0 EL nw y bs ml rt Q kc ks sf h' (k + kc') (n + ks') (mkF X.m pc' Ls (v.toList ++ st))) : Go X R Z a0 EL nw y bs ml rt Q kc ks sf h k n (mkF X.m pc Ls (argsL.reverse ++ .ref a :: st)) := fun T S => by
  subst hp
  obtain ⟨F, vm0, L, X1, eT, hS, hZ, hown, hC, hF, hE, hs, hN⟩ := S
  obtain ⟨v, vm1, B, -, X2, hS2, hle, hq, stp⟩ := X1.specialBackS F.1 (y := y') hi hown (mvT (s := X.s.setVm vm0) hZ w1) (mvT (s := X.s.setVm vm0) hZ w2) (mvT (s := X.s.setVm vm0) hZ w4) hy (P _ _ _ _ _ _ vm0 hZ hC.1 hE (fun x hx => hs x (hsf x hx)) F.2.2.2.2.2.2) (g := mkF X.m pc Ls (argsL.reverse ++ .ref a :: st)) rfl (by rw [F.2.2.1]; exact hz) (Steps.refl _) (a := a) (argsL := argsL) (rest := st) (lenOf hpd hlen) rfl (by show 2 * 0 + _ ≤ _; omega) (hb F.2.1 hd) (fun _ _ => ⟨hargs, eT, ble hk, ble hn⟩)
  exact (Go.back F eT hS hZ hown hC hF hs X2 hS2 hle hq hN G).back fun t q => stp.trans q
def NF (Z : State) (y : MethodName) : Prop := ∀ s : State, Z.Warmed39 s.vm → NotFace s y
theorem g_invokevirtualN {ix : Nat} {C : String} {y' z' : MethodName} {as' : Array Value} {kc' ks' : Nat} {Q' : Option Value → Heap → Prop} (sfc : List Addr) {a : Addr} (argsL : List Value) {ps : List FieldType} {r : Option FieldType} (hd : decode bs pc = .ok (.invokevirtual ix, 3)) (hp : pc + 3 = pc')
    (w1 : (Jvm.Cond.methodLink y.cls ix y').before a0 Z = true) (w2 : (Jvm.Cond.declares y').before a0 Z = true) (w3 : (Jvm.Cond.selects C y' z').before a0 Z = true) (w4 : (Jvm.Cond.instanceMethod z').before a0 Z = true) (hy : y'.cls ≠ "java/lang/invoke/MethodHandle" ∧ y'.cls ≠ "java/lang/invoke/VarHandle")
    (hnf : NF Z y') (E : Exa Z h a C) (P : Pay X.l R z' (st.map fun v => v.category).sum as' Z a0 EL nw sfc h kc' ks' Q') (hpd : parseMethodDescriptor y'.desc = some ⟨ps, r⟩) (hlen : argsL.length = ps.length) (hargs : (Value.ref a :: argsL).toArray = as') (hz : Ls.size = ml) (hk : Nat.ble (k + kc') R.cells = true) (hn : Nat.ble (n + ks') R.slots = true) (hsf : ∀ x ∈ sfc, x ∈ sf)
    (G : ∀ v h', Q' v h' → h.size ≤ h'.size → Go X R Z a0 EL nw y bs ml rt Q kc ks sf h' (k + kc') (n + ks') (mkF X.m pc' Ls (v.toList ++ st))) : Go X R Z a0 EL nw y bs ml rt Q kc ks sf h k n (mkF X.m pc Ls (argsL.reverse ++ .ref a :: st)) := fun T S => by
  subst hp
  obtain ⟨F, vm0, L, X1, eT, hS, hZ, hown, hC, hF, hE, hs, hN⟩ := S
  obtain ⟨cq, kq, qa, qb, qc⟩ := isOf (s := X.s.setVm vm0) hZ eT E
  obtain ⟨v, vm1, B, -, X2, hS2, hle, hq, stp⟩ := X1.virtualBackS F.1 (y := y') (z := z') hown (mvT (s := X.s.setVm vm0) hZ w1) (mvT (s := X.s.setVm vm0) hZ w2) (hnf (X.s.setVm vm0) hZ) (mvT (s := X.s.setVm vm0) hZ w3) (mvT (s := X.s.setVm vm0) hZ w4) hy (P _ _ _ _ _ _ vm0 hZ hC.1 hE (fun x hx => hs x (hsf x hx)) F.2.2.2.2.2.2) qa qc (g := mkF X.m pc Ls (argsL.reverse ++ .ref a :: st)) rfl (by rw [F.2.2.1]; exact hz) (Steps.refl _) (argsL := argsL) (rest := st) (lenOf hpd hlen) rfl (by show 2 * 0 + _ ≤ _; omega) (hb F.2.1 hd) (fun _ _ => ⟨hargs, eT, ble hk, ble hn⟩)
  exact (Go.back F eT hS hZ hown hC hF hs X2 hS2 hle hq hN G).back fun t q => stp.trans q
theorem g_invokeinterface {ix cnt : Nat} {C : String} {y' z' : MethodName} {as' : Array Value} {kc' ks' : Nat} {Q' : Option Value → Heap → Prop} (sfc : List Addr) {a : Addr} (argsL : List Value) {ps : List FieldType} {r : Option FieldType} (hd : decode bs pc = .ok (.invokeinterface ix cnt, 5)) (hp : pc + 5 = pc')
    (w1 : (Jvm.Cond.methodLink y.cls ix y').before a0 Z = true) (w2 : (Jvm.Cond.declares y').before a0 Z = true) (w3 : (Jvm.Cond.selects C y' z').before a0 Z = true) (w4 : (Jvm.Cond.instanceMethod z').before a0 Z = true) (w5 : (Jvm.Cond.interfaceMethod y'.cls y'.cls y'.name y'.desc).before a0 Z = true) (d5 : ((Jvm.Cond.interfaceMethod y'.cls y'.cls y'.name y'.desc).onTables && (Jvm.Cond.interfaceMethod y'.cls y'.cls y'.name y'.desc).keepsFace) = true) (w6 : (Jvm.Cond.publicMethod z').before a0 Z = true) (w7 : (Jvm.Cond.unhidden C y'.name y'.desc).before a0 Z = true) (w8 : (Jvm.Cond.castable C y'.cls).before a0 Z = true) (hy : y'.cls ≠ "java/lang/invoke/MethodHandle" ∧ y'.cls ≠ "java/lang/invoke/VarHandle")
    (E : Exa Z h a C) (P : Pay X.l R z' (st.map fun v => v.category).sum as' Z a0 EL nw sfc h kc' ks' Q') (hpd : parseMethodDescriptor y'.desc = some ⟨ps, r⟩) (hlen : argsL.length = ps.length) (hargs : (Value.ref a :: argsL).toArray = as') (hz : Ls.size = ml) (hk : Nat.ble (k + kc') R.cells = true) (hn : Nat.ble (n + ks') R.slots = true) (hsf : ∀ x ∈ sfc, x ∈ sf)
    (G : ∀ v h', Q' v h' → h.size ≤ h'.size → Go X R Z a0 EL nw y bs ml rt Q kc ks sf h' (k + kc') (n + ks') (mkF X.m pc' Ls (v.toList ++ st))) : Go X R Z a0 EL nw y bs ml rt Q kc ks sf h k n (mkF X.m pc Ls (argsL.reverse ++ .ref a :: st)) := fun T S => by
  subst hp
  obtain ⟨F, vm0, L, X1, eT, hS, hZ, hown, hC, hF, hE, hs, hN⟩ := S
  obtain ⟨cq, kq, qa, qb, qc⟩ := isOf (s := X.s.setVm vm0) hZ eT E
  obtain ⟨v, vm1, B, -, X2, hS2, hle, hq, stp⟩ := X1.interfaceBackS F.1 (xi := y') (y := z') hown (mvT (s := X.s.setVm vm0) hZ w1) (mvT (s := X.s.setVm vm0) hZ w2) (mvT (s := X.s.setVm vm0) hZ w5 d5) (mvT (s := X.s.setVm vm0) hZ w3) (mvT (s := X.s.setVm vm0) hZ w4) (mvT (s := X.s.setVm vm0) hZ w6) (mvT (s := X.s.setVm vm0) hZ w7) (mvT (s := X.s.setVm vm0) hZ w8) hy (P _ _ _ _ _ _ vm0 hZ hC.1 hE (fun x hx => hs x (hsf x hx)) F.2.2.2.2.2.2) qa qb qc (g := mkF X.m pc Ls (argsL.reverse ++ .ref a :: st)) rfl (by rw [F.2.2.1]; exact hz) (Steps.refl _) (argsL := argsL) (rest := st) (lenOf hpd hlen) rfl (by show 2 * 0 + _ ≤ _; omega) (hb F.2.1 hd) (fun _ _ => ⟨hargs, eT, ble hk, ble hn⟩)
  exact (Go.back F eT hS hZ hown hC hF hs X2 hS2 hle hq hN G).back fun t q => stp.trans q
theorem NF.sel {C : String} {y' : MethodName} (w3 : (Jvm.Cond.selects C y' y').before a0 Z = true) : NF Z y' := fun s hZ => notFace_of_selects (args := #[]) (mvT (s := s) hZ w3)
theorem g_invokevirtual {ix : Nat} {C : String} {y' : MethodName} {as' : Array Value} {kc' ks' : Nat} {Q' : Option Value → Heap → Prop} (sfc : List Addr) {a : Addr} (argsL : List Value) {ps : List FieldType} {r : Option FieldType} (hd : decode bs pc = .ok (.invokevirtual ix, 3)) (hp : pc + 3 = pc')
    (w1 : (Jvm.Cond.methodLink y.cls ix y').before a0 Z = true) (w2 : (Jvm.Cond.declares y').before a0 Z = true) (w3 : (Jvm.Cond.selects C y' y').before a0 Z = true) (w4 : (Jvm.Cond.instanceMethod y').before a0 Z = true) (hy : y'.cls ≠ "java/lang/invoke/MethodHandle" ∧ y'.cls ≠ "java/lang/invoke/VarHandle")
    (E : Exa Z h a C) (P : Pay X.l R y' (st.map fun v => v.category).sum as' Z a0 EL nw sfc h kc' ks' Q') (hpd : parseMethodDescriptor y'.desc = some ⟨ps, r⟩) (hlen : argsL.length = ps.length) (hargs : (Value.ref a :: argsL).toArray = as') (hz : Ls.size = ml) (hk : Nat.ble (k + kc') R.cells = true) (hn : Nat.ble (n + ks') R.slots = true) (hsf : ∀ x ∈ sfc, x ∈ sf)
    (G : ∀ v h', Q' v h' → h.size ≤ h'.size → Go X R Z a0 EL nw y bs ml rt Q kc ks sf h' (k + kc') (n + ks') (mkF X.m pc' Ls (v.toList ++ st))) : Go X R Z a0 EL nw y bs ml rt Q kc ks sf h k n (mkF X.m pc Ls (argsL.reverse ++ .ref a :: st)) :=
  g_invokevirtualN sfc argsL hd hp w1 w2 w3 w4 hy (NF.sel w3) E P hpd hlen hargs hz hk hn hsf G
theorem g_staticB (wsl : List Addr) {ix : Nat} {y' : MethodName} {bs' : ByteArray} {ml' : Nat} {rt' : Option FieldType} {as' : Array Value} {kc' ks' : Nat} {Q' : Option Value → Heap → Prop} (sfc : List Addr) (argsL : List Value) {ps : List FieldType} {r : Option FieldType} (hd : decode bs pc = .ok (.invokestatic ix, 3)) (hp : pc + 3 = pc')
    (w1 : (Jvm.Cond.methodLink y.cls ix y').before a0 Z = true) (w2 : (Jvm.Cond.static y').before a0 Z = true) (w3 : (Jvm.Cond.initialized y'.cls).before a0 Z = true) (w4 : (Jvm.Cond.code y' bs' ml' rt').before a0 Z = true) (hy : y'.cls ≠ "java/lang/invoke/MethodHandle" ∧ y'.cls ≠ "java/lang/invoke/VarHandle")
    (P : Pay X.l R y' (st.map fun v => v.category).sum as' Z a0 EL true sfc h kc' ks' Q') (hKp : ∀ v h', Q' v h' → Keep h h' wsl) (hws : ∀ x ∈ wsl, x ∈ sf) (hpd : parseMethodDescriptor y'.desc = some ⟨ps, r⟩) (hlen : argsL.length = ps.length) (hargs : argsL.toArray = as') (hz : Ls.size = ml) (hk : Nat.ble (k + kc') R.cells = true) (hn : Nat.ble (n + ks') R.slots = true) (hsf : ∀ x ∈ sfc, x ∈ sf)
    (G : ∀ v h', Q' v h' → h.size ≤ h'.size → ∃ nb : List Addr, (∀ x ∈ nb, h.size ≤ x ∧ x < h'.size) ∧ Go X R Z a0 EL nw y bs ml rt Q kc ks (nb ++ sf) h' (k + kc') (n + ks') (mkF X.m pc' Ls (v.toList ++ st))) : Go X R Z a0 EL nw y bs ml rt Q kc ks sf h k n (mkF X.m pc Ls (argsL.reverse ++ st)) := fun T S => by
  subst hp
  obtain ⟨F, vm0, L, X1, eT, hS, hZ, hown, hC, hF, hE, hs, hN⟩ := S
  obtain ⟨v, vm1, B, -, X2, hS2, hle, hq, stp⟩ := callSS X1 F.1 (y := y') hown (mvT (s := X.s.setVm vm0) hZ w1) (mvT (s := X.s.setVm vm0) hZ w2) (mvT (s := X.s.setVm vm0) hZ w3) (mvT (s := X.s.setVm vm0) hZ w4) hy (P _ _ _ _ _ _ vm0 hZ hC.1 hE (fun x hx => hs x (hsf x hx)) F.2.2.2.2.2.2) (g := mkF X.m pc Ls (argsL.reverse ++ st)) rfl (by rw [F.2.2.1]; exact hz) (argsL := argsL) (rest := st) (lenOf hpd hlen) rfl (by show 2 * 0 + _ ≤ _; omega) (hb F.2.1 hd) (fun _ _ => ⟨hargs, eT, ble hk, ble hn⟩)
  exact (Go.backB wsl F eT hS hZ hown hC hF hs X2 hS2 hle hq hN hKp hws G).back fun t q => stp.trans q
theorem g_specialB (wsl : List Addr) {ix : Nat} {y' : MethodName} {bs' : ByteArray} {ml' : Nat} {as' : Array Value} {kc' ks' : Nat} {Q' : Option Value → Heap → Prop} (sfc : List Addr) {a : Addr} (argsL : List Value) {ps : List FieldType} {r : Option FieldType} (hd : decode bs pc = .ok (.invokespecial ix, 3)) (hp : pc + 3 = pc') (hi : y'.name = "<init>")
    (w1 : (Jvm.Cond.methodLink y.cls ix y').before a0 Z = true) (w2 : (Jvm.Cond.instanceMethod y').before a0 Z = true) (w4 : (Jvm.Cond.code y' bs' ml' none).before a0 Z = true) (hy : y'.cls ≠ "java/lang/invoke/MethodHandle" ∧ y'.cls ≠ "java/lang/invoke/VarHandle")
    (P : Pay X.l R y' (st.map fun v => v.category).sum as' Z a0 EL true sfc h kc' ks' Q') (hKp : ∀ v h', Q' v h' → Keep h h' wsl) (hws : ∀ x ∈ wsl, x ∈ sf) (hpd : parseMethodDescriptor y'.desc = some ⟨ps, r⟩) (hlen : argsL.length = ps.length) (hargs : (Value.ref a :: argsL).toArray = as') (hz : Ls.size = ml) (hk : Nat.ble (k + kc') R.cells = true) (hn : Nat.ble (n + ks') R.slots = true) (hsf : ∀ x ∈ sfc, x ∈ sf)
    (G : ∀ v h', Q' v h' → h.size ≤ h'.size → ∃ nb : List Addr, (∀ x ∈ nb, h.size ≤ x ∧ x < h'.size) ∧ Go X R Z a0 EL nw y bs ml rt Q kc ks (nb ++ sf) h' (k + kc') (n + ks') (mkF X.m pc' Ls (v.toList ++ st))) : Go X R Z a0 EL nw y bs ml rt Q kc ks sf h k n (mkF X.m pc Ls (argsL.reverse ++ .ref a :: st)) := fun T S => by
  subst hp
  obtain ⟨F, vm0, L, X1, eT, hS, hZ, hown, hC, hF, hE, hs, hN⟩ := S
  obtain ⟨v, vm1, B, -, X2, hS2, hle, hq, stp⟩ := X1.specialBackS F.1 (y := y') hi hown (mvT (s := X.s.setVm vm0) hZ w1) (mvT (s := X.s.setVm vm0) hZ w2) (mvT (s := X.s.setVm vm0) hZ w4) hy (P _ _ _ _ _ _ vm0 hZ hC.1 hE (fun x hx => hs x (hsf x hx)) F.2.2.2.2.2.2) (g := mkF X.m pc Ls (argsL.reverse ++ .ref a :: st)) rfl (by rw [F.2.2.1]; exact hz) (Steps.refl _) (a := a) (argsL := argsL) (rest := st) (lenOf hpd hlen) rfl (by show 2 * 0 + _ ≤ _; omega) (hb F.2.1 hd) (fun _ _ => ⟨hargs, eT, ble hk, ble hn⟩)
  exact (Go.backB wsl F eT hS hZ hown hC hF hs X2 hS2 hle hq hN hKp hws G).back fun t q => stp.trans q
theorem g_virtualB (wsl : List Addr) {ix : Nat} {C : String} {y' z' : MethodName} {as' : Array Value} {kc' ks' : Nat} {Q' : Option Value → Heap → Prop} (sfc : List Addr) {a : Addr} (argsL : List Value) {ps : List FieldType} {r : Option FieldType} (hd : decode bs pc = .ok (.invokevirtual ix, 3)) (hp : pc + 3 = pc')
    (w1 : (Jvm.Cond.methodLink y.cls ix y').before a0 Z = true) (w2 : (Jvm.Cond.declares y').before a0 Z = true) (w3 : (Jvm.Cond.selects C y' z').before a0 Z = true) (w4 : (Jvm.Cond.instanceMethod z').before a0 Z = true) (hy : y'.cls ≠ "java/lang/invoke/MethodHandle" ∧ y'.cls ≠ "java/lang/invoke/VarHandle")
    (hnf : NF Z y') (E : Exa Z h a C) (P : Pay X.l R z' (st.map fun v => v.category).sum as' Z a0 EL true sfc h kc' ks' Q') (hKp : ∀ v h', Q' v h' → Keep h h' wsl) (hws : ∀ x ∈ wsl, x ∈ sf) (hpd : parseMethodDescriptor y'.desc = some ⟨ps, r⟩) (hlen : argsL.length = ps.length) (hargs : (Value.ref a :: argsL).toArray = as') (hz : Ls.size = ml) (hk : Nat.ble (k + kc') R.cells = true) (hn : Nat.ble (n + ks') R.slots = true) (hsf : ∀ x ∈ sfc, x ∈ sf)
    (G : ∀ v h', Q' v h' → h.size ≤ h'.size → ∃ nb : List Addr, (∀ x ∈ nb, h.size ≤ x ∧ x < h'.size) ∧ Go X R Z a0 EL nw y bs ml rt Q kc ks (nb ++ sf) h' (k + kc') (n + ks') (mkF X.m pc' Ls (v.toList ++ st))) : Go X R Z a0 EL nw y bs ml rt Q kc ks sf h k n (mkF X.m pc Ls (argsL.reverse ++ .ref a :: st)) := fun T S => by
  subst hp
  obtain ⟨F, vm0, L, X1, eT, hS, hZ, hown, hC, hF, hE, hs, hN⟩ := S
  obtain ⟨cq, kq, qa, qb, qc⟩ := isOf (s := X.s.setVm vm0) hZ eT E
  obtain ⟨v, vm1, B, -, X2, hS2, hle, hq, stp⟩ := X1.virtualBackS F.1 (y := y') (z := z') hown (mvT (s := X.s.setVm vm0) hZ w1) (mvT (s := X.s.setVm vm0) hZ w2) (hnf (X.s.setVm vm0) hZ) (mvT (s := X.s.setVm vm0) hZ w3) (mvT (s := X.s.setVm vm0) hZ w4) hy (P _ _ _ _ _ _ vm0 hZ hC.1 hE (fun x hx => hs x (hsf x hx)) F.2.2.2.2.2.2) qa qc (g := mkF X.m pc Ls (argsL.reverse ++ .ref a :: st)) rfl (by rw [F.2.2.1]; exact hz) (Steps.refl _) (argsL := argsL) (rest := st) (lenOf hpd hlen) rfl (by show 2 * 0 + _ ≤ _; omega) (hb F.2.1 hd) (fun _ _ => ⟨hargs, eT, ble hk, ble hn⟩)
  exact (Go.backB wsl F eT hS hZ hown hC hF hs X2 hS2 hle hq hN hKp hws G).back fun t q => stp.trans q
theorem g_private {ix : Nat} {C : String} {y' : MethodName} {bs' : ByteArray} {ml' : Nat} {rt' : Option FieldType} {as' : Array Value} {kc' ks' : Nat} {Q' : Option Value → Heap → Prop} (sfc : List Addr) {a : Addr} (argsL : List Value) {ps : List FieldType} {r : Option FieldType} (hd : decode bs pc = .ok (.invokevirtual ix, 3)) (hp : pc + 3 = pc')
    (w1 : (Jvm.Cond.methodLink y.cls ix y').before a0 Z = true) (w2 : (Jvm.Cond.privateMethod y').before a0 Z = true) (w3 : (Jvm.Cond.selects C y' y').before a0 Z = true) (w4 : (Jvm.Cond.instanceMethod y').before a0 Z = true) (hy : y'.cls ≠ "java/lang/invoke/MethodHandle" ∧ y'.cls ≠ "java/lang/invoke/VarHandle")
    (w5 : (Jvm.Cond.code y' bs' ml' rt').before a0 Z = true) (E : Exa Z h a C) (P : Pay X.l R y' (st.map fun v => v.category).sum as' Z a0 EL nw sfc h kc' ks' Q') (hpd : parseMethodDescriptor y'.desc = some ⟨ps, r⟩) (hlen : argsL.length = ps.length) (hargs : (Value.ref a :: argsL).toArray = as') (hz : Ls.size = ml) (hk : Nat.ble (k + kc') R.cells = true) (hn : Nat.ble (n + ks') R.slots = true) (hsf : ∀ x ∈ sfc, x ∈ sf)
    (G : ∀ v h', Q' v h' → h.size ≤ h'.size → Go X R Z a0 EL nw y bs ml rt Q kc ks sf h' (k + kc') (n + ks') (mkF X.m pc' Ls (v.toList ++ st))) : Go X R Z a0 EL nw y bs ml rt Q kc ks sf h k n (mkF X.m pc Ls (argsL.reverse ++ .ref a :: st)) := fun T S => by
  subst hp
  obtain ⟨F, vm0, L, X1, eT, hS, hZ, hown, hC, hF, hE, hs, hN⟩ := S
  have hsel3 := mvT (s := X.s.setVm vm0) (args := X.args) hZ w3
  have hpr : (X.s.setVm vm0).PrivateAt y' := Cond.privateMethod_at (args := X.args) (mvP (s := X.s.setVm vm0) hZ w2)
  obtain ⟨c2, r2, m2, -, -, q3, -, kP, hkP, hkPi⟩ := Cond.selects_spec hsel3
  have hself := selects_self_of_private (s := X.s.setVm vm0) (args := X.args) (findClass_of_methodNamed q3) hkP hkPi hpr (mvT (s := X.s.setVm vm0) hZ w4) hy
  obtain ⟨cell, hcell, hobj⟩ := E.cell
  obtain ⟨v, vm1, B, -, X2, hS2, hle, hq, stp⟩ := X1.privateBackS F.1 (y := y') hown (mvT (s := X.s.setVm vm0) hZ w1) (mvT (s := X.s.setVm vm0) hZ w4) hself hpr (mvT (s := X.s.setVm vm0) hZ w5) hy (P _ _ _ _ _ _ vm0 hZ hC.1 hE (fun x hx => hs x (hsf x hx)) F.2.2.2.2.2.2) (g := mkF X.m pc Ls (argsL.reverse ++ .ref a :: st)) rfl (by rw [F.2.2.1]; exact hz) (Steps.refl _) (a := a) (cell := cell) (by rw [eT]; exact hcell) hobj (argsL := argsL) (rest := st) (lenOf hpd hlen) rfl (by show 2 * 0 + _ ≤ _; omega) (hb F.2.1 hd) (fun _ _ => ⟨hargs, eT, ble hk, ble hn⟩)
  exact (Go.back F eT hS hZ hown hC hF hs X2 hS2 hle hq hN G).back fun t q => stp.trans q
theorem g_privateB (wsl : List Addr) {ix : Nat} {C : String} {y' : MethodName} {bs' : ByteArray} {ml' : Nat} {rt' : Option FieldType} {as' : Array Value} {kc' ks' : Nat} {Q' : Option Value → Heap → Prop} (sfc : List Addr) {a : Addr} (argsL : List Value) {ps : List FieldType} {r : Option FieldType} (hd : decode bs pc = .ok (.invokevirtual ix, 3)) (hp : pc + 3 = pc')
    (w1 : (Jvm.Cond.methodLink y.cls ix y').before a0 Z = true) (w2 : (Jvm.Cond.privateMethod y').before a0 Z = true) (w3 : (Jvm.Cond.selects C y' y').before a0 Z = true) (w4 : (Jvm.Cond.instanceMethod y').before a0 Z = true) (hy : y'.cls ≠ "java/lang/invoke/MethodHandle" ∧ y'.cls ≠ "java/lang/invoke/VarHandle")
    (w5 : (Jvm.Cond.code y' bs' ml' rt').before a0 Z = true) (E : Exa Z h a C) (P : Pay X.l R y' (st.map fun v => v.category).sum as' Z a0 EL true sfc h kc' ks' Q') (hKp : ∀ v h', Q' v h' → Keep h h' wsl) (hws : ∀ x ∈ wsl, x ∈ sf) (hpd : parseMethodDescriptor y'.desc = some ⟨ps, r⟩) (hlen : argsL.length = ps.length) (hargs : (Value.ref a :: argsL).toArray = as') (hz : Ls.size = ml) (hk : Nat.ble (k + kc') R.cells = true) (hn : Nat.ble (n + ks') R.slots = true) (hsf : ∀ x ∈ sfc, x ∈ sf)
    (G : ∀ v h', Q' v h' → h.size ≤ h'.size → ∃ nb : List Addr, (∀ x ∈ nb, h.size ≤ x ∧ x < h'.size) ∧ Go X R Z a0 EL nw y bs ml rt Q kc ks (nb ++ sf) h' (k + kc') (n + ks') (mkF X.m pc' Ls (v.toList ++ st))) : Go X R Z a0 EL nw y bs ml rt Q kc ks sf h k n (mkF X.m pc Ls (argsL.reverse ++ .ref a :: st)) := fun T S => by
  subst hp
  obtain ⟨F, vm0, L, X1, eT, hS, hZ, hown, hC, hF, hE, hs, hN⟩ := S
  have hsel3 := mvT (s := X.s.setVm vm0) (args := X.args) hZ w3
  have hpr : (X.s.setVm vm0).PrivateAt y' := Cond.privateMethod_at (args := X.args) (mvP (s := X.s.setVm vm0) hZ w2)
  obtain ⟨c2, r2, m2, -, -, q3, -, kP, hkP, hkPi⟩ := Cond.selects_spec hsel3
  have hself := selects_self_of_private (s := X.s.setVm vm0) (args := X.args) (findClass_of_methodNamed q3) hkP hkPi hpr (mvT (s := X.s.setVm vm0) hZ w4) hy
  obtain ⟨cell, hcell, hobj⟩ := E.cell
  obtain ⟨v, vm1, B, -, X2, hS2, hle, hq, stp⟩ := X1.privateBackS F.1 (y := y') hown (mvT (s := X.s.setVm vm0) hZ w1) (mvT (s := X.s.setVm vm0) hZ w4) hself hpr (mvT (s := X.s.setVm vm0) hZ w5) hy (P _ _ _ _ _ _ vm0 hZ hC.1 hE (fun x hx => hs x (hsf x hx)) F.2.2.2.2.2.2) (g := mkF X.m pc Ls (argsL.reverse ++ .ref a :: st)) rfl (by rw [F.2.2.1]; exact hz) (Steps.refl _) (a := a) (cell := cell) (by rw [eT]; exact hcell) hobj (argsL := argsL) (rest := st) (lenOf hpd hlen) rfl (by show 2 * 0 + _ ≤ _; omega) (hb F.2.1 hd) (fun _ _ => ⟨hargs, eT, ble hk, ble hn⟩)
  exact (Go.backB wsl F eT hS hZ hown hC hF hs X2 hS2 hle hq hN hKp hws G).back fun t q => stp.trans q
/-- the class is there and no interface -/
def NI (Z : State) (C : String) : Prop := ∃ (c : ClassId) (k : Class), Z.vm.findClass C = some c ∧ Z.vm.classes[c]? = some k ∧ k.isInterface = false
theorem NI.sel {C : String} {y1 y2 : MethodName} (w : (Jvm.Cond.selects C y1 y2).before a0 Z = true) : NI Z y2.cls := by
  obtain ⟨c2, r2, m2, -, -, q3, -, kP, hkP, hkPi⟩ := Cond.selects_spec w
  exact ⟨m2.cls, kP, findClass_of_methodNamed q3, hkP, hkPi⟩
theorem sameM_self {y' : MethodName} (w : (Jvm.Cond.instanceMethod y').before a0 Z = true) (hy : y'.cls ≠ "java/lang/invoke/MethodHandle" ∧ y'.cls ≠ "java/lang/invoke/VarHandle") (hni : NI Z y'.cls) : (Jvm.Cond.sameMethod y'.cls y'.cls y'.name y'.desc).before a0 Z = true := by
  obtain ⟨mk, methM, hnamed, -, -, -⟩ := Cond.instanceMethod_spec w
  have hf := State.methodFound?_of_named hnamed hy
  obtain ⟨c, k, q1, q2, q3⟩ := hni
  have hnamed' : Z.methodNamed? { cls := y'.cls, name := y'.name, desc := y'.desc } = some mk := hnamed
  simp [Cond.before, Cond.holds, Cond.value, hf, hnamed', q1, q2, q3]
theorem g_super {ix : Nat} {K : String} {rt' : Option FieldType} {y' : MethodName} {bs' : ByteArray} {ml' : Nat} {as' : Array Value} {kc' ks' : Nat} {Q' : Option Value → Heap → Prop} (sfc : List Addr) {a : Addr} (argsL : List Value) {ps : List FieldType} {r : Option FieldType} (hd : decode bs pc = .ok (.invokespecial ix, 3)) (hp : pc + 3 = pc') (hi : y'.name ≠ "<init>")
    (w1 : (Jvm.Cond.methodLink y.cls ix y').before a0 Z = true) (w2 : (Jvm.Cond.instanceMethod y').before a0 Z = true) (w3 : (Jvm.Cond.superclass y.cls y'.cls).before a0 Z = true) (hni : NI Z y'.cls) (I : Ins Z h a K true) (w4 : (Jvm.Cond.code y' bs' ml' rt').before a0 Z = true) (hy : y'.cls ≠ "java/lang/invoke/MethodHandle" ∧ y'.cls ≠ "java/lang/invoke/VarHandle")
    (P : Pay X.l R y' (st.map fun v => v.category).sum as' Z a0 EL nw sfc h kc' ks' Q') (hpd : parseMethodDescriptor y'.desc = some ⟨ps, r⟩) (hlen : argsL.length = ps.length) (hargs : (Value.ref a :: argsL).toArray = as') (hz : Ls.size = ml) (hk : Nat.ble (k + kc') R.cells = true) (hn : Nat.ble (n + ks') R.slots = true) (hsf : ∀ x ∈ sfc, x ∈ sf)
    (G : ∀ v h', Q' v h' → h.size ≤ h'.size → Go X R Z a0 EL nw y bs ml rt Q kc ks sf h' (k + kc') (n + ks') (mkF X.m pc' Ls (v.toList ++ st))) : Go X R Z a0 EL nw y bs ml rt Q kc ks sf h k n (mkF X.m pc Ls (argsL.reverse ++ .ref a :: st)) := fun T S => by
  subst hp
  obtain ⟨F, vm0, L, X1, eT, hS, hZ, hown, hC, hF, hE, hs, hN⟩ := S
  have hsame : (Jvm.Cond.sameMethod y'.cls y'.cls y'.name y'.desc).before a0 Z = true := sameM_self w2 hy hni
  obtain ⟨v, vm1, B, -, X2, hS2, hle, hq, stp⟩ := superBackS X1 F.1 (Z := Z) hZ (y := y') hown w1 hsame w2 w3 hi (P _ _ _ _ _ _ vm0 hZ hC.1 hE (fun x hx => hs x (hsf x hx)) F.2.2.2.2.2.2) eT I (g := mkF X.m pc Ls (argsL.reverse ++ .ref a :: st)) rfl (by rw [F.2.2.1]; exact hz) w4 (argsL := argsL) (rest := st) (lenOf hpd hlen) rfl (by show 2 * 0 + _ ≤ _; omega) (hb F.2.1 hd) (fun _ _ => ⟨hargs, eT, ble hk, ble hn⟩)
  exact (Go.back F eT hS hZ hown hC hF hs X2 hS2 hle hq hN G).back fun t q => stp.trans q
theorem g_superB (wsl : List Addr) {ix : Nat} {K : String} {rt' : Option FieldType} {y' : MethodName} {bs' : ByteArray} {ml' : Nat} {as' : Array Value} {kc' ks' : Nat} {Q' : Option Value → Heap → Prop} (sfc : List Addr) {a : Addr} (argsL : List Value) {ps : List FieldType} {r : Option FieldType} (hd : decode bs pc = .ok (.invokespecial ix, 3)) (hp : pc + 3 = pc') (hi : y'.name ≠ "<init>")
    (w1 : (Jvm.Cond.methodLink y.cls ix y').before a0 Z = true) (w2 : (Jvm.Cond.instanceMethod y').before a0 Z = true) (w3 : (Jvm.Cond.superclass y.cls y'.cls).before a0 Z = true) (hni : NI Z y'.cls) (I : Ins Z h a K true) (w4 : (Jvm.Cond.code y' bs' ml' rt').before a0 Z = true) (hy : y'.cls ≠ "java/lang/invoke/MethodHandle" ∧ y'.cls ≠ "java/lang/invoke/VarHandle")
    (P : Pay X.l R y' (st.map fun v => v.category).sum as' Z a0 EL true sfc h kc' ks' Q') (hKp : ∀ v h', Q' v h' → Keep h h' wsl) (hws : ∀ x ∈ wsl, x ∈ sf) (hpd : parseMethodDescriptor y'.desc = some ⟨ps, r⟩) (hlen : argsL.length = ps.length) (hargs : (Value.ref a :: argsL).toArray = as') (hz : Ls.size = ml) (hk : Nat.ble (k + kc') R.cells = true) (hn : Nat.ble (n + ks') R.slots = true) (hsf : ∀ x ∈ sfc, x ∈ sf)
    (G : ∀ v h', Q' v h' → h.size ≤ h'.size → ∃ nb : List Addr, (∀ x ∈ nb, h.size ≤ x ∧ x < h'.size) ∧ Go X R Z a0 EL nw y bs ml rt Q kc ks (nb ++ sf) h' (k + kc') (n + ks') (mkF X.m pc' Ls (v.toList ++ st))) : Go X R Z a0 EL nw y bs ml rt Q kc ks sf h k n (mkF X.m pc Ls (argsL.reverse ++ .ref a :: st)) := fun T S => by
  subst hp
  obtain ⟨F, vm0, L, X1, eT, hS, hZ, hown, hC, hF, hE, hs, hN⟩ := S
  have hsame : (Jvm.Cond.sameMethod y'.cls y'.cls y'.name y'.desc).before a0 Z = true := sameM_self w2 hy hni
  obtain ⟨v, vm1, B, -, X2, hS2, hle, hq, stp⟩ := superBackS X1 F.1 (Z := Z) hZ (y := y') hown w1 hsame w2 w3 hi (P _ _ _ _ _ _ vm0 hZ hC.1 hE (fun x hx => hs x (hsf x hx)) F.2.2.2.2.2.2) eT I (g := mkF X.m pc Ls (argsL.reverse ++ .ref a :: st)) rfl (by rw [F.2.2.1]; exact hz) w4 (argsL := argsL) (rest := st) (lenOf hpd hlen) rfl (by show 2 * 0 + _ ≤ _; omega) (hb F.2.1 hd) (fun _ _ => ⟨hargs, eT, ble hk, ble hn⟩)
  exact (Go.backB wsl F eT hS hZ hown hC hF hs X2 hS2 hle hq hN hKp hws G).back fun t q => stp.trans q
/-- System.arraycopy of bytes -/
theorem g_arraycopy {ix : Nat} {src dst : Addr} {k1 k2 : ClassId} {z1 z2 sp dp nn : Int32} {vs vd us : List Value} {dv dd : Value} (hd : decode bs pc = .ok (.invokestatic ix, 3)) (hp : pc + 3 = pc')
    (w1 : (Jvm.Cond.methodLink y.cls ix Jvm.Stand.acN).before a0 Z = true) (w2 : (Jvm.Cond.native Jvm.Stand.acN).before a0 Z = true) (w3 : (Jvm.Cond.static Jvm.Stand.acN).before a0 Z = true) (w4 : (Jvm.Cond.initialized "java/lang/System").before a0 Z = true)
    (A : Arv Z h src k1 .byte z1 vs dv) (B : Arv Z h dst k2 .byte z2 vd dd) (h1 : ¬ sp < 0) (h2 : ¬ dp < 0) (h3 : ¬ nn < 0) (h4 : sp.toNatClampNeg + nn.toNatClampNeg ≤ z1.toNatClampNeg) (h5 : dp.toNatClampNeg + nn.toNatClampNeg ≤ z2.toNatClampNeg)
    (hus : us = (List.range nn.toNatClampNeg).map fun i => vs.getD (sp.toNatClampNeg + i) dv) (hl : dp.toNatClampNeg + nn.toNatClampNeg ≤ vd.length) (ha : Z.heap.size ≤ dst) (hm : dst ∈ sf) (hz : Ls.size = ml) (hf : Nat.ble 1 R.frames = true) (hlo : Nat.ble ((st.map fun v => v.category).sum + (nativeFrameWords "java/lang/System" "arraycopy" 5 + 11)) R.locals = true)
    (G : ∀ h', Keep h h' [dst] → Arv Z h' dst k2 .byte z2 (vd.take dp.toNatClampNeg ++ us ++ vd.drop (dp.toNatClampNeg + nn.toNatClampNeg)) dd → Go X R Z a0 EL nw y bs ml rt Q kc ks sf h' k n (mkF X.m pc' Ls st)) : Go X R Z a0 EL nw y bs ml rt Q kc ks sf h k n (mkF X.m pc Ls (.int nn :: .int dp :: .ref dst :: .int sp :: .ref src :: st)) := fun T S => by
  subst hp
  obtain ⟨F, vm0, L, X1, eT, hS, hZ, hown, hC, hF, hE, hs, hN⟩ := S
  obtain ⟨T', h', L', X2, e2, hF2, K2, A2, stp⟩ := cpA X1 F.1 (Z := Z) hZ hown w1 w2 w3 w4 eT A B (Or.inl ⟨rfl, rfl⟩) h1 h2 h3 h4 h5 hus hl hF ha (g := mkF X.m pc Ls (.int nn :: .int dp :: .ref dst :: .int sp :: .ref src :: st)) rfl (by rw [F.2.2.1]; exact hz) rfl (hb F.2.1 hd) (ble hf) (W := (st.map fun v => v.category).sum) (by show 2 * 0 + _ ≤ _; omega) (ble hlo)
  exact (G h' K2 A2 T' (Spot.next F X2 e2 hS hZ hown hC (CHr.keep K2 (fun x hx => by cases List.mem_singleton.mp hx; exact (hs _ hm).2) hC.1) hF2 (ext_keep hE K2 (allS ha all0)) hs hN)).back stp
end Kit
end Own
open Own
namespace Own
open Jvm Jvm.ClassFile Sem Op Lib Jvm.Free Jvm.Stand Jvm.LawKit Jvm.RoadKit Bundle
/-- a boolean as an int -/
def b01 (b : Bool) : Int32 := if b then 1 else 0
theorem in0 {P : Int32 → Prop} : ∀ c ∈ ([] : List Int32), P c := fun _ q => nomatch q
theorem inS {P : Int32 → Prop} {c : Int32} {cs : List Int32} (q : P c) (r : ∀ x ∈ cs, P x) : ∀ x ∈ c :: cs, P x := fun x z => (List.mem_cons.mp z).elim (fun u => u ▸ q) (r x)
theorem i32_nat {c : Int32} (h0 : ¬ c < 0) : (c.toBitVec.toNat : Int) = c.toInt ∧ c.toBitVec.toNat < 2147483648 := by
  have h := c.toBitVec.isLt
  have e : c.toInt = c.toBitVec.toInt := rfl
  rw [Int32.lt_iff_toInt_lt] at h0
  have z : (0 : Int32).toInt = 0 := rfl
  rw [BitVec.toInt_eq_toNat_cond] at e
  split at e <;> omega
theorem c16_of {c : Int32} (h0 : ¬ c < 0) (h1 : ¬ (65535 : Int32) < c) : c.toUInt32.toUInt16.toUInt32.toInt32 = c := by
  obtain ⟨e, -⟩ := i32_nat h0
  have u : c.toInt ≤ 65535 := by
    rw [Int32.lt_iff_toInt_lt] at h1
    have z : (65535 : Int32).toInt = 65535 := rfl
    omega
  apply Int32.toBitVec_inj.mp
  apply BitVec.eq_of_toNat_eq
  show ((c.toBitVec.setWidth 16).setWidth 32).toNat = c.toBitVec.toNat
  rw [BitVec.toNat_setWidth, BitVec.toNat_setWidth]
  omega
theorem and_lt {x : Int32} (k : Nat) (hk : k < 2147483648) : ¬ (x &&& Int32.ofNat k) < 0 ∧ (x &&& Int32.ofNat k).toInt ≤ k := by
  have h : (x &&& Int32.ofNat k).toBitVec.toNat ≤ k := by
    rw [Int32.toBitVec_and, BitVec.toNat_and]
    refine Nat.le_trans Nat.and_le_right ?_
    show (BitVec.ofNat 32 k).toNat ≤ k
    rw [BitVec.toNat_ofNat]
    exact Nat.mod_le _ _
  have e : (x &&& Int32.ofNat k).toInt = (x &&& Int32.ofNat k).toBitVec.toInt := rfl
  rw [BitVec.toInt_eq_toNat_cond] at e
  have z : (0 : Int32).toInt = 0 := rfl
  rw [Int32.lt_iff_toInt_lt, z]
  split at e <;> omega
theorem and255 (x : Int32) : ¬ (x &&& 255) < 0 ∧ ¬ (255 : Int32) < (x &&& 255) := by
  obtain ⟨h1, h2⟩ := and_lt (x := x) 255 (by decide)
  refine ⟨h1, ?_⟩
  rw [Int32.lt_iff_toInt_lt]
  have z : (255 : Int32).toInt = 255 := rfl
  rw [z]
  have h2 : (x &&& 255).toInt ≤ 255 := h2
  omega
theorem to65 {c : Int32} (h : ¬ (255 : Int32) < c) : ¬ (65535 : Int32) < c := by
  rw [Int32.lt_iff_toInt_lt] at h ⊢
  have z : (255 : Int32).toInt = 255 := rfl
  have z' : (65535 : Int32).toInt = 65535 := rfl
  omega
/-- (char) (x & 255) -/
theorem c255 (x : Int32) : (x &&& 255).toUInt32.toUInt16.toUInt32.toInt32 = (x &&& 255) := c16_of (and255 x).1 (to65 (and255 x).2)
theorem nar_c (x : Int32) : nar .char x = x.toUInt32.toUInt16.toUInt32.toInt32 := rfl
theorem nar8 {c : Int32} (h : ¬ c < 0 ∧ ¬ (255 : Int32) < c) : nar .char c = c := c16_of h.1 (to65 h.2)
theorem nar16 {c : Int32} (h : ¬ c < 0 ∧ ¬ (65535 : Int32) < c) : nar .char c = c := c16_of h.1 h.2
theorem c16_range (x : Int32) : ¬ x.toUInt32.toUInt16.toUInt32.toInt32 < 0 ∧ ¬ (65535 : Int32) < x.toUInt32.toUInt16.toUInt32.toInt32 := by
  have e : (x.toUInt32.toUInt16.toUInt32.toInt32).toInt = ((x.toBitVec.setWidth 16).setWidth 32).toInt := rfl
  rw [BitVec.toInt_eq_toNat_cond, BitVec.toNat_setWidth, BitVec.toNat_setWidth] at e
  have z : (0 : Int32).toInt = 0 := rfl
  have z' : (65535 : Int32).toInt = 65535 := rfl
  rw [Int32.lt_iff_toInt_lt, Int32.lt_iff_toInt_lt, z, z']
  split at e <;> omega
theorem nar_idem (x : Int32) : nar .char (x.toUInt32.toUInt16.toUInt32.toInt32) = x.toUInt32.toUInt16.toUInt32.toInt32 := nar16 (c16_range x)
theorem ok8 (x : Int32) : ¬ (x &&& 255).toUInt32.toUInt16.toUInt32.toInt32 < 0 ∧ ¬ (255 : Int32) < (x &&& 255).toUInt32.toUInt16.toUInt32.toInt32 := by rw [c255]; exact and255 x
theorem and_small {x : Int32} {P : Int32 → Prop} (k : Nat) (hk : k < 2147483648) (h : ∀ i : Nat, i ≤ k → P (Int32.ofNat i)) : P (x &&& Int32.ofNat k) := by
  obtain ⟨h1, h2⟩ := and_lt (x := x) k hk
  obtain ⟨e, -⟩ := i32_nat h1
  have := h (x &&& Int32.ofNat k).toBitVec.toNat (by omega)
  have e2 : Int32.ofNat (x &&& Int32.ofNat k).toBitVec.toNat = (x &&& Int32.ofNat k) := by
    apply Int32.toBitVec_inj.mp
    show BitVec.ofNat 32 _ = _
    rw [BitVec.ofNat_toNat]; simp
  rw [e2] at this
  exact this
theorem toInt_ofNat {a : Nat} (ha : a < 2147483648) : (Int32.ofNat a).toInt = a := Int32.toInt_ofNat_small (by omega)
theorem ofNat_lt {a b : Nat} (ha : a < 2147483648) (hb : b < 2147483648) : Int32.ofNat a < Int32.ofNat b ↔ a < b := by
  rw [Int32.lt_iff_toInt_lt, toInt_ofNat ha, toInt_ofNat hb]; omega
theorem ofNat_nn {a : Nat} (ha : a < 2147483648) : ¬ Int32.ofNat a < 0 := by
  rw [Int32.lt_iff_toInt_lt, toInt_ofNat ha]
  have z : (0 : Int32).toInt = 0 := rfl
  omega
theorem ofNat_clamp {a : Nat} (ha : a < 2147483648) : (Int32.ofNat a).toNatClampNeg = a := by
  show (Int32.ofNat a).toInt.toNat = a
  rw [toInt_ofNat ha]; rfl
theorem nn_ofNat {c : Int32} (h : ¬ c < 0) : ∃ m : Nat, m < 2147483648 ∧ c = Int32.ofNat m := by
  have hh : ¬ c < 0 := h
  have b := c.toBitVec.isLt
  have e : c.toInt = c.toBitVec.toInt := rfl
  rw [Int32.lt_iff_toInt_lt] at hh
  have z : (0 : Int32).toInt = 0 := rfl
  rw [BitVec.toInt_eq_toNat_cond] at e
  refine ⟨c.toBitVec.toNat, by split at e <;> omega, ?_⟩
  apply Int32.toBitVec_inj.mp
  show _ = BitVec.ofNat 32 _
  rw [BitVec.ofNat_toNat]; simp
theorem ofNat_succ (a : Nat) : Int32.ofNat a + Int32.ofInt 1 = Int32.ofNat (a + 1) := by
  apply Int32.toBitVec_inj.mp
  show BitVec.ofNat 32 a + BitVec.ofInt 32 1 = BitVec.ofNat 32 (a + 1)
  apply BitVec.eq_of_toNat_eq
  simp [BitVec.toNat_add, BitVec.toNat_ofNat]
theorem mod_ofNat {m d : Nat} (hm : m < 2147483648) (hd : d < 2147483648) (h0 : 0 < d) : Int32.ofNat m % Int32.ofNat d = Int32.ofNat (m % d) := by
  have hlt := Nat.mod_lt m h0
  apply Int32.toInt_inj.mp
  rw [Int32.toInt_mod, toInt_ofNat hm, toInt_ofNat hd, toInt_ofNat (by omega)]
  exact (Int.ofNat_tmod m d).symm
theorem ofNat_inj {a b : Nat} (ha : a < 2147483648) (hb : b < 2147483648) : Int32.ofNat a = Int32.ofNat b ↔ a = b := by
  rw [← Int32.toInt_inj, toInt_ofNat ha, toInt_ofNat hb]; omega
theorem ok8L (y : Int64) : ¬ (y &&& 255).toInt32.toUInt32.toUInt16.toUInt32.toInt32 < 0 ∧ ¬ (255 : Int32) < (y &&& 255).toInt32.toUInt32.toUInt16.toUInt32.toInt32 := by
  have b : (y.toBitVec &&& (255 : BitVec 64)).toNat ≤ 255 := by
    rw [BitVec.toNat_and]
    exact Nat.and_le_right
  have e : (y &&& 255).toInt32.toInt = ((y.toBitVec &&& (255 : BitVec 64)).signExtend 32).toInt := rfl
  rw [BitVec.signExtend_eq_setWidth_of_le _ (by decide)] at e
  rw [BitVec.toInt_eq_toNat_cond, BitVec.toNat_setWidth] at e
  have z : (0 : Int32).toInt = 0 := rfl
  have z' : (255 : Int32).toInt = 255 := rfl
  have h : ¬ (y &&& 255).toInt32 < 0 ∧ ¬ (255 : Int32) < (y &&& 255).toInt32 := by
    rw [Int32.lt_iff_toInt_lt, Int32.lt_iff_toInt_lt, z, z']
    split at e <;> omega
  rw [c16_of h.1 (to65 h.2)]
  exact h
theorem shl1 (i : Nat) : Int32.ofNat i <<< ((1 : Int32) &&& 31) = Int32.ofNat (2 * i) := by
  apply Int32.toBitVec_inj.mp
  rw [Int32.toBitVec_shiftLeft]
  have : (((1 : Int32) &&& 31).toBitVec.smod 32) = 1#32 := by decide
  rw [this]
  apply BitVec.eq_of_toNat_eq
  rw [BitVec.shiftLeft_eq', BitVec.toNat_shiftLeft]
  show ((BitVec.ofNat 32 i).toNat <<< (1#32).toNat) % 2 ^ 32 = (BitVec.ofNat 32 (2 * i)).toNat
  rw [BitVec.toNat_ofNat, BitVec.toNat_ofNat, Nat.shiftLeft_eq]
  simp
  omega
theorem cod1 {n : Nat} (h0 : 0 < n) (h1 : n ≤ 4000) : ((Int32.ofNat n - Int32.ofNat (2 * n)).toUInt32 >>> ((31 : Int32) &&& 31).toUInt32).toInt32.toInt8.toInt32 = 1 := by
  have e : (Int32.ofNat n - Int32.ofNat (2 * n)).toBitVec.toNat = 4294967296 - n := by
    rw [Int32.toBitVec_sub]
    show (BitVec.ofNat 32 n - BitVec.ofNat 32 (2 * n)).toNat = _
    rw [BitVec.toNat_sub, BitVec.toNat_ofNat, BitVec.toNat_ofNat]
    omega
  have e2 : ((Int32.ofNat n - Int32.ofNat (2 * n)).toUInt32 >>> ((31 : Int32) &&& 31).toUInt32).toInt32 = 1 := by
    apply Int32.toBitVec_inj.mp
    apply BitVec.eq_of_toNat_eq
    show ((Int32.ofNat n - Int32.ofNat (2 * n)).toUInt32 >>> ((31 : Int32) &&& 31).toUInt32).toNat = 1
    rw [UInt32.toNat_shiftRight]
    have : (((31 : Int32) &&& 31).toUInt32).toNat % 32 = 31 := by decide
    rw [this]
    show (Int32.ofNat n - Int32.ofNat (2 * n)).toBitVec.toNat >>> 31 = 1
    rw [e, Nat.shiftRight_eq_div_pow]
    omega
  rw [e2]
  decide
theorem bl {a b : Nat} (h : a ≤ b) : Nat.ble a b = true := Nat.ble_eq_true_of_le h
end Own
namespace Own
open Jvm Jvm.ClassFile Sem Op Lib Jvm.Free Jvm.Stand Jvm.LawKit Jvm.RoadKit Bundle
section Strs
variable {X : Cx} {l : Launch} {R : Room} {Z : State} {a0 : Array Value} {EL : List (String × Nat)} {nw : Bool} {sf : List Addr} {h h' : Heap} {W : Nat} {x x' b : Addr} {cs ds : List Int32}
/-- at x stands a String that spells cs -/
def Str (Z : State) (h : Heap) (x : Addr) (cs : List Int32) : Prop :=
  Exa Z h x "java/lang/String" ∧ ∃ (t : Addr) (kb : ClassId) (cd N2 : Int32) (vs : List Value), Fld Z h x "java/lang/String" "value" "[B" (.ref t) ∧ Fld Z h x "java/lang/String" "coder" "B" (.int cd) ∧ Arv Z h t kb .byte N2 vs (.int 0) ∧ StrChars.Road.CodA cs cd N2 vs ∧ (∀ c ∈ cs, ¬ c < 0 ∧ ¬ (65535 : Int32) < c) ∧ cs.length ≤ 4000
theorem Str.ext (S : Str Z h x cs) (E : Ext h h') : Str Z h' x cs := by
  obtain ⟨E1, t, kb, cd, N2, vs, h1, h2, h3, r⟩ := S
  exact ⟨E1.ext E, t, kb, cd, N2, vs, h1.ext E, h2.ext E, h3.ext E, r⟩
theorem Str.exa (S : Str Z h x cs) : Exa Z h x "java/lang/String" := S.1
theorem Str.lt (S : Str Z h x cs) : x < h.size := S.1.lt
theorem up255 (q : ∀ c ∈ cs, ¬ c < 0 ∧ ¬ (255 : Int32) < c) : ∀ c ∈ cs, ¬ c < 0 ∧ ¬ (65535 : Int32) < c := fun c hc => ⟨(q c hc).1, fun u => (q c hc).2 (by rw [Int32.lt_iff_toInt_lt] at u ⊢; have e1 : (65535 : Int32).toInt = 65535 := rfl; have e2 : (255 : Int32).toInt = 255 := rfl; omega)⟩
theorem Str.of_lit {kb : ClassId} {z : Int32} {vs : List Value} {t : Addr} (E : Exa Z h x "java/lang/String") (C : Fld Z h x "java/lang/String" "coder" "B" (.int 0)) (V : Fld Z h x "java/lang/String" "value" "[B" (.ref t)) (A : Arv Z h t kb .byte z vs (.int 0)) (hz : z = Int32.ofNat cs.length) (hv : vs = cs.map fun c => Value.int (StrChars.lo8 c)) (hc : ∀ c ∈ cs, ¬ c < 0 ∧ ¬ (255 : Int32) < c) (hl : cs.length ≤ 4000) : Str Z h x cs :=
  ⟨E, t, kb, 0, z, vs, V, C, A, Or.inl ⟨rfl, hz, hv, fun c q => (hc c q).2⟩, up255 hc, hl⟩
/-- a String constant, read -/
theorem g_lit {y : MethodName} {bs : ByteArray} {ml : Nat} {rt : Option FieldType} {Q : Option Value → Heap → Prop} {kc ks k n pc pc' : Nat} {Ls : Array Slot} {st : List Value} (hnw : nw = false) {text : String} {ix : Nat} (cs : List Int32) (nn : Nat) (hd : decode bs pc = .ok (.ldc ix, 2)) (hp : pc + 2 = pc') (w : (Jvm.Cond.stringLink y.cls ix text).before a0 Z = true) (wS : ∀ a ∈ Bundle.stringAtoms, a.before a0 Z = true) (hm : (y.cls, ix) ∈ EL)
    (ht : (∀ c ∈ text.toList, c.toNat < 256) ∧ text.toList.map (fun c => Value.int (Jvm.Lit.byteI c.toNat.toUInt16)) = cs.map fun c => Value.int (StrChars.lo8 c)) (hc : ∀ c ∈ cs, ¬ c < 0 ∧ ¬ (255 : Int32) < c) (hz : ¬ Int32.ofNat cs.length < 0) (hl : (Int32.ofNat cs.length).toNatClampNeg = cs.length) (hcl : Nat.ble cs.length 4000 = true) (h4 : Nat.ble (4 * text.toList.length) nn = true) (hbig : Nat.ble nn 536870912 = true) (hk : Nat.ble (k + 2) R.cells = true) (hn : Nat.ble (n + (nn + 4)) R.slots = true)
    (G : ∀ h' a, Ext h h' → Str Z h' a cs → (∀ x ∈ sf, x ≠ a) → Go X R Z a0 EL nw y bs ml rt Q kc ks sf h' (k + 2) (n + (nn + 4)) (mkF X.m pc' Ls (.ref a :: st))) : Go X R Z a0 EL nw y bs ml rt Q kc ks sf h k n (mkF X.m pc Ls st) :=
  g_ldcS hnw (z := Int32.ofNat cs.length) hd hp w wS hm ht hz (by rw [hl, List.length_map]) h4 hbig hk hn fun h' a b kb E A1 A2 A3 A4 hne => G h' a E (Str.of_lit A1 A2 A3 A4 rfl rfl hc (ble hcl)) fun x hx => (hne x hx).1
theorem pay_new {kC : ClassId} {N z : Int32} {d v0 c0 : Value} {n : Nat} (hws : ∀ d ∈ StrChars.Road.words, d.before a0 Z = true) (wi : (Jvm.Cond.instantiable "java/lang/String" 4).before a0 Z = true) (S : Sta Z Z.heap "java/lang/String" "COMPACT_STRINGS" "Z" (.int z)) (hz : ¬ z = 0) (EZ : Ext Z.heap h) (hx0 : Z.heap.size ≤ x)
    (E : Exa Z h x "java/lang/String") (V : Fld Z h x "java/lang/String" "value" "[B" v0) (C : Fld Z h x "java/lang/String" "coder" "B" c0) (K : Arv Z h b kC .char N (cs.map Value.int) d) (hn : cs.length = n) (hN : N = Int32.ofNat n) (l0 : Nat.ble 1 n = true) (l2 : Nat.ble n 4000 = true) (hp : ∀ c ∈ cs, ¬ c < 0 ∧ ¬ (255 : Int32) < c) (hfr : Nat.ble 4 R.frames = true) (hlo : Nat.ble (W + 65) R.locals = true) :
    Pay l R ⟨"java/lang/String", "<init>", "([C)V"⟩ W #[.ref x, .ref b] Z a0 EL nw [x] h 1 n (fun v h' => v = none ∧ Keep h h' [x] ∧ Str Z h' x cs) :=
  Pay.of_back [x] (fun p e below s args len hZ => StrChars.Road.backV (n0 := Z.heap.size) hZ hws (kI := 4) wi hx0 EZ.1 E V C K (S.ext EZ) hz hn hN (ble l0) (ble l2) hp rfl (ble hfr) (ble hlo)) (fun y hy => ⟨hy, by cases List.mem_singleton.mp hy; exact hx0⟩)
    (fun v h' L q => by
      obtain ⟨e1, N1, K1, E1, C1, t, kb, -, -, -, V1, A1⟩ := q
      exact ⟨⟨e1, K1, E1, t, kb, 0, N, _, V1, C1, A1, by rw [hN]; exact StrChars.Road.codOf hn (fun c hc => (hp c hc).2), up255 hp, by rw [hn]; exact ble l2⟩, K1, N1⟩)
theorem Str.lat (T : Str Z h x cs) (hp : ∀ c ∈ cs, ¬ (255 : Int32) < c) : ∃ (t : Addr) (kb : ClassId) (N2 : Int32) (vs : List Value), Fld Z h x "java/lang/String" "value" "[B" (.ref t) ∧ Fld Z h x "java/lang/String" "coder" "B" (.int 0) ∧ Arv Z h t kb .byte N2 vs (.int 0) ∧ StrChars.Road.CodA cs 0 N2 vs ∧ (∀ c ∈ cs, ¬ c < 0 ∧ ¬ (65535 : Int32) < c) ∧ cs.length ≤ 4000 := by
  obtain ⟨E1, t, kb, cd, N2, vs, V, C, A, hc, hb, hl⟩ := T
  have e : cd = 0 := by
    rcases hc with q | ⟨-, -, -, c, q1, q2⟩
    · exact q.1
    · exact absurd q2 (hp c q1)
  subst e
  exact ⟨t, kb, N2, vs, V, C, A, hc, hb, hl⟩
end Strs
end Own
namespace Own
open Jvm Jvm.ClassFile Sem Op Lib Jvm.Free Jvm.Stand Jvm.LawKit Jvm.RoadKit Bundle
section Strs
variable {X : Cx} {l : Launch} {R : Room} {Z : State} {a0 : Array Value} {EL : List (String × Nat)} {nw : Bool} {sf : List Addr} {h h' : Heap} {W : Nat} {x x' b : Addr} {cs ds : List Int32}
theorem pay_len {z : Int32} (hln : ∀ d ∈ StrChars.Road.wordsLen, d.before a0 Z = true) (wi : (Jvm.Cond.instantiable "java/lang/String" 4).before a0 Z = true) (S : Sta Z Z.heap "java/lang/String" "COMPACT_STRINGS" "Z" (.int z)) (hz : ¬ z = 0) (EZ : Ext Z.heap h) (T : Str Z h x cs) (hfr : Nat.ble 2 R.frames = true) (hlo : Nat.ble (W + 25) R.locals = true) :
    Pay l R ⟨"java/lang/String", "length", "()I"⟩ W #[.ref x] Z a0 EL nw sf h 0 0 (fun v h' => v = some (.int (Int32.ofNat cs.length)) ∧ h' = h) := by
  obtain ⟨E1, t, kb, cd, N2, vs, V, C, A, hc, hb, hl⟩ := T
  exact Pay.pure (P := fun v => v = some (.int (Int32.ofNat cs.length))) fun p e below s args len hZ => StrChars.Road.lenW hZ hln (kI := 4) wi E1 V C A hc hb (S.ext EZ) hz hl (ble hfr) (ble hlo)
end Strs
end Own
namespace Own
open Jvm Jvm.ClassFile Sem Op Lib Jvm.Free Jvm.Stand Jvm.LawKit Jvm.RoadKit Bundle
section Strs
variable {X : Cx} {l : Launch} {R : Room} {Z : State} {a0 : Array Value} {EL : List (String × Nat)} {nw : Bool} {sf : List Addr} {h h' : Heap} {W : Nat} {x x' b : Addr} {cs ds : List Int32}
theorem pay_eq {z : Int32} (heq : ∀ d ∈ StrChars.Road.wordsEq, d.before a0 Z = true) (wi : (Jvm.Cond.instantiable "java/lang/String" 4).before a0 Z = true) (S : Sta Z Z.heap "java/lang/String" "COMPACT_STRINGS" "Z" (.int z)) (hz : ¬ z = 0) (EZ : Ext Z.heap h) (T : Str Z h x cs) (T' : Str Z h x' ds) (hfr : Nat.ble 2 R.frames = true) (hlo : Nat.ble (W + 28) R.locals = true) :
    Pay l R ⟨"java/lang/String", "equals", "(Ljava/lang/Object;)Z"⟩ W #[.ref x, .ref x'] Z a0 EL nw sf h 0 0 (fun v h' => ((v = some (.int 1) ∧ cs = ds) ∨ (v = some (.int 0) ∧ ¬ cs = ds)) ∧ h' = h) := by
  obtain ⟨E1, t, kb, cd, N2, vs, V, C, A, hc, hb, hl⟩ := T
  obtain ⟨E1', t', kb', cd', N2', vs', V', C', A', hc', hb', hl'⟩ := T'
  exact Pay.pure (P := fun v => (v = some (.int 1) ∧ cs = ds) ∨ (v = some (.int 0) ∧ ¬ cs = ds)) fun p e below s args len hZ => StrChars.Road.eqW hZ heq (kI := 4) wi E1 V C A hc hb hl E1' V' C' A' hc' hb' hl' (S.ext EZ) hz (ble hfr) (ble hlo)
end Strs
end Own
namespace Own
open Jvm Jvm.ClassFile Sem Op Lib Jvm.Free Jvm.Stand Jvm.LawKit Jvm.RoadKit Bundle
section Strs
variable {X : Cx} {l : Launch} {R : Room} {Z : State} {a0 : Array Value} {EL : List (String × Nat)} {nw : Bool} {sf : List Addr} {h h' : Heap} {W : Nat} {x x' b : Addr} {cs ds : List Int32}
theorem pay_ch {z j : Int32} {fm : Value} {i : Nat} (hch : ∀ d ∈ StrChars.Road.wordsChN, d.before a0 Z = true) (wi : (Jvm.Cond.instantiable "java/lang/String" 4).before a0 Z = true) (S : Sta Z Z.heap "java/lang/String" "COMPACT_STRINGS" "Z" (.int z)) (hz : ¬ z = 0) (F : Sta Z Z.heap "jdk/internal/util/Preconditions" "SIOOBE_FORMATTER" "Ljava/util/function/BiFunction;" fm) (rf : fm.isRef = true) (EZ : Ext Z.heap h) (T : Str Z h x cs) (hp : ∀ c ∈ cs, ¬ (255 : Int32) < c) (hi : i < cs.length) (hj : j = Int32.ofNat i) (hfr : Nat.ble 4 R.frames = true) (hlo : Nat.ble (W + 53) R.locals = true) :
    Pay l R ⟨"java/lang/String", "charAt", "(I)C"⟩ W #[.ref x, .int j] Z a0 EL nw sf h 0 0 (fun v h' => v = some (.int (cs.getD i 0)) ∧ h' = h) := by
  obtain ⟨t, kb, N2, vs, V, C, A, hc, hb, hl⟩ := T.lat hp
  exact Pay.pure (P := fun v => v = some (.int (cs.getD i 0))) fun p e below s args len hZ => StrChars.Road.chN hZ hch (kI := 4) wi T.1 V C A hc hb (S.ext EZ) hz (F.ext EZ) rf hl hi hj (ble hfr) (ble hlo)
end Strs
end Own
theorem wa_char {a0 : Array Value} {Z : State} (hw : ∀ d ∈ tables_1, d.before a0 Z = true) : (Jvm.Cond.arrayClass Jvm.ClassFile.FieldType.char).before a0 Z = true := hw _ (List.mem_of_getElem? (i := 0) rfl)
theorem wl_DefinitionsFixedPinLaw_7 {a0 : Array Value} {Z : State} (hw : ∀ d ∈ tables_1, d.before a0 Z = true) : (Jvm.Cond.methodLink "wirefold/DefinitionsFixedPinLaw" (7 : Nat) ({ cls := "wirefold/DefinitionsFixedPinLaw", name := "putSuffix", desc := "([CI)V" } : Jvm.MethodName)).before a0 Z = true := hw _ (List.mem_of_getElem? (i := 1) rfl)
theorem ws_DefinitionsFixedPinLaw_putSuffix_lACIrV {a0 : Array Value} {Z : State} (hw : ∀ d ∈ tables_1, d.before a0 Z = true) : (Jvm.Cond.static ({ cls := "wirefold/DefinitionsFixedPinLaw", name := "putSuffix", desc := "([CI)V" } : Jvm.MethodName)).before a0 Z = true := hw _ (List.mem_of_getElem? (i := 2) rfl)
theorem wi_DefinitionsFixedPinLaw {a0 : Array Value} {Z : State} (hw : ∀ d ∈ tables_1, d.before a0 Z = true) : (Jvm.Cond.initialized "wirefold/DefinitionsFixedPinLaw").before a0 Z = true := hw _ (List.mem_of_getElem? (i := 3) rfl)
theorem wb_DefinitionsFixedPinLaw_putSuffix_lACIrV {a0 : Array Value} {Z : State} (hw : ∀ d ∈ tables_1, d.before a0 Z = true) : (Jvm.Cond.code ({ cls := "wirefold/DefinitionsFixedPinLaw", name := "putSuffix", desc := "([CI)V" } : Jvm.MethodName) method_3_code (3 : Nat) (Option.none : Option Jvm.ClassFile.FieldType)).before a0 Z = true := hw _ (List.mem_of_getElem? (i := 4) rfl)
theorem wt_DefinitionsFixedPinLaw_38 {a0 : Array Value} {Z : State} (hw : ∀ d ∈ tables_1, d.before a0 Z = true) : (Jvm.Cond.stringLink "wirefold/DefinitionsFixedPinLaw" (38 : Nat) ": the definitions are fixed once the factory post-processors have run").before a0 Z = true := hw _ (List.mem_of_getElem? (i := 5) rfl)
theorem wi_String {a0 : Array Value} {Z : State} (hw : ∀ d ∈ tables_1, d.before a0 Z = true) : (Jvm.Cond.initialized "java/lang/String").before a0 Z = true := hw _ (List.mem_of_getElem? (i := 6) rfl)
theorem wn_String {a0 : Array Value} {Z : State} (hw : ∀ d ∈ tables_1, d.before a0 Z = true) : (Jvm.Cond.instantiable "java/lang/String" (4 : Nat)).before a0 Z = true := hw _ (List.mem_of_getElem? (i := 7) rfl)
theorem wa_byte {a0 : Array Value} {Z : State} (hw : ∀ d ∈ tables_1, d.before a0 Z = true) : (Jvm.Cond.arrayClass Jvm.ClassFile.FieldType.byte).before a0 Z = true := hw _ (List.mem_of_getElem? (i := 8) rfl)
theorem wy_String_String_value {a0 : Array Value} {Z : State} (hw : ∀ d ∈ tables_1, d.before a0 Z = true) : (Jvm.Cond.laysFinal "java/lang/String" "java/lang/String" "value" "[B").before a0 Z = true := hw _ (List.mem_of_getElem? (i := 9) rfl)
theorem wy_String_String_coder {a0 : Array Value} {Z : State} (hw : ∀ d ∈ tables_1, d.before a0 Z = true) : (Jvm.Cond.laysFinal "java/lang/String" "java/lang/String" "coder" "B").before a0 Z = true := hw _ (List.mem_of_getElem? (i := 10) rfl)
theorem wj_String_value {a0 : Array Value} {Z : State} (hw : ∀ d ∈ tables_1, d.before a0 Z = true) : (Jvm.Cond.soleField "java/lang/String" "value").before a0 Z = true := hw _ (List.mem_of_getElem? (i := 11) rfl)
theorem wj_String_coder {a0 : Array Value} {Z : State} (hw : ∀ d ∈ tables_1, d.before a0 Z = true) : (Jvm.Cond.soleField "java/lang/String" "coder").before a0 Z = true := hw _ (List.mem_of_getElem? (i := 12) rfl)
theorem wl_DefinitionsFixedPinLaw_40 {a0 : Array Value} {Z : State} (hw : ∀ d ∈ tables_1, d.before a0 Z = true) : (Jvm.Cond.methodLink "wirefold/DefinitionsFixedPinLaw" (40 : Nat) ({ cls := "java/lang/String", name := "charAt", desc := "(I)C" } : Jvm.MethodName)).before a0 Z = true := hw _ (List.mem_of_getElem? (i := 13) rfl)
theorem wd_String_charAt_lIrC {a0 : Array Value} {Z : State} (hw : ∀ d ∈ tables_1, d.before a0 Z = true) : (Jvm.Cond.declares ({ cls := "java/lang/String", name := "charAt", desc := "(I)C" } : Jvm.MethodName)).before a0 Z = true := hw _ (List.mem_of_getElem? (i := 14) rfl)
theorem wm_String_charAt_lIrC {a0 : Array Value} {Z : State} (hw : ∀ d ∈ tables_1, d.before a0 Z = true) : (Jvm.Cond.instanceMethod ({ cls := "java/lang/String", name := "charAt", desc := "(I)C" } : Jvm.MethodName)).before a0 Z = true := hw _ (List.mem_of_getElem? (i := 15) rfl)
theorem wv_String_String_charAt_lIrC {a0 : Array Value} {Z : State} (hw : ∀ d ∈ tables_1, d.before a0 Z = true) : (Jvm.Cond.selects "java/lang/String" ({ cls := "java/lang/String", name := "charAt", desc := "(I)C" } : Jvm.MethodName) ({ cls := "java/lang/String", name := "charAt", desc := "(I)C" } : Jvm.MethodName)).before a0 Z = true := hw _ (List.mem_of_getElem? (i := 16) rfl)
theorem wb_String_charAt_lIrC {a0 : Array Value} {Z : State} (hw : ∀ d ∈ tables_1, d.before a0 Z = true) : (Jvm.Cond.code ({ cls := "java/lang/String", name := "charAt", desc := "(I)C" } : Jvm.MethodName) jdk_42_method_56_code (2 : Nat) (Option.some Jvm.ClassFile.FieldType.char)).before a0 Z = true := hw _ (List.mem_of_getElem? (i := 17) rfl)
theorem wl_String_492 {a0 : Array Value} {Z : State} (hw : ∀ d ∈ tables_1, d.before a0 Z = true) : (Jvm.Cond.methodLink "java/lang/String" (492 : Nat) ({ cls := "java/lang/String", name := "isLatin1", desc := "()Z" } : Jvm.MethodName)).before a0 Z = true := hw _ (List.mem_of_getElem? (i := 18) rfl)
theorem wd_String_isLatin1_lrZ {a0 : Array Value} {Z : State} (hw : ∀ d ∈ tables_1, d.before a0 Z = true) : (Jvm.Cond.declares ({ cls := "java/lang/String", name := "isLatin1", desc := "()Z" } : Jvm.MethodName)).before a0 Z = true := hw _ (List.mem_of_getElem? (i := 19) rfl)
theorem wm_String_isLatin1_lrZ {a0 : Array Value} {Z : State} (hw : ∀ d ∈ tables_1, d.before a0 Z = true) : (Jvm.Cond.instanceMethod ({ cls := "java/lang/String", name := "isLatin1", desc := "()Z" } : Jvm.MethodName)).before a0 Z = true := hw _ (List.mem_of_getElem? (i := 20) rfl)
theorem wv_String_String_isLatin1_lrZ {a0 : Array Value} {Z : State} (hw : ∀ d ∈ tables_1, d.before a0 Z = true) : (Jvm.Cond.selects "java/lang/String" ({ cls := "java/lang/String", name := "isLatin1", desc := "()Z" } : Jvm.MethodName) ({ cls := "java/lang/String", name := "isLatin1", desc := "()Z" } : Jvm.MethodName)).before a0 Z = true := hw _ (List.mem_of_getElem? (i := 21) rfl)
theorem wb_String_isLatin1_lrZ {a0 : Array Value} {Z : State} (hw : ∀ d ∈ tables_1, d.before a0 Z = true) : (Jvm.Cond.code ({ cls := "java/lang/String", name := "isLatin1", desc := "()Z" } : Jvm.MethodName) jdk_42_method_154_code (1 : Nat) (Option.some Jvm.ClassFile.FieldType.boolean)).before a0 Z = true := hw _ (List.mem_of_getElem? (i := 22) rfl)
theorem wf_String_38 {a0 : Array Value} {Z : State} (hw : ∀ d ∈ tables_1, d.before a0 Z = true) : (Jvm.Cond.fieldLink "java/lang/String" (38 : Nat) "java/lang/String" "COMPACT_STRINGS" "Z").before a0 Z = true := hw _ (List.mem_of_getElem? (i := 23) rfl)
theorem wf_String_15 {a0 : Array Value} {Z : State} (hw : ∀ d ∈ tables_1, d.before a0 Z = true) : (Jvm.Cond.fieldLink "java/lang/String" (15 : Nat) "java/lang/String" "coder" "B").before a0 Z = true := hw _ (List.mem_of_getElem? (i := 24) rfl)
theorem wf_String_9 {a0 : Array Value} {Z : State} (hw : ∀ d ∈ tables_1, d.before a0 Z = true) : (Jvm.Cond.fieldLink "java/lang/String" (9 : Nat) "java/lang/String" "value" "[B").before a0 Z = true := hw _ (List.mem_of_getElem? (i := 25) rfl)
theorem wl_String_495 {a0 : Array Value} {Z : State} (hw : ∀ d ∈ tables_1, d.before a0 Z = true) : (Jvm.Cond.methodLink "java/lang/String" (495 : Nat) ({ cls := "java/lang/StringLatin1", name := "charAt", desc := "([BI)C" } : Jvm.MethodName)).before a0 Z = true := hw _ (List.mem_of_getElem? (i := 26) rfl)
theorem ws_StringLatin1_charAt_lABIrC {a0 : Array Value} {Z : State} (hw : ∀ d ∈ tables_1, d.before a0 Z = true) : (Jvm.Cond.static ({ cls := "java/lang/StringLatin1", name := "charAt", desc := "([BI)C" } : Jvm.MethodName)).before a0 Z = true := hw _ (List.mem_of_getElem? (i := 27) rfl)
theorem wi_StringLatin1 {a0 : Array Value} {Z : State} (hw : ∀ d ∈ tables_1, d.before a0 Z = true) : (Jvm.Cond.initialized "java/lang/StringLatin1").before a0 Z = true := hw _ (List.mem_of_getElem? (i := 28) rfl)
theorem wb_StringLatin1_charAt_lABIrC {a0 : Array Value} {Z : State} (hw : ∀ d ∈ tables_1, d.before a0 Z = true) : (Jvm.Cond.code ({ cls := "java/lang/StringLatin1", name := "charAt", desc := "([BI)C" } : Jvm.MethodName) jdk_43_method_2_code (2 : Nat) (Option.some Jvm.ClassFile.FieldType.char)).before a0 Z = true := hw _ (List.mem_of_getElem? (i := 29) rfl)
theorem wl_StringLatin1_9 {a0 : Array Value} {Z : State} (hw : ∀ d ∈ tables_1, d.before a0 Z = true) : (Jvm.Cond.methodLink "java/lang/StringLatin1" (9 : Nat) ({ cls := "java/lang/String", name := "checkIndex", desc := "(II)V" } : Jvm.MethodName)).before a0 Z = true := hw _ (List.mem_of_getElem? (i := 30) rfl)
theorem ws_String_checkIndex_lIIrV {a0 : Array Value} {Z : State} (hw : ∀ d ∈ tables_1, d.before a0 Z = true) : (Jvm.Cond.static ({ cls := "java/lang/String", name := "checkIndex", desc := "(II)V" } : Jvm.MethodName)).before a0 Z = true := hw _ (List.mem_of_getElem? (i := 31) rfl)
theorem wb_String_checkIndex_lIIrV {a0 : Array Value} {Z : State} (hw : ∀ d ∈ tables_1, d.before a0 Z = true) : (Jvm.Cond.code ({ cls := "java/lang/String", name := "checkIndex", desc := "(II)V" } : Jvm.MethodName) jdk_42_method_155_code (2 : Nat) (Option.none : Option Jvm.ClassFile.FieldType)).before a0 Z = true := hw _ (List.mem_of_getElem? (i := 32) rfl)
theorem wf_String_1053 {a0 : Array Value} {Z : State} (hw : ∀ d ∈ tables_1, d.before a0 Z = true) : (Jvm.Cond.fieldLink "java/lang/String" (1053 : Nat) "jdk/internal/util/Preconditions" "SIOOBE_FORMATTER" "Ljava/util/function/BiFunction;").before a0 Z = true := hw _ (List.mem_of_getElem? (i := 33) rfl)
theorem wi_Preconditions {a0 : Array Value} {Z : State} (hw : ∀ d ∈ tables_1, d.before a0 Z = true) : (Jvm.Cond.initialized "jdk/internal/util/Preconditions").before a0 Z = true := hw _ (List.mem_of_getElem? (i := 34) rfl)
theorem wl_String_1059 {a0 : Array Value} {Z : State} (hw : ∀ d ∈ tables_1, d.before a0 Z = true) : (Jvm.Cond.methodLink "java/lang/String" (1059 : Nat) ({ cls := "jdk/internal/util/Preconditions", name := "checkIndex", desc := "(IILjava/util/function/BiFunction;)I" } : Jvm.MethodName)).before a0 Z = true := hw _ (List.mem_of_getElem? (i := 35) rfl)
theorem ws_Preconditions_checkIndex_lIILjavautilfunctionBiFunctionrI {a0 : Array Value} {Z : State} (hw : ∀ d ∈ tables_1, d.before a0 Z = true) : (Jvm.Cond.static ({ cls := "jdk/internal/util/Preconditions", name := "checkIndex", desc := "(IILjava/util/function/BiFunction;)I" } : Jvm.MethodName)).before a0 Z = true := hw _ (List.mem_of_getElem? (i := 36) rfl)
theorem wb_Preconditions_checkIndex_lIILjavautilfunctionBiFunctionrI {a0 : Array Value} {Z : State} (hw : ∀ d ∈ tables_1, d.before a0 Z = true) : (Jvm.Cond.code ({ cls := "jdk/internal/util/Preconditions", name := "checkIndex", desc := "(IILjava/util/function/BiFunction;)I" } : Jvm.MethodName) jdk_41_method_11_code (3 : Nat) (Option.some Jvm.ClassFile.FieldType.int)).before a0 Z = true := hw _ (List.mem_of_getElem? (i := 37) rfl)
theorem wc_DefinitionsFixedPinLaw_13 {a0 : Array Value} {Z : State} (hw : ∀ d ∈ tables_1, d.before a0 Z = true) : (Jvm.Cond.classLink "wirefold/DefinitionsFixedPinLaw" (13 : Nat) "java/lang/String").before a0 Z = true := hw _ (List.mem_of_getElem? (i := 38) rfl)
theorem wl_DefinitionsFixedPinLaw_15 {a0 : Array Value} {Z : State} (hw : ∀ d ∈ tables_1, d.before a0 Z = true) : (Jvm.Cond.methodLink "wirefold/DefinitionsFixedPinLaw" (15 : Nat) ({ cls := "java/lang/String", name := "<init>", desc := "([C)V" } : Jvm.MethodName)).before a0 Z = true := hw _ (List.mem_of_getElem? (i := 39) rfl)
theorem wm_String_init_lACrV {a0 : Array Value} {Z : State} (hw : ∀ d ∈ tables_1, d.before a0 Z = true) : (Jvm.Cond.instanceMethod ({ cls := "java/lang/String", name := "<init>", desc := "([C)V" } : Jvm.MethodName)).before a0 Z = true := hw _ (List.mem_of_getElem? (i := 40) rfl)
theorem wb_String_init_lACrV {a0 : Array Value} {Z : State} (hw : ∀ d ∈ tables_1, d.before a0 Z = true) : (Jvm.Cond.code ({ cls := "java/lang/String", name := "<init>", desc := "([C)V" } : Jvm.MethodName) jdk_42_method_3_code (2 : Nat) (Option.none : Option Jvm.ClassFile.FieldType)).before a0 Z = true := hw _ (List.mem_of_getElem? (i := 41) rfl)
theorem wl_String_27 {a0 : Array Value} {Z : State} (hw : ∀ d ∈ tables_1, d.before a0 Z = true) : (Jvm.Cond.methodLink "java/lang/String" (27 : Nat) ({ cls := "java/lang/String", name := "<init>", desc := "([CIILjava/lang/Void;)V" } : Jvm.MethodName)).before a0 Z = true := hw _ (List.mem_of_getElem? (i := 42) rfl)
theorem wm_String_init_lACIILjavalangVoidrV {a0 : Array Value} {Z : State} (hw : ∀ d ∈ tables_1, d.before a0 Z = true) : (Jvm.Cond.instanceMethod ({ cls := "java/lang/String", name := "<init>", desc := "([CIILjava/lang/Void;)V" } : Jvm.MethodName)).before a0 Z = true := hw _ (List.mem_of_getElem? (i := 43) rfl)
theorem wx_String_String {a0 : Array Value} {Z : State} (hw : ∀ d ∈ tables_1, d.before a0 Z = true) : (Jvm.Cond.castable "java/lang/String" "java/lang/String").before a0 Z = true := hw _ (List.mem_of_getElem? (i := 44) rfl)
theorem wb_String_init_lACIILjavalangVoidrV {a0 : Array Value} {Z : State} (hw : ∀ d ∈ tables_1, d.before a0 Z = true) : (Jvm.Cond.code ({ cls := "java/lang/String", name := "<init>", desc := "([CIILjava/lang/Void;)V" } : Jvm.MethodName) jdk_42_method_149_code (6 : Nat) (Option.none : Option Jvm.ClassFile.FieldType)).before a0 Z = true := hw _ (List.mem_of_getElem? (i := 45) rfl)
theorem wl_String_1 {a0 : Array Value} {Z : State} (hw : ∀ d ∈ tables_1, d.before a0 Z = true) : (Jvm.Cond.methodLink "java/lang/String" (1 : Nat) ({ cls := "java/lang/Object", name := "<init>", desc := "()V" } : Jvm.MethodName)).before a0 Z = true := hw _ (List.mem_of_getElem? (i := 46) rfl)
theorem wm_Object_init_lrV {a0 : Array Value} {Z : State} (hw : ∀ d ∈ tables_1, d.before a0 Z = true) : (Jvm.Cond.instanceMethod ({ cls := "java/lang/Object", name := "<init>", desc := "()V" } : Jvm.MethodName)).before a0 Z = true := hw _ (List.mem_of_getElem? (i := 47) rfl)
theorem wb_Object_init_lrV {a0 : Array Value} {Z : State} (hw : ∀ d ∈ tables_1, d.before a0 Z = true) : (Jvm.Cond.code ({ cls := "java/lang/Object", name := "<init>", desc := "()V" } : Jvm.MethodName) object_method_1_code (1 : Nat) (Option.none : Option Jvm.ClassFile.FieldType)).before a0 Z = true := hw _ (List.mem_of_getElem? (i := 48) rfl)
theorem wl_String_177 {a0 : Array Value} {Z : State} (hw : ∀ d ∈ tables_1, d.before a0 Z = true) : (Jvm.Cond.methodLink "java/lang/String" (177 : Nat) ({ cls := "java/lang/StringUTF16", name := "compress", desc := "([CII)[B" } : Jvm.MethodName)).before a0 Z = true := hw _ (List.mem_of_getElem? (i := 49) rfl)
theorem ws_StringUTF16_compress_lACIIrAB {a0 : Array Value} {Z : State} (hw : ∀ d ∈ tables_1, d.before a0 Z = true) : (Jvm.Cond.static ({ cls := "java/lang/StringUTF16", name := "compress", desc := "([CII)[B" } : Jvm.MethodName)).before a0 Z = true := hw _ (List.mem_of_getElem? (i := 50) rfl)
theorem wi_StringUTF16 {a0 : Array Value} {Z : State} (hw : ∀ d ∈ tables_1, d.before a0 Z = true) : (Jvm.Cond.initialized "java/lang/StringUTF16").before a0 Z = true := hw _ (List.mem_of_getElem? (i := 51) rfl)
theorem wb_StringUTF16_compress_lACIIrAB {a0 : Array Value} {Z : State} (hw : ∀ d ∈ tables_1, d.before a0 Z = true) : (Jvm.Cond.code ({ cls := "java/lang/StringUTF16", name := "compress", desc := "([CII)[B" } : Jvm.MethodName) jdk_52_method_16_code (6 : Nat) (Option.some (Jvm.ClassFile.FieldType.array Jvm.ClassFile.FieldType.byte))).before a0 Z = true := hw _ (List.mem_of_getElem? (i := 52) rfl)
theorem wl_StringUTF16_115 {a0 : Array Value} {Z : State} (hw : ∀ d ∈ tables_1, d.before a0 Z = true) : (Jvm.Cond.methodLink "java/lang/StringUTF16" (115 : Nat) ({ cls := "java/lang/StringUTF16", name := "compress", desc := "([CI[BII)I" } : Jvm.MethodName)).before a0 Z = true := hw _ (List.mem_of_getElem? (i := 53) rfl)
theorem ws_StringUTF16_compress_lACIABIIrI {a0 : Array Value} {Z : State} (hw : ∀ d ∈ tables_1, d.before a0 Z = true) : (Jvm.Cond.static ({ cls := "java/lang/StringUTF16", name := "compress", desc := "([CI[BII)I" } : Jvm.MethodName)).before a0 Z = true := hw _ (List.mem_of_getElem? (i := 54) rfl)
theorem wb_StringUTF16_compress_lACIABIIrI {a0 : Array Value} {Z : State} (hw : ∀ d ∈ tables_1, d.before a0 Z = true) : (Jvm.Cond.code ({ cls := "java/lang/StringUTF16", name := "compress", desc := "([CI[BII)I" } : Jvm.MethodName) jdk_52_method_21_code (7 : Nat) (Option.some Jvm.ClassFile.FieldType.int)).before a0 Z = true := hw _ (List.mem_of_getElem? (i := 55) rfl)
theorem wl_String_47 {a0 : Array Value} {Z : State} (hw : ∀ d ∈ tables_1, d.before a0 Z = true) : (Jvm.Cond.methodLink "java/lang/String" (47 : Nat) ({ cls := "java/lang/StringUTF16", name := "coderFromArrayLen", desc := "([BI)B" } : Jvm.MethodName)).before a0 Z = true := hw _ (List.mem_of_getElem? (i := 56) rfl)
theorem ws_StringUTF16_coderFromArrayLen_lABIrB {a0 : Array Value} {Z : State} (hw : ∀ d ∈ tables_1, d.before a0 Z = true) : (Jvm.Cond.static ({ cls := "java/lang/StringUTF16", name := "coderFromArrayLen", desc := "([BI)B" } : Jvm.MethodName)).before a0 Z = true := hw _ (List.mem_of_getElem? (i := 57) rfl)
theorem wb_StringUTF16_coderFromArrayLen_lABIrB {a0 : Array Value} {Z : State} (hw : ∀ d ∈ tables_1, d.before a0 Z = true) : (Jvm.Cond.code ({ cls := "java/lang/StringUTF16", name := "coderFromArrayLen", desc := "([BI)B" } : Jvm.MethodName) jdk_52_method_15_code (2 : Nat) (Option.some Jvm.ClassFile.FieldType.byte)).before a0 Z = true := hw _ (List.mem_of_getElem? (i := 58) rfl)
theorem wl_DefinitionsFixedPinLaw_18 {a0 : Array Value} {Z : State} (hw : ∀ d ∈ tables_1, d.before a0 Z = true) : (Jvm.Cond.methodLink "wirefold/DefinitionsFixedPinLaw" (18 : Nat) ({ cls := "wirefold/Definitions", name := "fixed", desc := "(Ljava/lang/String;)Ljava/lang/IllegalStateException;" } : Jvm.MethodName)).before a0 Z = true := hw _ (List.mem_of_getElem? (i := 59) rfl)
theorem ws_Definitions_fixed_lLjavalangStringrLjavalangIllegalStateException {a0 : Array Value} {Z : State} (hw : ∀ d ∈ tables_1, d.before a0 Z = true) : (Jvm.Cond.static ({ cls := "wirefold/Definitions", name := "fixed", desc := "(Ljava/lang/String;)Ljava/lang/IllegalStateException;" } : Jvm.MethodName)).before a0 Z = true := hw _ (List.mem_of_getElem? (i := 60) rfl)
theorem wi_Definitions {a0 : Array Value} {Z : State} (hw : ∀ d ∈ tables_1, d.before a0 Z = true) : (Jvm.Cond.initialized "wirefold/Definitions").before a0 Z = true := hw _ (List.mem_of_getElem? (i := 61) rfl)
theorem wb_Definitions_fixed_lLjavalangStringrLjavalangIllegalStateException {a0 : Array Value} {Z : State} (hw : ∀ d ∈ tables_1, d.before a0 Z = true) : (Jvm.Cond.code ({ cls := "wirefold/Definitions", name := "fixed", desc := "(Ljava/lang/String;)Ljava/lang/IllegalStateException;" } : Jvm.MethodName) prog_35_method_9_code (1 : Nat) (Option.some (Jvm.ClassFile.FieldType.object "java/lang/IllegalStateException"))).before a0 Z = true := hw _ (List.mem_of_getElem? (i := 62) rfl)
theorem wc_Definitions_102 {a0 : Array Value} {Z : State} (hw : ∀ d ∈ tables_1, d.before a0 Z = true) : (Jvm.Cond.classLink "wirefold/Definitions" (102 : Nat) "java/lang/IllegalStateException").before a0 Z = true := hw _ (List.mem_of_getElem? (i := 63) rfl)
theorem wn_IllegalStateException {a0 : Array Value} {Z : State} (hw : ∀ d ∈ tables_1, d.before a0 Z = true) : (Jvm.Cond.instantiable "java/lang/IllegalStateException" (6 : Nat)).before a0 Z = true := hw _ (List.mem_of_getElem? (i := 64) rfl)
theorem wi_IllegalStateException {a0 : Array Value} {Z : State} (hw : ∀ d ∈ tables_1, d.before a0 Z = true) : (Jvm.Cond.initialized "java/lang/IllegalStateException").before a0 Z = true := hw _ (List.mem_of_getElem? (i := 65) rfl)
theorem wc_Definitions_53 {a0 : Array Value} {Z : State} (hw : ∀ d ∈ tables_1, d.before a0 Z = true) : (Jvm.Cond.classLink "wirefold/Definitions" (53 : Nat) "java/lang/StringBuilder").before a0 Z = true := hw _ (List.mem_of_getElem? (i := 66) rfl)
theorem wn_StringBuilder {a0 : Array Value} {Z : State} (hw : ∀ d ∈ tables_1, d.before a0 Z = true) : (Jvm.Cond.instantiable "java/lang/StringBuilder" (4 : Nat)).before a0 Z = true := hw _ (List.mem_of_getElem? (i := 67) rfl)
theorem wi_StringBuilder {a0 : Array Value} {Z : State} (hw : ∀ d ∈ tables_1, d.before a0 Z = true) : (Jvm.Cond.initialized "java/lang/StringBuilder").before a0 Z = true := hw _ (List.mem_of_getElem? (i := 68) rfl)
theorem wl_Definitions_55 {a0 : Array Value} {Z : State} (hw : ∀ d ∈ tables_1, d.before a0 Z = true) : (Jvm.Cond.methodLink "wirefold/Definitions" (55 : Nat) ({ cls := "java/lang/StringBuilder", name := "<init>", desc := "()V" } : Jvm.MethodName)).before a0 Z = true := hw _ (List.mem_of_getElem? (i := 69) rfl)
theorem wm_StringBuilder_init_lrV {a0 : Array Value} {Z : State} (hw : ∀ d ∈ tables_1, d.before a0 Z = true) : (Jvm.Cond.instanceMethod ({ cls := "java/lang/StringBuilder", name := "<init>", desc := "()V" } : Jvm.MethodName)).before a0 Z = true := hw _ (List.mem_of_getElem? (i := 70) rfl)
theorem wb_StringBuilder_init_lrV {a0 : Array Value} {Z : State} (hw : ∀ d ∈ tables_1, d.before a0 Z = true) : (Jvm.Cond.code ({ cls := "java/lang/StringBuilder", name := "<init>", desc := "()V" } : Jvm.MethodName) jdk_67_method_1_code (1 : Nat) (Option.none : Option Jvm.ClassFile.FieldType)).before a0 Z = true := hw _ (List.mem_of_getElem? (i := 71) rfl)
theorem wl_StringBuilder_1 {a0 : Array Value} {Z : State} (hw : ∀ d ∈ tables_1, d.before a0 Z = true) : (Jvm.Cond.methodLink "java/lang/StringBuilder" (1 : Nat) ({ cls := "java/lang/AbstractStringBuilder", name := "<init>", desc := "(I)V" } : Jvm.MethodName)).before a0 Z = true := hw _ (List.mem_of_getElem? (i := 72) rfl)
theorem wm_AbstractStringBuilder_init_lIrV {a0 : Array Value} {Z : State} (hw : ∀ d ∈ tables_1, d.before a0 Z = true) : (Jvm.Cond.instanceMethod ({ cls := "java/lang/AbstractStringBuilder", name := "<init>", desc := "(I)V" } : Jvm.MethodName)).before a0 Z = true := hw _ (List.mem_of_getElem? (i := 73) rfl)
theorem wd_AbstractStringBuilder_init_lIrV {a0 : Array Value} {Z : State} (hw : ∀ d ∈ tables_1, d.before a0 Z = true) : (Jvm.Cond.declares ({ cls := "java/lang/AbstractStringBuilder", name := "<init>", desc := "(I)V" } : Jvm.MethodName)).before a0 Z = true := hw _ (List.mem_of_getElem? (i := 74) rfl)
theorem wx_StringBuilder_AbstractStringBuilder {a0 : Array Value} {Z : State} (hw : ∀ d ∈ tables_1, d.before a0 Z = true) : (Jvm.Cond.castable "java/lang/StringBuilder" "java/lang/AbstractStringBuilder").before a0 Z = true := hw _ (List.mem_of_getElem? (i := 75) rfl)
theorem wi_AbstractStringBuilder {a0 : Array Value} {Z : State} (hw : ∀ d ∈ tables_1, d.before a0 Z = true) : (Jvm.Cond.initialized "java/lang/AbstractStringBuilder").before a0 Z = true := hw _ (List.mem_of_getElem? (i := 76) rfl)
theorem wb_AbstractStringBuilder_init_lIrV {a0 : Array Value} {Z : State} (hw : ∀ d ∈ tables_1, d.before a0 Z = true) : (Jvm.Cond.code ({ cls := "java/lang/AbstractStringBuilder", name := "<init>", desc := "(I)V" } : Jvm.MethodName) jdk_68_method_2_code (2 : Nat) (Option.none : Option Jvm.ClassFile.FieldType)).before a0 Z = true := hw _ (List.mem_of_getElem? (i := 77) rfl)
theorem wl_AbstractStringBuilder_3 {a0 : Array Value} {Z : State} (hw : ∀ d ∈ tables_1, d.before a0 Z = true) : (Jvm.Cond.methodLink "java/lang/AbstractStringBuilder" (3 : Nat) ({ cls := "java/lang/Object", name := "<init>", desc := "()V" } : Jvm.MethodName)).before a0 Z = true := hw _ (List.mem_of_getElem? (i := 78) rfl)
theorem wf_AbstractStringBuilder_18 {a0 : Array Value} {Z : State} (hw : ∀ d ∈ tables_1, d.before a0 Z = true) : (Jvm.Cond.fieldLink "java/lang/AbstractStringBuilder" (18 : Nat) "java/lang/String" "COMPACT_STRINGS" "Z").before a0 Z = true := hw _ (List.mem_of_getElem? (i := 79) rfl)
theorem wf_AbstractStringBuilder_15 {a0 : Array Value} {Z : State} (hw : ∀ d ∈ tables_1, d.before a0 Z = true) : (Jvm.Cond.fieldLink "java/lang/AbstractStringBuilder" (15 : Nat) "java/lang/AbstractStringBuilder" "value" "[B").before a0 Z = true := hw _ (List.mem_of_getElem? (i := 80) rfl)
theorem wy_StringBuilder_AbstractStringBuilder_value {a0 : Array Value} {Z : State} (hw : ∀ d ∈ tables_1, d.before a0 Z = true) : (Jvm.Cond.lays "java/lang/StringBuilder" "java/lang/AbstractStringBuilder" "value" "[B").before a0 Z = true := hw _ (List.mem_of_getElem? (i := 81) rfl)
theorem wf_AbstractStringBuilder_22 {a0 : Array Value} {Z : State} (hw : ∀ d ∈ tables_1, d.before a0 Z = true) : (Jvm.Cond.fieldLink "java/lang/AbstractStringBuilder" (22 : Nat) "java/lang/AbstractStringBuilder" "coder" "B").before a0 Z = true := hw _ (List.mem_of_getElem? (i := 82) rfl)
theorem wy_StringBuilder_AbstractStringBuilder_coder {a0 : Array Value} {Z : State} (hw : ∀ d ∈ tables_1, d.before a0 Z = true) : (Jvm.Cond.lays "java/lang/StringBuilder" "java/lang/AbstractStringBuilder" "coder" "B").before a0 Z = true := hw _ (List.mem_of_getElem? (i := 83) rfl)
theorem wl_Definitions_58 {a0 : Array Value} {Z : State} (hw : ∀ d ∈ tables_1, d.before a0 Z = true) : (Jvm.Cond.methodLink "wirefold/Definitions" (58 : Nat) ({ cls := "java/lang/StringBuilder", name := "append", desc := "(Ljava/lang/String;)Ljava/lang/StringBuilder;" } : Jvm.MethodName)).before a0 Z = true := hw _ (List.mem_of_getElem? (i := 84) rfl)
theorem wd_StringBuilder_append_lLjavalangStringrLjavalangStringBuilder {a0 : Array Value} {Z : State} (hw : ∀ d ∈ tables_1, d.before a0 Z = true) : (Jvm.Cond.declares ({ cls := "java/lang/StringBuilder", name := "append", desc := "(Ljava/lang/String;)Ljava/lang/StringBuilder;" } : Jvm.MethodName)).before a0 Z = true := hw _ (List.mem_of_getElem? (i := 85) rfl)
theorem wm_StringBuilder_append_lLjavalangStringrLjavalangStringBuilder {a0 : Array Value} {Z : State} (hw : ∀ d ∈ tables_1, d.before a0 Z = true) : (Jvm.Cond.instanceMethod ({ cls := "java/lang/StringBuilder", name := "append", desc := "(Ljava/lang/String;)Ljava/lang/StringBuilder;" } : Jvm.MethodName)).before a0 Z = true := hw _ (List.mem_of_getElem? (i := 86) rfl)
theorem wv_StringBuilder_StringBuilder_append_lLjavalangStringrLjavalangStringBuilder {a0 : Array Value} {Z : State} (hw : ∀ d ∈ tables_1, d.before a0 Z = true) : (Jvm.Cond.selects "java/lang/StringBuilder" ({ cls := "java/lang/StringBuilder", name := "append", desc := "(Ljava/lang/String;)Ljava/lang/StringBuilder;" } : Jvm.MethodName) ({ cls := "java/lang/StringBuilder", name := "append", desc := "(Ljava/lang/String;)Ljava/lang/StringBuilder;" } : Jvm.MethodName)).before a0 Z = true := hw _ (List.mem_of_getElem? (i := 87) rfl)
theorem wb_StringBuilder_append_lLjavalangStringrLjavalangStringBuilder {a0 : Array Value} {Z : State} (hw : ∀ d ∈ tables_1, d.before a0 Z = true) : (Jvm.Cond.code ({ cls := "java/lang/StringBuilder", name := "append", desc := "(Ljava/lang/String;)Ljava/lang/StringBuilder;" } : Jvm.MethodName) jdk_67_method_7_code (2 : Nat) (Option.some (Jvm.ClassFile.FieldType.object "java/lang/StringBuilder"))).before a0 Z = true := hw _ (List.mem_of_getElem? (i := 88) rfl)
theorem wl_StringBuilder_29 {a0 : Array Value} {Z : State} (hw : ∀ d ∈ tables_1, d.before a0 Z = true) : (Jvm.Cond.methodLink "java/lang/StringBuilder" (29 : Nat) ({ cls := "java/lang/AbstractStringBuilder", name := "append", desc := "(Ljava/lang/String;)Ljava/lang/AbstractStringBuilder;" } : Jvm.MethodName)).before a0 Z = true := hw _ (List.mem_of_getElem? (i := 89) rfl)
theorem wm_AbstractStringBuilder_append_lLjavalangStringrLjavalangAbstractStringBuilder {a0 : Array Value} {Z : State} (hw : ∀ d ∈ tables_1, d.before a0 Z = true) : (Jvm.Cond.instanceMethod ({ cls := "java/lang/AbstractStringBuilder", name := "append", desc := "(Ljava/lang/String;)Ljava/lang/AbstractStringBuilder;" } : Jvm.MethodName)).before a0 Z = true := hw _ (List.mem_of_getElem? (i := 90) rfl)
theorem wz_StringBuilder_AbstractStringBuilder {a0 : Array Value} {Z : State} (hw : ∀ d ∈ tables_1, d.before a0 Z = true) : (Jvm.Cond.superclass "java/lang/StringBuilder" "java/lang/AbstractStringBuilder").before a0 Z = true := hw _ (List.mem_of_getElem? (i := 91) rfl)
theorem wd_AbstractStringBuilder_append_lLjavalangStringrLjavalangAbstractStringBuilder {a0 : Array Value} {Z : State} (hw : ∀ d ∈ tables_1, d.before a0 Z = true) : (Jvm.Cond.declares ({ cls := "java/lang/AbstractStringBuilder", name := "append", desc := "(Ljava/lang/String;)Ljava/lang/AbstractStringBuilder;" } : Jvm.MethodName)).before a0 Z = true := hw _ (List.mem_of_getElem? (i := 92) rfl)
theorem wb_AbstractStringBuilder_append_lLjavalangStringrLjavalangAbstractStringBuilder {a0 : Array Value} {Z : State} (hw : ∀ d ∈ tables_1, d.before a0 Z = true) : (Jvm.Cond.code ({ cls := "java/lang/AbstractStringBuilder", name := "append", desc := "(Ljava/lang/String;)Ljava/lang/AbstractStringBuilder;" } : Jvm.MethodName) jdk_68_method_22_code (3 : Nat) (Option.some (Jvm.ClassFile.FieldType.object "java/lang/AbstractStringBuilder"))).before a0 Z = true := hw _ (List.mem_of_getElem? (i := 93) rfl)
theorem wl_AbstractStringBuilder_32 {a0 : Array Value} {Z : State} (hw : ∀ d ∈ tables_1, d.before a0 Z = true) : (Jvm.Cond.methodLink "java/lang/AbstractStringBuilder" (32 : Nat) ({ cls := "java/lang/String", name := "length", desc := "()I" } : Jvm.MethodName)).before a0 Z = true := hw _ (List.mem_of_getElem? (i := 94) rfl)
theorem wd_String_length_lrI {a0 : Array Value} {Z : State} (hw : ∀ d ∈ tables_1, d.before a0 Z = true) : (Jvm.Cond.declares ({ cls := "java/lang/String", name := "length", desc := "()I" } : Jvm.MethodName)).before a0 Z = true := hw _ (List.mem_of_getElem? (i := 95) rfl)
theorem wm_String_length_lrI {a0 : Array Value} {Z : State} (hw : ∀ d ∈ tables_1, d.before a0 Z = true) : (Jvm.Cond.instanceMethod ({ cls := "java/lang/String", name := "length", desc := "()I" } : Jvm.MethodName)).before a0 Z = true := hw _ (List.mem_of_getElem? (i := 96) rfl)
theorem wv_String_String_length_lrI {a0 : Array Value} {Z : State} (hw : ∀ d ∈ tables_1, d.before a0 Z = true) : (Jvm.Cond.selects "java/lang/String" ({ cls := "java/lang/String", name := "length", desc := "()I" } : Jvm.MethodName) ({ cls := "java/lang/String", name := "length", desc := "()I" } : Jvm.MethodName)).before a0 Z = true := hw _ (List.mem_of_getElem? (i := 97) rfl)
theorem wb_String_length_lrI {a0 : Array Value} {Z : State} (hw : ∀ d ∈ tables_1, d.before a0 Z = true) : (Jvm.Cond.code ({ cls := "java/lang/String", name := "length", desc := "()I" } : Jvm.MethodName) jdk_42_method_54_code (1 : Nat) (Option.some Jvm.ClassFile.FieldType.int)).before a0 Z = true := hw _ (List.mem_of_getElem? (i := 98) rfl)
theorem wl_String_335 {a0 : Array Value} {Z : State} (hw : ∀ d ∈ tables_1, d.before a0 Z = true) : (Jvm.Cond.methodLink "java/lang/String" (335 : Nat) ({ cls := "java/lang/String", name := "coder", desc := "()B" } : Jvm.MethodName)).before a0 Z = true := hw _ (List.mem_of_getElem? (i := 99) rfl)
theorem wd_String_coder_lrB {a0 : Array Value} {Z : State} (hw : ∀ d ∈ tables_1, d.before a0 Z = true) : (Jvm.Cond.declares ({ cls := "java/lang/String", name := "coder", desc := "()B" } : Jvm.MethodName)).before a0 Z = true := hw _ (List.mem_of_getElem? (i := 100) rfl)
theorem wm_String_coder_lrB {a0 : Array Value} {Z : State} (hw : ∀ d ∈ tables_1, d.before a0 Z = true) : (Jvm.Cond.instanceMethod ({ cls := "java/lang/String", name := "coder", desc := "()B" } : Jvm.MethodName)).before a0 Z = true := hw _ (List.mem_of_getElem? (i := 101) rfl)
theorem wv_String_String_coder_lrB {a0 : Array Value} {Z : State} (hw : ∀ d ∈ tables_1, d.before a0 Z = true) : (Jvm.Cond.selects "java/lang/String" ({ cls := "java/lang/String", name := "coder", desc := "()B" } : Jvm.MethodName) ({ cls := "java/lang/String", name := "coder", desc := "()B" } : Jvm.MethodName)).before a0 Z = true := hw _ (List.mem_of_getElem? (i := 102) rfl)
theorem wb_String_coder_lrB {a0 : Array Value} {Z : State} (hw : ∀ d ∈ tables_1, d.before a0 Z = true) : (Jvm.Cond.code ({ cls := "java/lang/String", name := "coder", desc := "()B" } : Jvm.MethodName) jdk_42_method_152_code (1 : Nat) (Option.some Jvm.ClassFile.FieldType.byte)).before a0 Z = true := hw _ (List.mem_of_getElem? (i := 103) rfl)
theorem wf_AbstractStringBuilder_79 {a0 : Array Value} {Z : State} (hw : ∀ d ∈ tables_1, d.before a0 Z = true) : (Jvm.Cond.fieldLink "java/lang/AbstractStringBuilder" (79 : Nat) "java/lang/AbstractStringBuilder" "count" "I").before a0 Z = true := hw _ (List.mem_of_getElem? (i := 104) rfl)
theorem wy_StringBuilder_AbstractStringBuilder_count {a0 : Array Value} {Z : State} (hw : ∀ d ∈ tables_1, d.before a0 Z = true) : (Jvm.Cond.lays "java/lang/StringBuilder" "java/lang/AbstractStringBuilder" "count" "I").before a0 Z = true := hw _ (List.mem_of_getElem? (i := 105) rfl)
theorem wl_AbstractStringBuilder_100 {a0 : Array Value} {Z : State} (hw : ∀ d ∈ tables_1, d.before a0 Z = true) : (Jvm.Cond.methodLink "java/lang/AbstractStringBuilder" (100 : Nat) ({ cls := "java/lang/AbstractStringBuilder", name := "ensureCapacityInternal", desc := "(I)V" } : Jvm.MethodName)).before a0 Z = true := hw _ (List.mem_of_getElem? (i := 106) rfl)
theorem wm_AbstractStringBuilder_ensureCapacityInternal_lIrV {a0 : Array Value} {Z : State} (hw : ∀ d ∈ tables_1, d.before a0 Z = true) : (Jvm.Cond.instanceMethod ({ cls := "java/lang/AbstractStringBuilder", name := "ensureCapacityInternal", desc := "(I)V" } : Jvm.MethodName)).before a0 Z = true := hw _ (List.mem_of_getElem? (i := 107) rfl)
theorem wq_AbstractStringBuilder_ensureCapacityInternal_lIrV {a0 : Array Value} {Z : State} (hw : ∀ d ∈ tables_1, d.before a0 Z = true) : (Jvm.Cond.privateMethod ({ cls := "java/lang/AbstractStringBuilder", name := "ensureCapacityInternal", desc := "(I)V" } : Jvm.MethodName)).before a0 Z = true := hw _ (List.mem_of_getElem? (i := 108) rfl)
theorem wv_StringBuilder_AbstractStringBuilder_ensureCapacityInternal_lIrV {a0 : Array Value} {Z : State} (hw : ∀ d ∈ tables_1, d.before a0 Z = true) : (Jvm.Cond.selects "java/lang/StringBuilder" ({ cls := "java/lang/AbstractStringBuilder", name := "ensureCapacityInternal", desc := "(I)V" } : Jvm.MethodName) ({ cls := "java/lang/AbstractStringBuilder", name := "ensureCapacityInternal", desc := "(I)V" } : Jvm.MethodName)).before a0 Z = true := hw _ (List.mem_of_getElem? (i := 109) rfl)
theorem wb_AbstractStringBuilder_ensureCapacityInternal_lIrV {a0 : Array Value} {Z : State} (hw : ∀ d ∈ tables_1, d.before a0 Z = true) : (Jvm.Cond.code ({ cls := "java/lang/AbstractStringBuilder", name := "ensureCapacityInternal", desc := "(I)V" } : Jvm.MethodName) jdk_68_method_9_code (3 : Nat) (Option.none : Option Jvm.ClassFile.FieldType)).before a0 Z = true := hw _ (List.mem_of_getElem? (i := 110) rfl)
theorem wl_AbstractStringBuilder_208 {a0 : Array Value} {Z : State} (hw : ∀ d ∈ tables_1, d.before a0 Z = true) : (Jvm.Cond.methodLink "java/lang/AbstractStringBuilder" (208 : Nat) ({ cls := "java/lang/AbstractStringBuilder", name := "putStringAt", desc := "(ILjava/lang/String;)V" } : Jvm.MethodName)).before a0 Z = true := hw _ (List.mem_of_getElem? (i := 111) rfl)
theorem wm_AbstractStringBuilder_putStringAt_lILjavalangStringrV {a0 : Array Value} {Z : State} (hw : ∀ d ∈ tables_1, d.before a0 Z = true) : (Jvm.Cond.instanceMethod ({ cls := "java/lang/AbstractStringBuilder", name := "putStringAt", desc := "(ILjava/lang/String;)V" } : Jvm.MethodName)).before a0 Z = true := hw _ (List.mem_of_getElem? (i := 112) rfl)
theorem wq_AbstractStringBuilder_putStringAt_lILjavalangStringrV {a0 : Array Value} {Z : State} (hw : ∀ d ∈ tables_1, d.before a0 Z = true) : (Jvm.Cond.privateMethod ({ cls := "java/lang/AbstractStringBuilder", name := "putStringAt", desc := "(ILjava/lang/String;)V" } : Jvm.MethodName)).before a0 Z = true := hw _ (List.mem_of_getElem? (i := 113) rfl)
theorem wv_StringBuilder_AbstractStringBuilder_putStringAt_lILjavalangStringrV {a0 : Array Value} {Z : State} (hw : ∀ d ∈ tables_1, d.before a0 Z = true) : (Jvm.Cond.selects "java/lang/StringBuilder" ({ cls := "java/lang/AbstractStringBuilder", name := "putStringAt", desc := "(ILjava/lang/String;)V" } : Jvm.MethodName) ({ cls := "java/lang/AbstractStringBuilder", name := "putStringAt", desc := "(ILjava/lang/String;)V" } : Jvm.MethodName)).before a0 Z = true := hw _ (List.mem_of_getElem? (i := 114) rfl)
theorem wb_AbstractStringBuilder_putStringAt_lILjavalangStringrV {a0 : Array Value} {Z : State} (hw : ∀ d ∈ tables_1, d.before a0 Z = true) : (Jvm.Cond.code ({ cls := "java/lang/AbstractStringBuilder", name := "putStringAt", desc := "(ILjava/lang/String;)V" } : Jvm.MethodName) jdk_68_method_73_code (3 : Nat) (Option.none : Option Jvm.ClassFile.FieldType)).before a0 Z = true := hw _ (List.mem_of_getElem? (i := 115) rfl)
theorem wl_AbstractStringBuilder_397 {a0 : Array Value} {Z : State} (hw : ∀ d ∈ tables_1, d.before a0 Z = true) : (Jvm.Cond.methodLink "java/lang/AbstractStringBuilder" (397 : Nat) ({ cls := "java/lang/AbstractStringBuilder", name := "inflateIfNeededFor", desc := "(Ljava/lang/String;)V" } : Jvm.MethodName)).before a0 Z = true := hw _ (List.mem_of_getElem? (i := 116) rfl)
theorem wm_AbstractStringBuilder_inflateIfNeededFor_lLjavalangStringrV {a0 : Array Value} {Z : State} (hw : ∀ d ∈ tables_1, d.before a0 Z = true) : (Jvm.Cond.instanceMethod ({ cls := "java/lang/AbstractStringBuilder", name := "inflateIfNeededFor", desc := "(Ljava/lang/String;)V" } : Jvm.MethodName)).before a0 Z = true := hw _ (List.mem_of_getElem? (i := 117) rfl)
theorem wq_AbstractStringBuilder_inflateIfNeededFor_lLjavalangStringrV {a0 : Array Value} {Z : State} (hw : ∀ d ∈ tables_1, d.before a0 Z = true) : (Jvm.Cond.privateMethod ({ cls := "java/lang/AbstractStringBuilder", name := "inflateIfNeededFor", desc := "(Ljava/lang/String;)V" } : Jvm.MethodName)).before a0 Z = true := hw _ (List.mem_of_getElem? (i := 118) rfl)
theorem wv_StringBuilder_AbstractStringBuilder_inflateIfNeededFor_lLjavalangStringrV {a0 : Array Value} {Z : State} (hw : ∀ d ∈ tables_1, d.before a0 Z = true) : (Jvm.Cond.selects "java/lang/StringBuilder" ({ cls := "java/lang/AbstractStringBuilder", name := "inflateIfNeededFor", desc := "(Ljava/lang/String;)V" } : Jvm.MethodName) ({ cls := "java/lang/AbstractStringBuilder", name := "inflateIfNeededFor", desc := "(Ljava/lang/String;)V" } : Jvm.MethodName)).before a0 Z = true := hw _ (List.mem_of_getElem? (i := 119) rfl)
theorem wb_AbstractStringBuilder_inflateIfNeededFor_lLjavalangStringrV {a0 : Array Value} {Z : State} (hw : ∀ d ∈ tables_1, d.before a0 Z = true) : (Jvm.Cond.code ({ cls := "java/lang/AbstractStringBuilder", name := "inflateIfNeededFor", desc := "(Ljava/lang/String;)V" } : Jvm.MethodName) jdk_68_method_71_code (2 : Nat) (Option.none : Option Jvm.ClassFile.FieldType)).before a0 Z = true := hw _ (List.mem_of_getElem? (i := 120) rfl)
theorem wl_AbstractStringBuilder_40 {a0 : Array Value} {Z : State} (hw : ∀ d ∈ tables_1, d.before a0 Z = true) : (Jvm.Cond.methodLink "java/lang/AbstractStringBuilder" (40 : Nat) ({ cls := "java/lang/String", name := "coder", desc := "()B" } : Jvm.MethodName)).before a0 Z = true := hw _ (List.mem_of_getElem? (i := 121) rfl)
theorem wl_AbstractStringBuilder_399 {a0 : Array Value} {Z : State} (hw : ∀ d ∈ tables_1, d.before a0 Z = true) : (Jvm.Cond.methodLink "java/lang/AbstractStringBuilder" (399 : Nat) ({ cls := "java/lang/String", name := "getBytes", desc := "([BIB)V" } : Jvm.MethodName)).before a0 Z = true := hw _ (List.mem_of_getElem? (i := 122) rfl)
theorem wd_String_getBytes_lABIBrV {a0 : Array Value} {Z : State} (hw : ∀ d ∈ tables_1, d.before a0 Z = true) : (Jvm.Cond.declares ({ cls := "java/lang/String", name := "getBytes", desc := "([BIB)V" } : Jvm.MethodName)).before a0 Z = true := hw _ (List.mem_of_getElem? (i := 123) rfl)
theorem wm_String_getBytes_lABIBrV {a0 : Array Value} {Z : State} (hw : ∀ d ∈ tables_1, d.before a0 Z = true) : (Jvm.Cond.instanceMethod ({ cls := "java/lang/String", name := "getBytes", desc := "([BIB)V" } : Jvm.MethodName)).before a0 Z = true := hw _ (List.mem_of_getElem? (i := 124) rfl)
theorem wv_String_String_getBytes_lABIBrV {a0 : Array Value} {Z : State} (hw : ∀ d ∈ tables_1, d.before a0 Z = true) : (Jvm.Cond.selects "java/lang/String" ({ cls := "java/lang/String", name := "getBytes", desc := "([BIB)V" } : Jvm.MethodName) ({ cls := "java/lang/String", name := "getBytes", desc := "([BIB)V" } : Jvm.MethodName)).before a0 Z = true := hw _ (List.mem_of_getElem? (i := 125) rfl)
theorem wb_String_getBytes_lABIBrV {a0 : Array Value} {Z : State} (hw : ∀ d ∈ tables_1, d.before a0 Z = true) : (Jvm.Cond.code ({ cls := "java/lang/String", name := "getBytes", desc := "([BIB)V" } : Jvm.MethodName) jdk_42_method_147_code (4 : Nat) (Option.none : Option Jvm.ClassFile.FieldType)).before a0 Z = true := hw _ (List.mem_of_getElem? (i := 126) rfl)
theorem wl_String_212 {a0 : Array Value} {Z : State} (hw : ∀ d ∈ tables_1, d.before a0 Z = true) : (Jvm.Cond.methodLink "java/lang/String" (212 : Nat) ({ cls := "java/lang/System", name := "arraycopy", desc := "(Ljava/lang/Object;ILjava/lang/Object;II)V" } : Jvm.MethodName)).before a0 Z = true := hw _ (List.mem_of_getElem? (i := 127) rfl)
theorem ws_System_arraycopy_lLjavalangObjectILjavalangObjectIIrV {a0 : Array Value} {Z : State} (hw : ∀ d ∈ tables_1, d.before a0 Z = true) : (Jvm.Cond.static ({ cls := "java/lang/System", name := "arraycopy", desc := "(Ljava/lang/Object;ILjava/lang/Object;II)V" } : Jvm.MethodName)).before a0 Z = true := hw _ (List.mem_of_getElem? (i := 128) rfl)
theorem wi_System {a0 : Array Value} {Z : State} (hw : ∀ d ∈ tables_1, d.before a0 Z = true) : (Jvm.Cond.initialized "java/lang/System").before a0 Z = true := hw _ (List.mem_of_getElem? (i := 129) rfl)
theorem wn_System_arraycopy_lLjavalangObjectILjavalangObjectIIrV {a0 : Array Value} {Z : State} (hw : ∀ d ∈ tables_1, d.before a0 Z = true) : (Jvm.Cond.native ({ cls := "java/lang/System", name := "arraycopy", desc := "(Ljava/lang/Object;ILjava/lang/Object;II)V" } : Jvm.MethodName)).before a0 Z = true := hw _ (List.mem_of_getElem? (i := 130) rfl)
theorem wt_Definitions_162 {a0 : Array Value} {Z : State} (hw : ∀ d ∈ tables_1, d.before a0 Z = true) : (Jvm.Cond.stringLink "wirefold/Definitions" (162 : Nat) ": the definitions are fixed once the factory post-processors have run").before a0 Z = true := hw _ (List.mem_of_getElem? (i := 131) rfl)
theorem wl_AbstractStringBuilder_104 {a0 : Array Value} {Z : State} (hw : ∀ d ∈ tables_1, d.before a0 Z = true) : (Jvm.Cond.methodLink "java/lang/AbstractStringBuilder" (104 : Nat) ({ cls := "java/lang/AbstractStringBuilder", name := "newCapacity", desc := "(I)I" } : Jvm.MethodName)).before a0 Z = true := hw _ (List.mem_of_getElem? (i := 132) rfl)
theorem wm_AbstractStringBuilder_newCapacity_lIrI {a0 : Array Value} {Z : State} (hw : ∀ d ∈ tables_1, d.before a0 Z = true) : (Jvm.Cond.instanceMethod ({ cls := "java/lang/AbstractStringBuilder", name := "newCapacity", desc := "(I)I" } : Jvm.MethodName)).before a0 Z = true := hw _ (List.mem_of_getElem? (i := 133) rfl)
theorem wq_AbstractStringBuilder_newCapacity_lIrI {a0 : Array Value} {Z : State} (hw : ∀ d ∈ tables_1, d.before a0 Z = true) : (Jvm.Cond.privateMethod ({ cls := "java/lang/AbstractStringBuilder", name := "newCapacity", desc := "(I)I" } : Jvm.MethodName)).before a0 Z = true := hw _ (List.mem_of_getElem? (i := 134) rfl)
theorem wv_StringBuilder_AbstractStringBuilder_newCapacity_lIrI {a0 : Array Value} {Z : State} (hw : ∀ d ∈ tables_1, d.before a0 Z = true) : (Jvm.Cond.selects "java/lang/StringBuilder" ({ cls := "java/lang/AbstractStringBuilder", name := "newCapacity", desc := "(I)I" } : Jvm.MethodName) ({ cls := "java/lang/AbstractStringBuilder", name := "newCapacity", desc := "(I)I" } : Jvm.MethodName)).before a0 Z = true := hw _ (List.mem_of_getElem? (i := 135) rfl)
theorem wb_AbstractStringBuilder_newCapacity_lIrI {a0 : Array Value} {Z : State} (hw : ∀ d ∈ tables_1, d.before a0 Z = true) : (Jvm.Cond.code ({ cls := "java/lang/AbstractStringBuilder", name := "newCapacity", desc := "(I)I" } : Jvm.MethodName) jdk_68_method_10_code (6 : Nat) (Option.some Jvm.ClassFile.FieldType.int)).before a0 Z = true := hw _ (List.mem_of_getElem? (i := 136) rfl)
theorem wl_AbstractStringBuilder_114 {a0 : Array Value} {Z : State} (hw : ∀ d ∈ tables_1, d.before a0 Z = true) : (Jvm.Cond.methodLink "java/lang/AbstractStringBuilder" (114 : Nat) ({ cls := "jdk/internal/util/ArraysSupport", name := "newLength", desc := "(III)I" } : Jvm.MethodName)).before a0 Z = true := hw _ (List.mem_of_getElem? (i := 137) rfl)
theorem ws_ArraysSupport_newLength_lIIIrI {a0 : Array Value} {Z : State} (hw : ∀ d ∈ tables_1, d.before a0 Z = true) : (Jvm.Cond.static ({ cls := "jdk/internal/util/ArraysSupport", name := "newLength", desc := "(III)I" } : Jvm.MethodName)).before a0 Z = true := hw _ (List.mem_of_getElem? (i := 138) rfl)
theorem wi_ArraysSupport {a0 : Array Value} {Z : State} (hw : ∀ d ∈ tables_1, d.before a0 Z = true) : (Jvm.Cond.initialized "jdk/internal/util/ArraysSupport").before a0 Z = true := hw _ (List.mem_of_getElem? (i := 139) rfl)
theorem wb_ArraysSupport_newLength_lIIIrI {a0 : Array Value} {Z : State} (hw : ∀ d ∈ tables_1, d.before a0 Z = true) : (Jvm.Cond.code ({ cls := "jdk/internal/util/ArraysSupport", name := "newLength", desc := "(III)I" } : Jvm.MethodName) jdk_48_method_27_code (4 : Nat) (Option.some Jvm.ClassFile.FieldType.int)).before a0 Z = true := hw _ (List.mem_of_getElem? (i := 140) rfl)
theorem wl_ArraysSupport_194 {a0 : Array Value} {Z : State} (hw : ∀ d ∈ tables_1, d.before a0 Z = true) : (Jvm.Cond.methodLink "jdk/internal/util/ArraysSupport" (194 : Nat) ({ cls := "java/lang/Math", name := "max", desc := "(II)I" } : Jvm.MethodName)).before a0 Z = true := hw _ (List.mem_of_getElem? (i := 141) rfl)
theorem ws_Math_max_lIIrI {a0 : Array Value} {Z : State} (hw : ∀ d ∈ tables_1, d.before a0 Z = true) : (Jvm.Cond.static ({ cls := "java/lang/Math", name := "max", desc := "(II)I" } : Jvm.MethodName)).before a0 Z = true := hw _ (List.mem_of_getElem? (i := 142) rfl)
theorem wi_Math {a0 : Array Value} {Z : State} (hw : ∀ d ∈ tables_1, d.before a0 Z = true) : (Jvm.Cond.initialized "java/lang/Math").before a0 Z = true := hw _ (List.mem_of_getElem? (i := 143) rfl)
theorem wb_Math_max_lIIrI {a0 : Array Value} {Z : State} (hw : ∀ d ∈ tables_1, d.before a0 Z = true) : (Jvm.Cond.code ({ cls := "java/lang/Math", name := "max", desc := "(II)I" } : Jvm.MethodName) jdk_29_method_65_code (2 : Nat) (Option.some Jvm.ClassFile.FieldType.int)).before a0 Z = true := hw _ (List.mem_of_getElem? (i := 144) rfl)
theorem wk_ArraysSupport_200 {a0 : Array Value} {Z : State} (hw : ∀ d ∈ tables_1, d.before a0 Z = true) : (Jvm.Cond.constant "jdk/internal/util/ArraysSupport" (200 : Nat) (2147483639 : Int32)).before a0 Z = true := hw _ (List.mem_of_getElem? (i := 145) rfl)
theorem wk_AbstractStringBuilder_39 {a0 : Array Value} {Z : State} (hw : ∀ d ∈ tables_1, d.before a0 Z = true) : (Jvm.Cond.constant "java/lang/AbstractStringBuilder" (39 : Nat) (2147483647 : Int32)).before a0 Z = true := hw _ (List.mem_of_getElem? (i := 146) rfl)
theorem wl_AbstractStringBuilder_108 {a0 : Array Value} {Z : State} (hw : ∀ d ∈ tables_1, d.before a0 Z = true) : (Jvm.Cond.methodLink "java/lang/AbstractStringBuilder" (108 : Nat) ({ cls := "java/util/Arrays", name := "copyOf", desc := "([BI)[B" } : Jvm.MethodName)).before a0 Z = true := hw _ (List.mem_of_getElem? (i := 147) rfl)
theorem ws_Arrays_copyOf_lABIrAB {a0 : Array Value} {Z : State} (hw : ∀ d ∈ tables_1, d.before a0 Z = true) : (Jvm.Cond.static ({ cls := "java/util/Arrays", name := "copyOf", desc := "([BI)[B" } : Jvm.MethodName)).before a0 Z = true := hw _ (List.mem_of_getElem? (i := 148) rfl)
theorem wi_Arrays {a0 : Array Value} {Z : State} (hw : ∀ d ∈ tables_1, d.before a0 Z = true) : (Jvm.Cond.initialized "java/util/Arrays").before a0 Z = true := hw _ (List.mem_of_getElem? (i := 149) rfl)
theorem wb_Arrays_copyOf_lABIrAB {a0 : Array Value} {Z : State} (hw : ∀ d ∈ tables_1, d.before a0 Z = true) : (Jvm.Cond.code ({ cls := "java/util/Arrays", name := "copyOf", desc := "([BI)[B" } : Jvm.MethodName) jdk_65_method_121_code (3 : Nat) (Option.some (Jvm.ClassFile.FieldType.array Jvm.ClassFile.FieldType.byte))).before a0 Z = true := hw _ (List.mem_of_getElem? (i := 150) rfl)
theorem wl_Arrays_304 {a0 : Array Value} {Z : State} (hw : ∀ d ∈ tables_1, d.before a0 Z = true) : (Jvm.Cond.methodLink "java/util/Arrays" (304 : Nat) ({ cls := "java/lang/Math", name := "min", desc := "(II)I" } : Jvm.MethodName)).before a0 Z = true := hw _ (List.mem_of_getElem? (i := 151) rfl)
theorem ws_Math_min_lIIrI {a0 : Array Value} {Z : State} (hw : ∀ d ∈ tables_1, d.before a0 Z = true) : (Jvm.Cond.static ({ cls := "java/lang/Math", name := "min", desc := "(II)I" } : Jvm.MethodName)).before a0 Z = true := hw _ (List.mem_of_getElem? (i := 152) rfl)
theorem wb_Math_min_lIIrI {a0 : Array Value} {Z : State} (hw : ∀ d ∈ tables_1, d.before a0 Z = true) : (Jvm.Cond.code ({ cls := "java/lang/Math", name := "min", desc := "(II)I" } : Jvm.MethodName) jdk_29_method_69_code (2 : Nat) (Option.some Jvm.ClassFile.FieldType.int)).before a0 Z = true := hw _ (List.mem_of_getElem? (i := 153) rfl)
theorem wl_Arrays_150 {a0 : Array Value} {Z : State} (hw : ∀ d ∈ tables_1, d.before a0 Z = true) : (Jvm.Cond.methodLink "java/util/Arrays" (150 : Nat) ({ cls := "java/lang/System", name := "arraycopy", desc := "(Ljava/lang/Object;ILjava/lang/Object;II)V" } : Jvm.MethodName)).before a0 Z = true := hw _ (List.mem_of_getElem? (i := 154) rfl)
theorem wl_Definitions_64 {a0 : Array Value} {Z : State} (hw : ∀ d ∈ tables_1, d.before a0 Z = true) : (Jvm.Cond.methodLink "wirefold/Definitions" (64 : Nat) ({ cls := "java/lang/StringBuilder", name := "toString", desc := "()Ljava/lang/String;" } : Jvm.MethodName)).before a0 Z = true := hw _ (List.mem_of_getElem? (i := 155) rfl)
theorem wd_StringBuilder_toString_lrLjavalangString {a0 : Array Value} {Z : State} (hw : ∀ d ∈ tables_1, d.before a0 Z = true) : (Jvm.Cond.declares ({ cls := "java/lang/StringBuilder", name := "toString", desc := "()Ljava/lang/String;" } : Jvm.MethodName)).before a0 Z = true := hw _ (List.mem_of_getElem? (i := 156) rfl)
theorem wm_StringBuilder_toString_lrLjavalangString {a0 : Array Value} {Z : State} (hw : ∀ d ∈ tables_1, d.before a0 Z = true) : (Jvm.Cond.instanceMethod ({ cls := "java/lang/StringBuilder", name := "toString", desc := "()Ljava/lang/String;" } : Jvm.MethodName)).before a0 Z = true := hw _ (List.mem_of_getElem? (i := 157) rfl)
theorem wv_StringBuilder_StringBuilder_toString_lrLjavalangString {a0 : Array Value} {Z : State} (hw : ∀ d ∈ tables_1, d.before a0 Z = true) : (Jvm.Cond.selects "java/lang/StringBuilder" ({ cls := "java/lang/StringBuilder", name := "toString", desc := "()Ljava/lang/String;" } : Jvm.MethodName) ({ cls := "java/lang/StringBuilder", name := "toString", desc := "()Ljava/lang/String;" } : Jvm.MethodName)).before a0 Z = true := hw _ (List.mem_of_getElem? (i := 158) rfl)
theorem wb_StringBuilder_toString_lrLjavalangString {a0 : Array Value} {Z : State} (hw : ∀ d ∈ tables_1, d.before a0 Z = true) : (Jvm.Cond.code ({ cls := "java/lang/StringBuilder", name := "toString", desc := "()Ljava/lang/String;" } : Jvm.MethodName) jdk_67_method_42_code (1 : Nat) (Option.some (Jvm.ClassFile.FieldType.object "java/lang/String"))).before a0 Z = true := hw _ (List.mem_of_getElem? (i := 159) rfl)
theorem wc_StringBuilder_18 {a0 : Array Value} {Z : State} (hw : ∀ d ∈ tables_1, d.before a0 Z = true) : (Jvm.Cond.classLink "java/lang/StringBuilder" (18 : Nat) "java/lang/String").before a0 Z = true := hw _ (List.mem_of_getElem? (i := 160) rfl)
theorem wl_StringBuilder_137 {a0 : Array Value} {Z : State} (hw : ∀ d ∈ tables_1, d.before a0 Z = true) : (Jvm.Cond.methodLink "java/lang/StringBuilder" (137 : Nat) ({ cls := "java/lang/String", name := "<init>", desc := "(Ljava/lang/StringBuilder;)V" } : Jvm.MethodName)).before a0 Z = true := hw _ (List.mem_of_getElem? (i := 161) rfl)
theorem wm_String_init_lLjavalangStringBuilderrV {a0 : Array Value} {Z : State} (hw : ∀ d ∈ tables_1, d.before a0 Z = true) : (Jvm.Cond.instanceMethod ({ cls := "java/lang/String", name := "<init>", desc := "(Ljava/lang/StringBuilder;)V" } : Jvm.MethodName)).before a0 Z = true := hw _ (List.mem_of_getElem? (i := 162) rfl)
theorem wb_String_init_lLjavalangStringBuilderrV {a0 : Array Value} {Z : State} (hw : ∀ d ∈ tables_1, d.before a0 Z = true) : (Jvm.Cond.code ({ cls := "java/lang/String", name := "<init>", desc := "(Ljava/lang/StringBuilder;)V" } : Jvm.MethodName) jdk_42_method_53_code (2 : Nat) (Option.none : Option Jvm.ClassFile.FieldType)).before a0 Z = true := hw _ (List.mem_of_getElem? (i := 163) rfl)
theorem wl_String_489 {a0 : Array Value} {Z : State} (hw : ∀ d ∈ tables_1, d.before a0 Z = true) : (Jvm.Cond.methodLink "java/lang/String" (489 : Nat) ({ cls := "java/lang/String", name := "<init>", desc := "(Ljava/lang/AbstractStringBuilder;Ljava/lang/Void;)V" } : Jvm.MethodName)).before a0 Z = true := hw _ (List.mem_of_getElem? (i := 164) rfl)
theorem wm_String_init_lLjavalangAbstractStringBuilderLjavalangVoidrV {a0 : Array Value} {Z : State} (hw : ∀ d ∈ tables_1, d.before a0 Z = true) : (Jvm.Cond.instanceMethod ({ cls := "java/lang/String", name := "<init>", desc := "(Ljava/lang/AbstractStringBuilder;Ljava/lang/Void;)V" } : Jvm.MethodName)).before a0 Z = true := hw _ (List.mem_of_getElem? (i := 165) rfl)
theorem wb_String_init_lLjavalangAbstractStringBuilderLjavalangVoidrV {a0 : Array Value} {Z : State} (hw : ∀ d ∈ tables_1, d.before a0 Z = true) : (Jvm.Cond.code ({ cls := "java/lang/String", name := "<init>", desc := "(Ljava/lang/AbstractStringBuilder;Ljava/lang/Void;)V" } : Jvm.MethodName) jdk_42_method_150_code (5 : Nat) (Option.none : Option Jvm.ClassFile.FieldType)).before a0 Z = true := hw _ (List.mem_of_getElem? (i := 166) rfl)
theorem wl_String_552 {a0 : Array Value} {Z : State} (hw : ∀ d ∈ tables_1, d.before a0 Z = true) : (Jvm.Cond.methodLink "java/lang/String" (552 : Nat) ({ cls := "java/lang/AbstractStringBuilder", name := "getValue", desc := "()[B" } : Jvm.MethodName)).before a0 Z = true := hw _ (List.mem_of_getElem? (i := 167) rfl)
theorem wd_AbstractStringBuilder_getValue_lrAB {a0 : Array Value} {Z : State} (hw : ∀ d ∈ tables_1, d.before a0 Z = true) : (Jvm.Cond.declares ({ cls := "java/lang/AbstractStringBuilder", name := "getValue", desc := "()[B" } : Jvm.MethodName)).before a0 Z = true := hw _ (List.mem_of_getElem? (i := 168) rfl)
theorem wm_AbstractStringBuilder_getValue_lrAB {a0 : Array Value} {Z : State} (hw : ∀ d ∈ tables_1, d.before a0 Z = true) : (Jvm.Cond.instanceMethod ({ cls := "java/lang/AbstractStringBuilder", name := "getValue", desc := "()[B" } : Jvm.MethodName)).before a0 Z = true := hw _ (List.mem_of_getElem? (i := 169) rfl)
theorem wv_StringBuilder_AbstractStringBuilder_getValue_lrAB {a0 : Array Value} {Z : State} (hw : ∀ d ∈ tables_1, d.before a0 Z = true) : (Jvm.Cond.selects "java/lang/StringBuilder" ({ cls := "java/lang/AbstractStringBuilder", name := "getValue", desc := "()[B" } : Jvm.MethodName) ({ cls := "java/lang/AbstractStringBuilder", name := "getValue", desc := "()[B" } : Jvm.MethodName)).before a0 Z = true := hw _ (List.mem_of_getElem? (i := 170) rfl)
theorem wb_AbstractStringBuilder_getValue_lrAB {a0 : Array Value} {Z : State} (hw : ∀ d ∈ tables_1, d.before a0 Z = true) : (Jvm.Cond.code ({ cls := "java/lang/AbstractStringBuilder", name := "getValue", desc := "()[B" } : Jvm.MethodName) jdk_68_method_64_code (1 : Nat) (Option.some (Jvm.ClassFile.FieldType.array Jvm.ClassFile.FieldType.byte))).before a0 Z = true := hw _ (List.mem_of_getElem? (i := 171) rfl)
theorem wl_String_549 {a0 : Array Value} {Z : State} (hw : ∀ d ∈ tables_1, d.before a0 Z = true) : (Jvm.Cond.methodLink "java/lang/String" (549 : Nat) ({ cls := "java/lang/AbstractStringBuilder", name := "length", desc := "()I" } : Jvm.MethodName)).before a0 Z = true := hw _ (List.mem_of_getElem? (i := 172) rfl)
theorem wd_AbstractStringBuilder_length_lrI {a0 : Array Value} {Z : State} (hw : ∀ d ∈ tables_1, d.before a0 Z = true) : (Jvm.Cond.declares ({ cls := "java/lang/AbstractStringBuilder", name := "length", desc := "()I" } : Jvm.MethodName)).before a0 Z = true := hw _ (List.mem_of_getElem? (i := 173) rfl)
theorem wm_AbstractStringBuilder_length_lrI {a0 : Array Value} {Z : State} (hw : ∀ d ∈ tables_1, d.before a0 Z = true) : (Jvm.Cond.instanceMethod ({ cls := "java/lang/AbstractStringBuilder", name := "length", desc := "()I" } : Jvm.MethodName)).before a0 Z = true := hw _ (List.mem_of_getElem? (i := 174) rfl)
theorem wv_StringBuilder_AbstractStringBuilder_length_lrI {a0 : Array Value} {Z : State} (hw : ∀ d ∈ tables_1, d.before a0 Z = true) : (Jvm.Cond.selects "java/lang/StringBuilder" ({ cls := "java/lang/AbstractStringBuilder", name := "length", desc := "()I" } : Jvm.MethodName) ({ cls := "java/lang/StringBuilder", name := "length", desc := "()I" } : Jvm.MethodName)).before a0 Z = true := hw _ (List.mem_of_getElem? (i := 175) rfl)
theorem wm_StringBuilder_length_lrI {a0 : Array Value} {Z : State} (hw : ∀ d ∈ tables_1, d.before a0 Z = true) : (Jvm.Cond.instanceMethod ({ cls := "java/lang/StringBuilder", name := "length", desc := "()I" } : Jvm.MethodName)).before a0 Z = true := hw _ (List.mem_of_getElem? (i := 176) rfl)
theorem wb_StringBuilder_length_lrI {a0 : Array Value} {Z : State} (hw : ∀ d ∈ tables_1, d.before a0 Z = true) : (Jvm.Cond.code ({ cls := "java/lang/StringBuilder", name := "length", desc := "()I" } : Jvm.MethodName) jdk_67_method_93_code (1 : Nat) (Option.some Jvm.ClassFile.FieldType.int)).before a0 Z = true := hw _ (List.mem_of_getElem? (i := 177) rfl)
theorem wl_StringBuilder_343 {a0 : Array Value} {Z : State} (hw : ∀ d ∈ tables_1, d.before a0 Z = true) : (Jvm.Cond.methodLink "java/lang/StringBuilder" (343 : Nat) ({ cls := "java/lang/AbstractStringBuilder", name := "length", desc := "()I" } : Jvm.MethodName)).before a0 Z = true := hw _ (List.mem_of_getElem? (i := 178) rfl)
theorem wb_AbstractStringBuilder_length_lrI {a0 : Array Value} {Z : State} (hw : ∀ d ∈ tables_1, d.before a0 Z = true) : (Jvm.Cond.code ({ cls := "java/lang/AbstractStringBuilder", name := "length", desc := "()I" } : Jvm.MethodName) jdk_68_method_6_code (1 : Nat) (Option.some Jvm.ClassFile.FieldType.int)).before a0 Z = true := hw _ (List.mem_of_getElem? (i := 179) rfl)
theorem wl_String_1047 {a0 : Array Value} {Z : State} (hw : ∀ d ∈ tables_1, d.before a0 Z = true) : (Jvm.Cond.methodLink "java/lang/String" (1047 : Nat) ({ cls := "java/lang/AbstractStringBuilder", name := "isLatin1", desc := "()Z" } : Jvm.MethodName)).before a0 Z = true := hw _ (List.mem_of_getElem? (i := 180) rfl)
theorem wd_AbstractStringBuilder_isLatin1_lrZ {a0 : Array Value} {Z : State} (hw : ∀ d ∈ tables_1, d.before a0 Z = true) : (Jvm.Cond.declares ({ cls := "java/lang/AbstractStringBuilder", name := "isLatin1", desc := "()Z" } : Jvm.MethodName)).before a0 Z = true := hw _ (List.mem_of_getElem? (i := 181) rfl)
theorem wm_AbstractStringBuilder_isLatin1_lrZ {a0 : Array Value} {Z : State} (hw : ∀ d ∈ tables_1, d.before a0 Z = true) : (Jvm.Cond.instanceMethod ({ cls := "java/lang/AbstractStringBuilder", name := "isLatin1", desc := "()Z" } : Jvm.MethodName)).before a0 Z = true := hw _ (List.mem_of_getElem? (i := 182) rfl)
theorem wv_StringBuilder_AbstractStringBuilder_isLatin1_lrZ {a0 : Array Value} {Z : State} (hw : ∀ d ∈ tables_1, d.before a0 Z = true) : (Jvm.Cond.selects "java/lang/StringBuilder" ({ cls := "java/lang/AbstractStringBuilder", name := "isLatin1", desc := "()Z" } : Jvm.MethodName) ({ cls := "java/lang/AbstractStringBuilder", name := "isLatin1", desc := "()Z" } : Jvm.MethodName)).before a0 Z = true := hw _ (List.mem_of_getElem? (i := 183) rfl)
theorem wb_AbstractStringBuilder_isLatin1_lrZ {a0 : Array Value} {Z : State} (hw : ∀ d ∈ tables_1, d.before a0 Z = true) : (Jvm.Cond.code ({ cls := "java/lang/AbstractStringBuilder", name := "isLatin1", desc := "()Z" } : Jvm.MethodName) jdk_68_method_68_code (1 : Nat) (Option.some Jvm.ClassFile.FieldType.boolean)).before a0 Z = true := hw _ (List.mem_of_getElem? (i := 184) rfl)
theorem wl_String_54 {a0 : Array Value} {Z : State} (hw : ∀ d ∈ tables_1, d.before a0 Z = true) : (Jvm.Cond.methodLink "java/lang/String" (54 : Nat) ({ cls := "java/util/Arrays", name := "copyOfRange", desc := "([BII)[B" } : Jvm.MethodName)).before a0 Z = true := hw _ (List.mem_of_getElem? (i := 185) rfl)
theorem ws_Arrays_copyOfRange_lABIIrAB {a0 : Array Value} {Z : State} (hw : ∀ d ∈ tables_1, d.before a0 Z = true) : (Jvm.Cond.static ({ cls := "java/util/Arrays", name := "copyOfRange", desc := "([BII)[B" } : Jvm.MethodName)).before a0 Z = true := hw _ (List.mem_of_getElem? (i := 186) rfl)
theorem wb_Arrays_copyOfRange_lABIIrAB {a0 : Array Value} {Z : State} (hw : ∀ d ∈ tables_1, d.before a0 Z = true) : (Jvm.Cond.code ({ cls := "java/util/Arrays", name := "copyOfRange", desc := "([BII)[B" } : Jvm.MethodName) jdk_65_method_132_code (3 : Nat) (Option.some (Jvm.ClassFile.FieldType.array Jvm.ClassFile.FieldType.byte))).before a0 Z = true := hw _ (List.mem_of_getElem? (i := 187) rfl)
theorem wl_Arrays_310 {a0 : Array Value} {Z : State} (hw : ∀ d ∈ tables_1, d.before a0 Z = true) : (Jvm.Cond.methodLink "java/util/Arrays" (310 : Nat) ({ cls := "[B", name := "clone", desc := "()Ljava/lang/Object;" } : Jvm.MethodName)).before a0 Z = true := hw _ (List.mem_of_getElem? (i := 188) rfl)
theorem wr_AB_Object_clone {a0 : Array Value} {Z : State} (hw : ∀ d ∈ tables_1, d.before a0 Z = true) : (Jvm.Cond.sameMethod "[B" "java/lang/Object" "clone" "()Ljava/lang/Object;").before a0 Z = true := hw _ (List.mem_of_getElem? (i := 189) rfl)
theorem wd_Object_clone_lrLjavalangObject {a0 : Array Value} {Z : State} (hw : ∀ d ∈ tables_1, d.before a0 Z = true) : (Jvm.Cond.declares ({ cls := "java/lang/Object", name := "clone", desc := "()Ljava/lang/Object;" } : Jvm.MethodName)).before a0 Z = true := hw _ (List.mem_of_getElem? (i := 190) rfl)
theorem wm_Object_clone_lrLjavalangObject {a0 : Array Value} {Z : State} (hw : ∀ d ∈ tables_1, d.before a0 Z = true) : (Jvm.Cond.instanceMethod ({ cls := "java/lang/Object", name := "clone", desc := "()Ljava/lang/Object;" } : Jvm.MethodName)).before a0 Z = true := hw _ (List.mem_of_getElem? (i := 191) rfl)
theorem wv_AB_AB_clone_lrLjavalangObject {a0 : Array Value} {Z : State} (hw : ∀ d ∈ tables_1, d.before a0 Z = true) : (Jvm.Cond.selects "[B" ({ cls := "[B", name := "clone", desc := "()Ljava/lang/Object;" } : Jvm.MethodName) ({ cls := "java/lang/Object", name := "clone", desc := "()Ljava/lang/Object;" } : Jvm.MethodName)).before a0 Z = true := hw _ (List.mem_of_getElem? (i := 192) rfl)
theorem wn_Object_clone_lrLjavalangObject {a0 : Array Value} {Z : State} (hw : ∀ d ∈ tables_1, d.before a0 Z = true) : (Jvm.Cond.native ({ cls := "java/lang/Object", name := "clone", desc := "()Ljava/lang/Object;" } : Jvm.MethodName)).before a0 Z = true := hw _ (List.mem_of_getElem? (i := 193) rfl)
theorem wx_AB_Cloneable {a0 : Array Value} {Z : State} (hw : ∀ d ∈ tables_1, d.before a0 Z = true) : (Jvm.Cond.castable "[B" "java/lang/Cloneable").before a0 Z = true := hw _ (List.mem_of_getElem? (i := 194) rfl)
theorem wc_Arrays_311 {a0 : Array Value} {Z : State} (hw : ∀ d ∈ tables_1, d.before a0 Z = true) : (Jvm.Cond.classLink "java/util/Arrays" (311 : Nat) "[B").before a0 Z = true := hw _ (List.mem_of_getElem? (i := 195) rfl)
theorem wx_AB_AB {a0 : Array Value} {Z : State} (hw : ∀ d ∈ tables_1, d.before a0 Z = true) : (Jvm.Cond.castable "[B" "[B").before a0 Z = true := hw _ (List.mem_of_getElem? (i := 196) rfl)
theorem wl_Definitions_113 {a0 : Array Value} {Z : State} (hw : ∀ d ∈ tables_1, d.before a0 Z = true) : (Jvm.Cond.methodLink "wirefold/Definitions" (113 : Nat) ({ cls := "java/lang/IllegalStateException", name := "<init>", desc := "(Ljava/lang/String;)V" } : Jvm.MethodName)).before a0 Z = true := hw _ (List.mem_of_getElem? (i := 197) rfl)
theorem wm_IllegalStateException_init_lLjavalangStringrV {a0 : Array Value} {Z : State} (hw : ∀ d ∈ tables_1, d.before a0 Z = true) : (Jvm.Cond.instanceMethod ({ cls := "java/lang/IllegalStateException", name := "<init>", desc := "(Ljava/lang/String;)V" } : Jvm.MethodName)).before a0 Z = true := hw _ (List.mem_of_getElem? (i := 198) rfl)
theorem wb_IllegalStateException_init_lLjavalangStringrV {a0 : Array Value} {Z : State} (hw : ∀ d ∈ tables_1, d.before a0 Z = true) : (Jvm.Cond.code ({ cls := "java/lang/IllegalStateException", name := "<init>", desc := "(Ljava/lang/String;)V" } : Jvm.MethodName) jdk_60_method_2_code (2 : Nat) (Option.none : Option Jvm.ClassFile.FieldType)).before a0 Z = true := hw _ (List.mem_of_getElem? (i := 199) rfl)
theorem wl_IllegalStateException_7 {a0 : Array Value} {Z : State} (hw : ∀ d ∈ tables_1, d.before a0 Z = true) : (Jvm.Cond.methodLink "java/lang/IllegalStateException" (7 : Nat) ({ cls := "java/lang/RuntimeException", name := "<init>", desc := "(Ljava/lang/String;)V" } : Jvm.MethodName)).before a0 Z = true := hw _ (List.mem_of_getElem? (i := 200) rfl)
theorem wm_RuntimeException_init_lLjavalangStringrV {a0 : Array Value} {Z : State} (hw : ∀ d ∈ tables_1, d.before a0 Z = true) : (Jvm.Cond.instanceMethod ({ cls := "java/lang/RuntimeException", name := "<init>", desc := "(Ljava/lang/String;)V" } : Jvm.MethodName)).before a0 Z = true := hw _ (List.mem_of_getElem? (i := 201) rfl)
theorem wd_RuntimeException_init_lLjavalangStringrV {a0 : Array Value} {Z : State} (hw : ∀ d ∈ tables_1, d.before a0 Z = true) : (Jvm.Cond.declares ({ cls := "java/lang/RuntimeException", name := "<init>", desc := "(Ljava/lang/String;)V" } : Jvm.MethodName)).before a0 Z = true := hw _ (List.mem_of_getElem? (i := 202) rfl)
theorem wx_IllegalStateException_RuntimeException {a0 : Array Value} {Z : State} (hw : ∀ d ∈ tables_1, d.before a0 Z = true) : (Jvm.Cond.castable "java/lang/IllegalStateException" "java/lang/RuntimeException").before a0 Z = true := hw _ (List.mem_of_getElem? (i := 203) rfl)
theorem wi_RuntimeException {a0 : Array Value} {Z : State} (hw : ∀ d ∈ tables_1, d.before a0 Z = true) : (Jvm.Cond.initialized "java/lang/RuntimeException").before a0 Z = true := hw _ (List.mem_of_getElem? (i := 204) rfl)
theorem wb_RuntimeException_init_lLjavalangStringrV {a0 : Array Value} {Z : State} (hw : ∀ d ∈ tables_1, d.before a0 Z = true) : (Jvm.Cond.code ({ cls := "java/lang/RuntimeException", name := "<init>", desc := "(Ljava/lang/String;)V" } : Jvm.MethodName) jdk_58_method_2_code (2 : Nat) (Option.none : Option Jvm.ClassFile.FieldType)).before a0 Z = true := hw _ (List.mem_of_getElem? (i := 205) rfl)
theorem wl_RuntimeException_7 {a0 : Array Value} {Z : State} (hw : ∀ d ∈ tables_1, d.before a0 Z = true) : (Jvm.Cond.methodLink "java/lang/RuntimeException" (7 : Nat) ({ cls := "java/lang/Exception", name := "<init>", desc := "(Ljava/lang/String;)V" } : Jvm.MethodName)).before a0 Z = true := hw _ (List.mem_of_getElem? (i := 206) rfl)
theorem wm_Exception_init_lLjavalangStringrV {a0 : Array Value} {Z : State} (hw : ∀ d ∈ tables_1, d.before a0 Z = true) : (Jvm.Cond.instanceMethod ({ cls := "java/lang/Exception", name := "<init>", desc := "(Ljava/lang/String;)V" } : Jvm.MethodName)).before a0 Z = true := hw _ (List.mem_of_getElem? (i := 207) rfl)
theorem wd_Exception_init_lLjavalangStringrV {a0 : Array Value} {Z : State} (hw : ∀ d ∈ tables_1, d.before a0 Z = true) : (Jvm.Cond.declares ({ cls := "java/lang/Exception", name := "<init>", desc := "(Ljava/lang/String;)V" } : Jvm.MethodName)).before a0 Z = true := hw _ (List.mem_of_getElem? (i := 208) rfl)
theorem wx_IllegalStateException_Exception {a0 : Array Value} {Z : State} (hw : ∀ d ∈ tables_1, d.before a0 Z = true) : (Jvm.Cond.castable "java/lang/IllegalStateException" "java/lang/Exception").before a0 Z = true := hw _ (List.mem_of_getElem? (i := 209) rfl)
theorem wi_Exception {a0 : Array Value} {Z : State} (hw : ∀ d ∈ tables_1, d.before a0 Z = true) : (Jvm.Cond.initialized "java/lang/Exception").before a0 Z = true := hw _ (List.mem_of_getElem? (i := 210) rfl)
theorem wb_Exception_init_lLjavalangStringrV {a0 : Array Value} {Z : State} (hw : ∀ d ∈ tables_1, d.before a0 Z = true) : (Jvm.Cond.code ({ cls := "java/lang/Exception", name := "<init>", desc := "(Ljava/lang/String;)V" } : Jvm.MethodName) jdk_59_method_2_code (2 : Nat) (Option.none : Option Jvm.ClassFile.FieldType)).before a0 Z = true := hw _ (List.mem_of_getElem? (i := 211) rfl)
theorem wl_Exception_7 {a0 : Array Value} {Z : State} (hw : ∀ d ∈ tables_1, d.before a0 Z = true) : (Jvm.Cond.methodLink "java/lang/Exception" (7 : Nat) ({ cls := "java/lang/Throwable", name := "<init>", desc := "(Ljava/lang/String;)V" } : Jvm.MethodName)).before a0 Z = true := hw _ (List.mem_of_getElem? (i := 212) rfl)
theorem wm_Throwable_init_lLjavalangStringrV {a0 : Array Value} {Z : State} (hw : ∀ d ∈ tables_1, d.before a0 Z = true) : (Jvm.Cond.instanceMethod ({ cls := "java/lang/Throwable", name := "<init>", desc := "(Ljava/lang/String;)V" } : Jvm.MethodName)).before a0 Z = true := hw _ (List.mem_of_getElem? (i := 213) rfl)
theorem wd_Throwable_init_lLjavalangStringrV {a0 : Array Value} {Z : State} (hw : ∀ d ∈ tables_1, d.before a0 Z = true) : (Jvm.Cond.declares ({ cls := "java/lang/Throwable", name := "<init>", desc := "(Ljava/lang/String;)V" } : Jvm.MethodName)).before a0 Z = true := hw _ (List.mem_of_getElem? (i := 214) rfl)
theorem wx_IllegalStateException_Throwable {a0 : Array Value} {Z : State} (hw : ∀ d ∈ tables_1, d.before a0 Z = true) : (Jvm.Cond.castable "java/lang/IllegalStateException" "java/lang/Throwable").before a0 Z = true := hw _ (List.mem_of_getElem? (i := 215) rfl)
theorem wi_Throwable {a0 : Array Value} {Z : State} (hw : ∀ d ∈ tables_1, d.before a0 Z = true) : (Jvm.Cond.initialized "java/lang/Throwable").before a0 Z = true := hw _ (List.mem_of_getElem? (i := 216) rfl)
theorem wb_Throwable_init_lLjavalangStringrV {a0 : Array Value} {Z : State} (hw : ∀ d ∈ tables_1, d.before a0 Z = true) : (Jvm.Cond.code ({ cls := "java/lang/Throwable", name := "<init>", desc := "(Ljava/lang/String;)V" } : Jvm.MethodName) jdk_78_method_2_code (2 : Nat) (Option.none : Option Jvm.ClassFile.FieldType)).before a0 Z = true := hw _ (List.mem_of_getElem? (i := 217) rfl)
theorem wl_Throwable_1 {a0 : Array Value} {Z : State} (hw : ∀ d ∈ tables_1, d.before a0 Z = true) : (Jvm.Cond.methodLink "java/lang/Throwable" (1 : Nat) ({ cls := "java/lang/Object", name := "<init>", desc := "()V" } : Jvm.MethodName)).before a0 Z = true := hw _ (List.mem_of_getElem? (i := 218) rfl)
theorem wf_Throwable_7 {a0 : Array Value} {Z : State} (hw : ∀ d ∈ tables_1, d.before a0 Z = true) : (Jvm.Cond.fieldLink "java/lang/Throwable" (7 : Nat) "java/lang/Throwable" "cause" "Ljava/lang/Throwable;").before a0 Z = true := hw _ (List.mem_of_getElem? (i := 219) rfl)
theorem wy_IllegalStateException_Throwable_cause {a0 : Array Value} {Z : State} (hw : ∀ d ∈ tables_1, d.before a0 Z = true) : (Jvm.Cond.lays "java/lang/IllegalStateException" "java/lang/Throwable" "cause" "Ljava/lang/Throwable;").before a0 Z = true := hw _ (List.mem_of_getElem? (i := 220) rfl)
theorem wf_Throwable_13 {a0 : Array Value} {Z : State} (hw : ∀ d ∈ tables_1, d.before a0 Z = true) : (Jvm.Cond.fieldLink "java/lang/Throwable" (13 : Nat) "java/lang/Throwable" "UNASSIGNED_STACK" "[Ljava/lang/StackTraceElement;").before a0 Z = true := hw _ (List.mem_of_getElem? (i := 221) rfl)
theorem wf_Throwable_17 {a0 : Array Value} {Z : State} (hw : ∀ d ∈ tables_1, d.before a0 Z = true) : (Jvm.Cond.fieldLink "java/lang/Throwable" (17 : Nat) "java/lang/Throwable" "stackTrace" "[Ljava/lang/StackTraceElement;").before a0 Z = true := hw _ (List.mem_of_getElem? (i := 222) rfl)
theorem wy_IllegalStateException_Throwable_stackTrace {a0 : Array Value} {Z : State} (hw : ∀ d ∈ tables_1, d.before a0 Z = true) : (Jvm.Cond.lays "java/lang/IllegalStateException" "java/lang/Throwable" "stackTrace" "[Ljava/lang/StackTraceElement;").before a0 Z = true := hw _ (List.mem_of_getElem? (i := 223) rfl)
theorem wf_Throwable_20 {a0 : Array Value} {Z : State} (hw : ∀ d ∈ tables_1, d.before a0 Z = true) : (Jvm.Cond.fieldLink "java/lang/Throwable" (20 : Nat) "java/lang/Throwable" "SUPPRESSED_SENTINEL" "Ljava/util/List;").before a0 Z = true := hw _ (List.mem_of_getElem? (i := 224) rfl)
theorem wf_Throwable_24 {a0 : Array Value} {Z : State} (hw : ∀ d ∈ tables_1, d.before a0 Z = true) : (Jvm.Cond.fieldLink "java/lang/Throwable" (24 : Nat) "java/lang/Throwable" "suppressedExceptions" "Ljava/util/List;").before a0 Z = true := hw _ (List.mem_of_getElem? (i := 225) rfl)
theorem wy_IllegalStateException_Throwable_suppressedExceptions {a0 : Array Value} {Z : State} (hw : ∀ d ∈ tables_1, d.before a0 Z = true) : (Jvm.Cond.lays "java/lang/IllegalStateException" "java/lang/Throwable" "suppressedExceptions" "Ljava/util/List;").before a0 Z = true := hw _ (List.mem_of_getElem? (i := 226) rfl)
theorem wl_Throwable_27 {a0 : Array Value} {Z : State} (hw : ∀ d ∈ tables_1, d.before a0 Z = true) : (Jvm.Cond.methodLink "java/lang/Throwable" (27 : Nat) ({ cls := "java/lang/Throwable", name := "fillInStackTrace", desc := "()Ljava/lang/Throwable;" } : Jvm.MethodName)).before a0 Z = true := hw _ (List.mem_of_getElem? (i := 227) rfl)
theorem wd_Throwable_fillInStackTrace_lrLjavalangThrowable {a0 : Array Value} {Z : State} (hw : ∀ d ∈ tables_1, d.before a0 Z = true) : (Jvm.Cond.declares ({ cls := "java/lang/Throwable", name := "fillInStackTrace", desc := "()Ljava/lang/Throwable;" } : Jvm.MethodName)).before a0 Z = true := hw _ (List.mem_of_getElem? (i := 228) rfl)
theorem wm_Throwable_fillInStackTrace_lrLjavalangThrowable {a0 : Array Value} {Z : State} (hw : ∀ d ∈ tables_1, d.before a0 Z = true) : (Jvm.Cond.instanceMethod ({ cls := "java/lang/Throwable", name := "fillInStackTrace", desc := "()Ljava/lang/Throwable;" } : Jvm.MethodName)).before a0 Z = true := hw _ (List.mem_of_getElem? (i := 229) rfl)
theorem wv_IllegalStateException_Throwable_fillInStackTrace_lrLjavalangThrowable {a0 : Array Value} {Z : State} (hw : ∀ d ∈ tables_1, d.before a0 Z = true) : (Jvm.Cond.selects "java/lang/IllegalStateException" ({ cls := "java/lang/Throwable", name := "fillInStackTrace", desc := "()Ljava/lang/Throwable;" } : Jvm.MethodName) ({ cls := "java/lang/Throwable", name := "fillInStackTrace", desc := "()Ljava/lang/Throwable;" } : Jvm.MethodName)).before a0 Z = true := hw _ (List.mem_of_getElem? (i := 230) rfl)
theorem wo_Object {a0 : Array Value} {Z : State} (hw : ∀ d ∈ tables_1, d.before a0 Z = true) : (Jvm.Cond.arrayOver (Jvm.ClassFile.FieldType.object "java/lang/Object")).before a0 Z = true := hw _ (List.mem_of_getElem? (i := 231) rfl)
theorem wj_Throwable_backtrace {a0 : Array Value} {Z : State} (hw : ∀ d ∈ tables_1, d.before a0 Z = true) : (Jvm.Cond.soleField "java/lang/Throwable" "backtrace").before a0 Z = true := hw _ (List.mem_of_getElem? (i := 232) rfl)
theorem wj_Throwable_depth {a0 : Array Value} {Z : State} (hw : ∀ d ∈ tables_1, d.before a0 Z = true) : (Jvm.Cond.soleField "java/lang/Throwable" "depth").before a0 Z = true := hw _ (List.mem_of_getElem? (i := 233) rfl)
theorem wz_Throwable_Object {a0 : Array Value} {Z : State} (hw : ∀ d ∈ tables_1, d.before a0 Z = true) : (Jvm.Cond.superclass "java/lang/Throwable" "java/lang/Object").before a0 Z = true := hw _ (List.mem_of_getElem? (i := 234) rfl)
theorem wh_Throwable_fillInStackTrace_lrLjavalangThrowable {a0 : Array Value} {Z : State} (hw : ∀ d ∈ tables_1, d.before a0 Z = true) : (Jvm.Cond.codeSync ({ cls := "java/lang/Throwable", name := "fillInStackTrace", desc := "()Ljava/lang/Throwable;" } : Jvm.MethodName) jdk_78_method_18_code (1 : Nat) (Option.some (Jvm.ClassFile.FieldType.object "java/lang/Throwable"))).before a0 Z = true := hw _ (List.mem_of_getElem? (i := 235) rfl)
theorem wm_Throwable_fillInStackTrace_lIrLjavalangThrowable {a0 : Array Value} {Z : State} (hw : ∀ d ∈ tables_1, d.before a0 Z = true) : (Jvm.Cond.instanceMethod ({ cls := "java/lang/Throwable", name := "fillInStackTrace", desc := "(I)Ljava/lang/Throwable;" } : Jvm.MethodName)).before a0 Z = true := hw _ (List.mem_of_getElem? (i := 236) rfl)
theorem wn_Throwable_fillInStackTrace_lIrLjavalangThrowable {a0 : Array Value} {Z : State} (hw : ∀ d ∈ tables_1, d.before a0 Z = true) : (Jvm.Cond.native ({ cls := "java/lang/Throwable", name := "fillInStackTrace", desc := "(I)Ljava/lang/Throwable;" } : Jvm.MethodName)).before a0 Z = true := hw _ (List.mem_of_getElem? (i := 237) rfl)
theorem wm_Throwable_init_lrV {a0 : Array Value} {Z : State} (hw : ∀ d ∈ tables_1, d.before a0 Z = true) : (Jvm.Cond.instanceMethod ({ cls := "java/lang/Throwable", name := "<init>", desc := "()V" } : Jvm.MethodName)).before a0 Z = true := hw _ (List.mem_of_getElem? (i := 238) rfl)
theorem wb_Throwable_init_lrV {a0 : Array Value} {Z : State} (hw : ∀ d ∈ tables_1, d.before a0 Z = true) : (Jvm.Cond.code ({ cls := "java/lang/Throwable", name := "<init>", desc := "()V" } : Jvm.MethodName) jdk_78_method_1_code (1 : Nat) (Option.none : Option Jvm.ClassFile.FieldType)).before a0 Z = true := hw _ (List.mem_of_getElem? (i := 239) rfl)
theorem wl_Throwable_202 {a0 : Array Value} {Z : State} (hw : ∀ d ∈ tables_1, d.before a0 Z = true) : (Jvm.Cond.methodLink "java/lang/Throwable" (202 : Nat) ({ cls := "java/lang/Throwable", name := "fillInStackTrace", desc := "(I)Ljava/lang/Throwable;" } : Jvm.MethodName)).before a0 Z = true := hw _ (List.mem_of_getElem? (i := 240) rfl)
theorem wy_Throwable_Throwable_cause {a0 : Array Value} {Z : State} (hw : ∀ d ∈ tables_1, d.before a0 Z = true) : (Jvm.Cond.lays "java/lang/Throwable" "java/lang/Throwable" "cause" "Ljava/lang/Throwable;").before a0 Z = true := hw _ (List.mem_of_getElem? (i := 241) rfl)
theorem wy_Throwable_Throwable_stackTrace {a0 : Array Value} {Z : State} (hw : ∀ d ∈ tables_1, d.before a0 Z = true) : (Jvm.Cond.lays "java/lang/Throwable" "java/lang/Throwable" "stackTrace" "[Ljava/lang/StackTraceElement;").before a0 Z = true := hw _ (List.mem_of_getElem? (i := 242) rfl)
theorem wy_Throwable_Throwable_detailMessage {a0 : Array Value} {Z : State} (hw : ∀ d ∈ tables_1, d.before a0 Z = true) : (Jvm.Cond.lays "java/lang/Throwable" "java/lang/Throwable" "detailMessage" "Ljava/lang/String;").before a0 Z = true := hw _ (List.mem_of_getElem? (i := 243) rfl)
theorem wd_Throwable_init_lrV {a0 : Array Value} {Z : State} (hw : ∀ d ∈ tables_1, d.before a0 Z = true) : (Jvm.Cond.declares ({ cls := "java/lang/Throwable", name := "<init>", desc := "()V" } : Jvm.MethodName)).before a0 Z = true := hw _ (List.mem_of_getElem? (i := 244) rfl)
theorem wf_Throwable_198 {a0 : Array Value} {Z : State} (hw : ∀ d ∈ tables_1, d.before a0 Z = true) : (Jvm.Cond.fieldLink "java/lang/Throwable" (198 : Nat) "java/lang/Throwable" "backtrace" "Ljava/lang/Object;").before a0 Z = true := hw _ (List.mem_of_getElem? (i := 245) rfl)
theorem wy_Throwable_Throwable_backtrace {a0 : Array Value} {Z : State} (hw : ∀ d ∈ tables_1, d.before a0 Z = true) : (Jvm.Cond.lays "java/lang/Throwable" "java/lang/Throwable" "backtrace" "Ljava/lang/Object;").before a0 Z = true := hw _ (List.mem_of_getElem? (i := 246) rfl)
theorem we_Throwable_UNASSIGNED_STACK {a0 : Array Value} {Z : State} (hw : ∀ d ∈ tables_1, d.before a0 Z = true) : (Jvm.Cond.laysStatic "java/lang/Throwable" "UNASSIGNED_STACK" "[Ljava/lang/StackTraceElement;").before a0 Z = true := hw _ (List.mem_of_getElem? (i := 247) rfl)
theorem we_Throwable_SUPPRESSED_SENTINEL {a0 : Array Value} {Z : State} (hw : ∀ d ∈ tables_1, d.before a0 Z = true) : (Jvm.Cond.laysStatic "java/lang/Throwable" "SUPPRESSED_SENTINEL" "Ljava/util/List;").before a0 Z = true := hw _ (List.mem_of_getElem? (i := 248) rfl)
theorem wv_IllegalStateException_Throwable_fillInStackTrace_lIrLjavalangThrowable {a0 : Array Value} {Z : State} (hw : ∀ d ∈ tables_1, d.before a0 Z = true) : (Jvm.Cond.selects "java/lang/IllegalStateException" ({ cls := "java/lang/Throwable", name := "fillInStackTrace", desc := "(I)Ljava/lang/Throwable;" } : Jvm.MethodName) ({ cls := "java/lang/Throwable", name := "fillInStackTrace", desc := "(I)Ljava/lang/Throwable;" } : Jvm.MethodName)).before a0 Z = true := hw _ (List.mem_of_getElem? (i := 249) rfl)
theorem wy_IllegalStateException_Throwable_detailMessage {a0 : Array Value} {Z : State} (hw : ∀ d ∈ tables_1, d.before a0 Z = true) : (Jvm.Cond.lays "java/lang/IllegalStateException" "java/lang/Throwable" "detailMessage" "Ljava/lang/String;").before a0 Z = true := hw _ (List.mem_of_getElem? (i := 250) rfl)
theorem wy_IllegalStateException_Throwable_backtrace {a0 : Array Value} {Z : State} (hw : ∀ d ∈ tables_1, d.before a0 Z = true) : (Jvm.Cond.lays "java/lang/IllegalStateException" "java/lang/Throwable" "backtrace" "Ljava/lang/Object;").before a0 Z = true := hw _ (List.mem_of_getElem? (i := 251) rfl)
theorem wy_IllegalStateException_Throwable_depth {a0 : Array Value} {Z : State} (hw : ∀ d ∈ tables_1, d.before a0 Z = true) : (Jvm.Cond.lays "java/lang/IllegalStateException" "java/lang/Throwable" "depth" "I").before a0 Z = true := hw _ (List.mem_of_getElem? (i := 252) rfl)
theorem wx_IllegalStateException_IllegalStateException {a0 : Array Value} {Z : State} (hw : ∀ d ∈ tables_1, d.before a0 Z = true) : (Jvm.Cond.castable "java/lang/IllegalStateException" "java/lang/IllegalStateException").before a0 Z = true := hw _ (List.mem_of_getElem? (i := 253) rfl)
theorem wf_Throwable_31 {a0 : Array Value} {Z : State} (hw : ∀ d ∈ tables_1, d.before a0 Z = true) : (Jvm.Cond.fieldLink "java/lang/Throwable" (31 : Nat) "java/lang/Throwable" "detailMessage" "Ljava/lang/String;").before a0 Z = true := hw _ (List.mem_of_getElem? (i := 254) rfl)
theorem wl_DefinitionsFixedPinLaw_24 {a0 : Array Value} {Z : State} (hw : ∀ d ∈ tables_1, d.before a0 Z = true) : (Jvm.Cond.methodLink "wirefold/DefinitionsFixedPinLaw" (24 : Nat) ({ cls := "java/lang/IllegalStateException", name := "getMessage", desc := "()Ljava/lang/String;" } : Jvm.MethodName)).before a0 Z = true := hw _ (List.mem_of_getElem? (i := 255) rfl)
theorem wr_IllegalStateException_Throwable_getMessage {a0 : Array Value} {Z : State} (hw : ∀ d ∈ tables_1, d.before a0 Z = true) : (Jvm.Cond.sameMethod "java/lang/IllegalStateException" "java/lang/Throwable" "getMessage" "()Ljava/lang/String;").before a0 Z = true := hw _ (List.mem_of_getElem? (i := 256) rfl)
theorem wd_Throwable_getMessage_lrLjavalangString {a0 : Array Value} {Z : State} (hw : ∀ d ∈ tables_1, d.before a0 Z = true) : (Jvm.Cond.declares ({ cls := "java/lang/Throwable", name := "getMessage", desc := "()Ljava/lang/String;" } : Jvm.MethodName)).before a0 Z = true := hw _ (List.mem_of_getElem? (i := 257) rfl)
theorem wm_Throwable_getMessage_lrLjavalangString {a0 : Array Value} {Z : State} (hw : ∀ d ∈ tables_1, d.before a0 Z = true) : (Jvm.Cond.instanceMethod ({ cls := "java/lang/Throwable", name := "getMessage", desc := "()Ljava/lang/String;" } : Jvm.MethodName)).before a0 Z = true := hw _ (List.mem_of_getElem? (i := 258) rfl)
theorem wv_IllegalStateException_IllegalStateException_getMessage_lrLjavalangString {a0 : Array Value} {Z : State} (hw : ∀ d ∈ tables_1, d.before a0 Z = true) : (Jvm.Cond.selects "java/lang/IllegalStateException" ({ cls := "java/lang/IllegalStateException", name := "getMessage", desc := "()Ljava/lang/String;" } : Jvm.MethodName) ({ cls := "java/lang/Throwable", name := "getMessage", desc := "()Ljava/lang/String;" } : Jvm.MethodName)).before a0 Z = true := hw _ (List.mem_of_getElem? (i := 259) rfl)
theorem wb_Throwable_getMessage_lrLjavalangString {a0 : Array Value} {Z : State} (hw : ∀ d ∈ tables_1, d.before a0 Z = true) : (Jvm.Cond.code ({ cls := "java/lang/Throwable", name := "getMessage", desc := "()Ljava/lang/String;" } : Jvm.MethodName) jdk_78_method_6_code (1 : Nat) (Option.some (Jvm.ClassFile.FieldType.object "java/lang/String"))).before a0 Z = true := hw _ (List.mem_of_getElem? (i := 260) rfl)
theorem wl_DefinitionsFixedPinLaw_30 {a0 : Array Value} {Z : State} (hw : ∀ d ∈ tables_1, d.before a0 Z = true) : (Jvm.Cond.methodLink "wirefold/DefinitionsFixedPinLaw" (30 : Nat) ({ cls := "java/lang/String", name := "equals", desc := "(Ljava/lang/Object;)Z" } : Jvm.MethodName)).before a0 Z = true := hw _ (List.mem_of_getElem? (i := 261) rfl)
theorem wd_String_equals_lLjavalangObjectrZ {a0 : Array Value} {Z : State} (hw : ∀ d ∈ tables_1, d.before a0 Z = true) : (Jvm.Cond.declares ({ cls := "java/lang/String", name := "equals", desc := "(Ljava/lang/Object;)Z" } : Jvm.MethodName)).before a0 Z = true := hw _ (List.mem_of_getElem? (i := 262) rfl)
theorem wm_String_equals_lLjavalangObjectrZ {a0 : Array Value} {Z : State} (hw : ∀ d ∈ tables_1, d.before a0 Z = true) : (Jvm.Cond.instanceMethod ({ cls := "java/lang/String", name := "equals", desc := "(Ljava/lang/Object;)Z" } : Jvm.MethodName)).before a0 Z = true := hw _ (List.mem_of_getElem? (i := 263) rfl)
theorem wv_String_String_equals_lLjavalangObjectrZ {a0 : Array Value} {Z : State} (hw : ∀ d ∈ tables_1, d.before a0 Z = true) : (Jvm.Cond.selects "java/lang/String" ({ cls := "java/lang/String", name := "equals", desc := "(Ljava/lang/Object;)Z" } : Jvm.MethodName) ({ cls := "java/lang/String", name := "equals", desc := "(Ljava/lang/Object;)Z" } : Jvm.MethodName)).before a0 Z = true := hw _ (List.mem_of_getElem? (i := 264) rfl)
theorem wb_String_equals_lLjavalangObjectrZ {a0 : Array Value} {Z : State} (hw : ∀ d ∈ tables_1, d.before a0 Z = true) : (Jvm.Cond.code ({ cls := "java/lang/String", name := "equals", desc := "(Ljava/lang/Object;)Z" } : Jvm.MethodName) jdk_42_method_66_code (3 : Nat) (Option.some Jvm.ClassFile.FieldType.boolean)).before a0 Z = true := hw _ (List.mem_of_getElem? (i := 265) rfl)
theorem wc_String_10 {a0 : Array Value} {Z : State} (hw : ∀ d ∈ tables_1, d.before a0 Z = true) : (Jvm.Cond.classLink "java/lang/String" (10 : Nat) "java/lang/String").before a0 Z = true := hw _ (List.mem_of_getElem? (i := 266) rfl)
theorem wl_String_541 {a0 : Array Value} {Z : State} (hw : ∀ d ∈ tables_1, d.before a0 Z = true) : (Jvm.Cond.methodLink "java/lang/String" (541 : Nat) ({ cls := "java/lang/StringLatin1", name := "equals", desc := "([B[B)Z" } : Jvm.MethodName)).before a0 Z = true := hw _ (List.mem_of_getElem? (i := 267) rfl)
theorem ws_StringLatin1_equals_lABABrZ {a0 : Array Value} {Z : State} (hw : ∀ d ∈ tables_1, d.before a0 Z = true) : (Jvm.Cond.static ({ cls := "java/lang/StringLatin1", name := "equals", desc := "([B[B)Z" } : Jvm.MethodName)).before a0 Z = true := hw _ (List.mem_of_getElem? (i := 268) rfl)
theorem wb_StringLatin1_equals_lABABrZ {a0 : Array Value} {Z : State} (hw : ∀ d ∈ tables_1, d.before a0 Z = true) : (Jvm.Cond.code ({ cls := "java/lang/StringLatin1", name := "equals", desc := "([B[B)Z" } : Jvm.MethodName) jdk_43_method_13_code (3 : Nat) (Option.some Jvm.ClassFile.FieldType.boolean)).before a0 Z = true := hw _ (List.mem_of_getElem? (i := 269) rfl)
theorem wl_DefinitionsFixedPinLaw_34 {a0 : Array Value} {Z : State} (hw : ∀ d ∈ tables_1, d.before a0 Z = true) : (Jvm.Cond.methodLink "wirefold/DefinitionsFixedPinLaw" (34 : Nat) ({ cls := "java/lang/IllegalStateException", name := "getCause", desc := "()Ljava/lang/Throwable;" } : Jvm.MethodName)).before a0 Z = true := hw _ (List.mem_of_getElem? (i := 270) rfl)
theorem wr_IllegalStateException_Throwable_getCause {a0 : Array Value} {Z : State} (hw : ∀ d ∈ tables_1, d.before a0 Z = true) : (Jvm.Cond.sameMethod "java/lang/IllegalStateException" "java/lang/Throwable" "getCause" "()Ljava/lang/Throwable;").before a0 Z = true := hw _ (List.mem_of_getElem? (i := 271) rfl)
theorem wd_Throwable_getCause_lrLjavalangThrowable {a0 : Array Value} {Z : State} (hw : ∀ d ∈ tables_1, d.before a0 Z = true) : (Jvm.Cond.declares ({ cls := "java/lang/Throwable", name := "getCause", desc := "()Ljava/lang/Throwable;" } : Jvm.MethodName)).before a0 Z = true := hw _ (List.mem_of_getElem? (i := 272) rfl)
theorem wm_Throwable_getCause_lrLjavalangThrowable {a0 : Array Value} {Z : State} (hw : ∀ d ∈ tables_1, d.before a0 Z = true) : (Jvm.Cond.instanceMethod ({ cls := "java/lang/Throwable", name := "getCause", desc := "()Ljava/lang/Throwable;" } : Jvm.MethodName)).before a0 Z = true := hw _ (List.mem_of_getElem? (i := 273) rfl)
theorem wv_IllegalStateException_IllegalStateException_getCause_lrLjavalangThrowable {a0 : Array Value} {Z : State} (hw : ∀ d ∈ tables_1, d.before a0 Z = true) : (Jvm.Cond.selects "java/lang/IllegalStateException" ({ cls := "java/lang/IllegalStateException", name := "getCause", desc := "()Ljava/lang/Throwable;" } : Jvm.MethodName) ({ cls := "java/lang/Throwable", name := "getCause", desc := "()Ljava/lang/Throwable;" } : Jvm.MethodName)).before a0 Z = true := hw _ (List.mem_of_getElem? (i := 274) rfl)
theorem wh_Throwable_getCause_lrLjavalangThrowable {a0 : Array Value} {Z : State} (hw : ∀ d ∈ tables_1, d.before a0 Z = true) : (Jvm.Cond.codeSync ({ cls := "java/lang/Throwable", name := "getCause", desc := "()Ljava/lang/Throwable;" } : Jvm.MethodName) jdk_78_method_8_code (1 : Nat) (Option.some (Jvm.ClassFile.FieldType.object "java/lang/Throwable"))).before a0 Z = true := hw _ (List.mem_of_getElem? (i := 275) rfl)
theorem wt_String_7 {a0 : Array Value} {Z : State} (hw : ∀ d ∈ tables_1, d.before a0 Z = true) : (Jvm.Cond.stringLink "java/lang/String" (7 : Nat) "").before a0 Z = true := hw _ (List.mem_of_getElem? (i := 276) rfl)
theorem dm3_0 : decode method_3_code 0 = .ok (.ldc 38, 2) := by decide +kernel
theorem dm3_2 : decode method_3_code 2 = .ok (.astore_n 2, 1) := by decide +kernel
theorem dm3_3 : decode method_3_code 3 = .ok (.aload_n 0, 1) := by decide +kernel
theorem dm3_4 : decode method_3_code 4 = .ok (.iload_n 1, 1) := by decide +kernel
theorem dm3_5 : decode method_3_code 5 = .ok (.aload_n 2, 1) := by decide +kernel
theorem dm3_6 : decode method_3_code 6 = .ok (.iconst 0, 1) := by decide +kernel
theorem dm3_7 : decode method_3_code 7 = .ok (.invokevirtual 40, 3) := by decide +kernel
theorem dm3_10 : decode method_3_code 10 = .ok (.castore, 1) := by decide +kernel
theorem dm3_11 : decode method_3_code 11 = .ok (.aload_n 0, 1) := by decide +kernel
theorem dm3_12 : decode method_3_code 12 = .ok (.iload_n 1, 1) := by decide +kernel
theorem dm3_13 : decode method_3_code 13 = .ok (.iconst 1, 1) := by decide +kernel
theorem dm3_14 : decode method_3_code 14 = .ok (.iadd, 1) := by decide +kernel
theorem dm3_15 : decode method_3_code 15 = .ok (.aload_n 2, 1) := by decide +kernel
theorem dm3_16 : decode method_3_code 16 = .ok (.iconst 1, 1) := by decide +kernel
theorem dm3_17 : decode method_3_code 17 = .ok (.invokevirtual 40, 3) := by decide +kernel
theorem dm3_20 : decode method_3_code 20 = .ok (.castore, 1) := by decide +kernel
theorem dm3_21 : decode method_3_code 21 = .ok (.aload_n 0, 1) := by decide +kernel
theorem dm3_22 : decode method_3_code 22 = .ok (.iload_n 1, 1) := by decide +kernel
theorem dm3_23 : decode method_3_code 23 = .ok (.iconst 2, 1) := by decide +kernel
theorem dm3_24 : decode method_3_code 24 = .ok (.iadd, 1) := by decide +kernel
theorem dm3_25 : decode method_3_code 25 = .ok (.aload_n 2, 1) := by decide +kernel
theorem dm3_26 : decode method_3_code 26 = .ok (.iconst 2, 1) := by decide +kernel
theorem dm3_27 : decode method_3_code 27 = .ok (.invokevirtual 40, 3) := by decide +kernel
theorem dm3_30 : decode method_3_code 30 = .ok (.castore, 1) := by decide +kernel
theorem dm3_31 : decode method_3_code 31 = .ok (.aload_n 0, 1) := by decide +kernel
theorem dm3_32 : decode method_3_code 32 = .ok (.iload_n 1, 1) := by decide +kernel
theorem dm3_33 : decode method_3_code 33 = .ok (.iconst 3, 1) := by decide +kernel
theorem dm3_34 : decode method_3_code 34 = .ok (.iadd, 1) := by decide +kernel
theorem dm3_35 : decode method_3_code 35 = .ok (.aload_n 2, 1) := by decide +kernel
theorem dm3_36 : decode method_3_code 36 = .ok (.iconst 3, 1) := by decide +kernel
theorem dm3_37 : decode method_3_code 37 = .ok (.invokevirtual 40, 3) := by decide +kernel
theorem dm3_40 : decode method_3_code 40 = .ok (.castore, 1) := by decide +kernel
theorem dm3_41 : decode method_3_code 41 = .ok (.aload_n 0, 1) := by decide +kernel
theorem dm3_42 : decode method_3_code 42 = .ok (.iload_n 1, 1) := by decide +kernel
theorem dm3_43 : decode method_3_code 43 = .ok (.iconst 4, 1) := by decide +kernel
theorem dm3_44 : decode method_3_code 44 = .ok (.iadd, 1) := by decide +kernel
theorem dm3_45 : decode method_3_code 45 = .ok (.aload_n 2, 1) := by decide +kernel
theorem dm3_46 : decode method_3_code 46 = .ok (.iconst 4, 1) := by decide +kernel
theorem dm3_47 : decode method_3_code 47 = .ok (.invokevirtual 40, 3) := by decide +kernel
theorem dm3_50 : decode method_3_code 50 = .ok (.castore, 1) := by decide +kernel
theorem dm3_51 : decode method_3_code 51 = .ok (.aload_n 0, 1) := by decide +kernel
theorem dm3_52 : decode method_3_code 52 = .ok (.iload_n 1, 1) := by decide +kernel
theorem dm3_53 : decode method_3_code 53 = .ok (.iconst 5, 1) := by decide +kernel
theorem dm3_54 : decode method_3_code 54 = .ok (.iadd, 1) := by decide +kernel
theorem dm3_55 : decode method_3_code 55 = .ok (.aload_n 2, 1) := by decide +kernel
theorem dm3_56 : decode method_3_code 56 = .ok (.iconst 5, 1) := by decide +kernel
theorem dm3_57 : decode method_3_code 57 = .ok (.invokevirtual 40, 3) := by decide +kernel
theorem dm3_60 : decode method_3_code 60 = .ok (.castore, 1) := by decide +kernel
theorem dm3_61 : decode method_3_code 61 = .ok (.aload_n 0, 1) := by decide +kernel
theorem dm3_62 : decode method_3_code 62 = .ok (.iload_n 1, 1) := by decide +kernel
theorem dm3_63 : decode method_3_code 63 = .ok (.bipush 6, 2) := by decide +kernel
theorem dm3_65 : decode method_3_code 65 = .ok (.iadd, 1) := by decide +kernel
theorem dm3_66 : decode method_3_code 66 = .ok (.aload_n 2, 1) := by decide +kernel
theorem dm3_67 : decode method_3_code 67 = .ok (.bipush 6, 2) := by decide +kernel
theorem dm3_69 : decode method_3_code 69 = .ok (.invokevirtual 40, 3) := by decide +kernel
theorem dm3_72 : decode method_3_code 72 = .ok (.castore, 1) := by decide +kernel
theorem dm3_73 : decode method_3_code 73 = .ok (.aload_n 0, 1) := by decide +kernel
theorem dm3_74 : decode method_3_code 74 = .ok (.iload_n 1, 1) := by decide +kernel
theorem dm3_75 : decode method_3_code 75 = .ok (.bipush 7, 2) := by decide +kernel
theorem dm3_77 : decode method_3_code 77 = .ok (.iadd, 1) := by decide +kernel
theorem dm3_78 : decode method_3_code 78 = .ok (.aload_n 2, 1) := by decide +kernel
theorem dm3_79 : decode method_3_code 79 = .ok (.bipush 7, 2) := by decide +kernel
theorem dm3_81 : decode method_3_code 81 = .ok (.invokevirtual 40, 3) := by decide +kernel
theorem dm3_84 : decode method_3_code 84 = .ok (.castore, 1) := by decide +kernel
theorem dm3_85 : decode method_3_code 85 = .ok (.aload_n 0, 1) := by decide +kernel
theorem dm3_86 : decode method_3_code 86 = .ok (.iload_n 1, 1) := by decide +kernel
theorem dm3_87 : decode method_3_code 87 = .ok (.bipush 8, 2) := by decide +kernel
theorem dm3_89 : decode method_3_code 89 = .ok (.iadd, 1) := by decide +kernel
theorem dm3_90 : decode method_3_code 90 = .ok (.aload_n 2, 1) := by decide +kernel
theorem dm3_91 : decode method_3_code 91 = .ok (.bipush 8, 2) := by decide +kernel
theorem dm3_93 : decode method_3_code 93 = .ok (.invokevirtual 40, 3) := by decide +kernel
theorem dm3_96 : decode method_3_code 96 = .ok (.castore, 1) := by decide +kernel
theorem dm3_97 : decode method_3_code 97 = .ok (.aload_n 0, 1) := by decide +kernel
theorem dm3_98 : decode method_3_code 98 = .ok (.iload_n 1, 1) := by decide +kernel
theorem dm3_99 : decode method_3_code 99 = .ok (.bipush 9, 2) := by decide +kernel
theorem dm3_101 : decode method_3_code 101 = .ok (.iadd, 1) := by decide +kernel
theorem dm3_102 : decode method_3_code 102 = .ok (.aload_n 2, 1) := by decide +kernel
theorem dm3_103 : decode method_3_code 103 = .ok (.bipush 9, 2) := by decide +kernel
theorem dm3_105 : decode method_3_code 105 = .ok (.invokevirtual 40, 3) := by decide +kernel
theorem dm3_108 : decode method_3_code 108 = .ok (.castore, 1) := by decide +kernel
theorem dm3_109 : decode method_3_code 109 = .ok (.aload_n 0, 1) := by decide +kernel
theorem dm3_110 : decode method_3_code 110 = .ok (.iload_n 1, 1) := by decide +kernel
theorem dm3_111 : decode method_3_code 111 = .ok (.bipush 10, 2) := by decide +kernel
theorem dm3_113 : decode method_3_code 113 = .ok (.iadd, 1) := by decide +kernel
theorem dm3_114 : decode method_3_code 114 = .ok (.aload_n 2, 1) := by decide +kernel
theorem dm3_115 : decode method_3_code 115 = .ok (.bipush 10, 2) := by decide +kernel
theorem dm3_117 : decode method_3_code 117 = .ok (.invokevirtual 40, 3) := by decide +kernel
theorem dm3_120 : decode method_3_code 120 = .ok (.castore, 1) := by decide +kernel
theorem dm3_121 : decode method_3_code 121 = .ok (.aload_n 0, 1) := by decide +kernel
theorem dm3_122 : decode method_3_code 122 = .ok (.iload_n 1, 1) := by decide +kernel
theorem dm3_123 : decode method_3_code 123 = .ok (.bipush 11, 2) := by decide +kernel
theorem dm3_125 : decode method_3_code 125 = .ok (.iadd, 1) := by decide +kernel
theorem dm3_126 : decode method_3_code 126 = .ok (.aload_n 2, 1) := by decide +kernel
theorem dm3_127 : decode method_3_code 127 = .ok (.bipush 11, 2) := by decide +kernel
theorem dm3_129 : decode method_3_code 129 = .ok (.invokevirtual 40, 3) := by decide +kernel
theorem dm3_132 : decode method_3_code 132 = .ok (.castore, 1) := by decide +kernel
theorem dm3_133 : decode method_3_code 133 = .ok (.aload_n 0, 1) := by decide +kernel
theorem dm3_134 : decode method_3_code 134 = .ok (.iload_n 1, 1) := by decide +kernel
theorem dm3_135 : decode method_3_code 135 = .ok (.bipush 12, 2) := by decide +kernel
theorem dm3_137 : decode method_3_code 137 = .ok (.iadd, 1) := by decide +kernel
theorem dm3_138 : decode method_3_code 138 = .ok (.aload_n 2, 1) := by decide +kernel
theorem dm3_139 : decode method_3_code 139 = .ok (.bipush 12, 2) := by decide +kernel
theorem dm3_141 : decode method_3_code 141 = .ok (.invokevirtual 40, 3) := by decide +kernel
theorem dm3_144 : decode method_3_code 144 = .ok (.castore, 1) := by decide +kernel
theorem dm3_145 : decode method_3_code 145 = .ok (.aload_n 0, 1) := by decide +kernel
theorem dm3_146 : decode method_3_code 146 = .ok (.iload_n 1, 1) := by decide +kernel
theorem dm3_147 : decode method_3_code 147 = .ok (.bipush 13, 2) := by decide +kernel
theorem dm3_149 : decode method_3_code 149 = .ok (.iadd, 1) := by decide +kernel
theorem dm3_150 : decode method_3_code 150 = .ok (.aload_n 2, 1) := by decide +kernel
theorem dm3_151 : decode method_3_code 151 = .ok (.bipush 13, 2) := by decide +kernel
theorem dm3_153 : decode method_3_code 153 = .ok (.invokevirtual 40, 3) := by decide +kernel
theorem dm3_156 : decode method_3_code 156 = .ok (.castore, 1) := by decide +kernel
theorem dm3_157 : decode method_3_code 157 = .ok (.aload_n 0, 1) := by decide +kernel
theorem dm3_158 : decode method_3_code 158 = .ok (.iload_n 1, 1) := by decide +kernel
theorem dm3_159 : decode method_3_code 159 = .ok (.bipush 14, 2) := by decide +kernel
theorem dm3_161 : decode method_3_code 161 = .ok (.iadd, 1) := by decide +kernel
theorem dm3_162 : decode method_3_code 162 = .ok (.aload_n 2, 1) := by decide +kernel
theorem dm3_163 : decode method_3_code 163 = .ok (.bipush 14, 2) := by decide +kernel
theorem dm3_165 : decode method_3_code 165 = .ok (.invokevirtual 40, 3) := by decide +kernel
theorem dm3_168 : decode method_3_code 168 = .ok (.castore, 1) := by decide +kernel
theorem dm3_169 : decode method_3_code 169 = .ok (.aload_n 0, 1) := by decide +kernel
theorem dm3_170 : decode method_3_code 170 = .ok (.iload_n 1, 1) := by decide +kernel
theorem dm3_171 : decode method_3_code 171 = .ok (.bipush 15, 2) := by decide +kernel
theorem dm3_173 : decode method_3_code 173 = .ok (.iadd, 1) := by decide +kernel
theorem dm3_174 : decode method_3_code 174 = .ok (.aload_n 2, 1) := by decide +kernel
theorem dm3_175 : decode method_3_code 175 = .ok (.bipush 15, 2) := by decide +kernel
theorem dm3_177 : decode method_3_code 177 = .ok (.invokevirtual 40, 3) := by decide +kernel
theorem dm3_180 : decode method_3_code 180 = .ok (.castore, 1) := by decide +kernel
theorem dm3_181 : decode method_3_code 181 = .ok (.aload_n 0, 1) := by decide +kernel
theorem dm3_182 : decode method_3_code 182 = .ok (.iload_n 1, 1) := by decide +kernel
theorem dm3_183 : decode method_3_code 183 = .ok (.bipush 16, 2) := by decide +kernel
theorem dm3_185 : decode method_3_code 185 = .ok (.iadd, 1) := by decide +kernel
theorem dm3_186 : decode method_3_code 186 = .ok (.aload_n 2, 1) := by decide +kernel
theorem dm3_187 : decode method_3_code 187 = .ok (.bipush 16, 2) := by decide +kernel
theorem dm3_189 : decode method_3_code 189 = .ok (.invokevirtual 40, 3) := by decide +kernel
theorem dm3_192 : decode method_3_code 192 = .ok (.castore, 1) := by decide +kernel
theorem dm3_193 : decode method_3_code 193 = .ok (.aload_n 0, 1) := by decide +kernel
theorem dm3_194 : decode method_3_code 194 = .ok (.iload_n 1, 1) := by decide +kernel
theorem dm3_195 : decode method_3_code 195 = .ok (.bipush 17, 2) := by decide +kernel
theorem dm3_197 : decode method_3_code 197 = .ok (.iadd, 1) := by decide +kernel
theorem dm3_198 : decode method_3_code 198 = .ok (.aload_n 2, 1) := by decide +kernel
theorem dm3_199 : decode method_3_code 199 = .ok (.bipush 17, 2) := by decide +kernel
theorem dm3_201 : decode method_3_code 201 = .ok (.invokevirtual 40, 3) := by decide +kernel
theorem dm3_204 : decode method_3_code 204 = .ok (.castore, 1) := by decide +kernel
theorem dm3_205 : decode method_3_code 205 = .ok (.aload_n 0, 1) := by decide +kernel
theorem dm3_206 : decode method_3_code 206 = .ok (.iload_n 1, 1) := by decide +kernel
theorem dm3_207 : decode method_3_code 207 = .ok (.bipush 18, 2) := by decide +kernel
theorem dm3_209 : decode method_3_code 209 = .ok (.iadd, 1) := by decide +kernel
theorem dm3_210 : decode method_3_code 210 = .ok (.aload_n 2, 1) := by decide +kernel
theorem dm3_211 : decode method_3_code 211 = .ok (.bipush 18, 2) := by decide +kernel
theorem dm3_213 : decode method_3_code 213 = .ok (.invokevirtual 40, 3) := by decide +kernel
theorem dm3_216 : decode method_3_code 216 = .ok (.castore, 1) := by decide +kernel
theorem dm3_217 : decode method_3_code 217 = .ok (.aload_n 0, 1) := by decide +kernel
theorem dm3_218 : decode method_3_code 218 = .ok (.iload_n 1, 1) := by decide +kernel
theorem dm3_219 : decode method_3_code 219 = .ok (.bipush 19, 2) := by decide +kernel
theorem dm3_221 : decode method_3_code 221 = .ok (.iadd, 1) := by decide +kernel
theorem dm3_222 : decode method_3_code 222 = .ok (.aload_n 2, 1) := by decide +kernel
theorem dm3_223 : decode method_3_code 223 = .ok (.bipush 19, 2) := by decide +kernel
theorem dm3_225 : decode method_3_code 225 = .ok (.invokevirtual 40, 3) := by decide +kernel
theorem dm3_228 : decode method_3_code 228 = .ok (.castore, 1) := by decide +kernel
theorem dm3_229 : decode method_3_code 229 = .ok (.aload_n 0, 1) := by decide +kernel
theorem dm3_230 : decode method_3_code 230 = .ok (.iload_n 1, 1) := by decide +kernel
theorem dm3_231 : decode method_3_code 231 = .ok (.bipush 20, 2) := by decide +kernel
theorem dm3_233 : decode method_3_code 233 = .ok (.iadd, 1) := by decide +kernel
theorem dm3_234 : decode method_3_code 234 = .ok (.aload_n 2, 1) := by decide +kernel
theorem dm3_235 : decode method_3_code 235 = .ok (.bipush 20, 2) := by decide +kernel
theorem dm3_237 : decode method_3_code 237 = .ok (.invokevirtual 40, 3) := by decide +kernel
theorem dm3_240 : decode method_3_code 240 = .ok (.castore, 1) := by decide +kernel
theorem dm3_241 : decode method_3_code 241 = .ok (.aload_n 0, 1) := by decide +kernel
theorem dm3_242 : decode method_3_code 242 = .ok (.iload_n 1, 1) := by decide +kernel
theorem dm3_243 : decode method_3_code 243 = .ok (.bipush 21, 2) := by decide +kernel
theorem dm3_245 : decode method_3_code 245 = .ok (.iadd, 1) := by decide +kernel
theorem dm3_246 : decode method_3_code 246 = .ok (.aload_n 2, 1) := by decide +kernel
theorem dm3_247 : decode method_3_code 247 = .ok (.bipush 21, 2) := by decide +kernel
theorem dm3_249 : decode method_3_code 249 = .ok (.invokevirtual 40, 3) := by decide +kernel
theorem dm3_252 : decode method_3_code 252 = .ok (.castore, 1) := by decide +kernel
theorem dm3_253 : decode method_3_code 253 = .ok (.aload_n 0, 1) := by decide +kernel
theorem dm3_254 : decode method_3_code 254 = .ok (.iload_n 1, 1) := by decide +kernel
theorem dm3_255 : decode method_3_code 255 = .ok (.bipush 22, 2) := by decide +kernel
theorem dm3_257 : decode method_3_code 257 = .ok (.iadd, 1) := by decide +kernel
theorem dm3_258 : decode method_3_code 258 = .ok (.aload_n 2, 1) := by decide +kernel
theorem dm3_259 : decode method_3_code 259 = .ok (.bipush 22, 2) := by decide +kernel
theorem dm3_261 : decode method_3_code 261 = .ok (.invokevirtual 40, 3) := by decide +kernel
theorem dm3_264 : decode method_3_code 264 = .ok (.castore, 1) := by decide +kernel
theorem dm3_265 : decode method_3_code 265 = .ok (.aload_n 0, 1) := by decide +kernel
theorem dm3_266 : decode method_3_code 266 = .ok (.iload_n 1, 1) := by decide +kernel
theorem dm3_267 : decode method_3_code 267 = .ok (.bipush 23, 2) := by decide +kernel
theorem dm3_269 : decode method_3_code 269 = .ok (.iadd, 1) := by decide +kernel
theorem dm3_270 : decode method_3_code 270 = .ok (.aload_n 2, 1) := by decide +kernel
theorem dm3_271 : decode method_3_code 271 = .ok (.bipush 23, 2) := by decide +kernel
theorem dm3_273 : decode method_3_code 273 = .ok (.invokevirtual 40, 3) := by decide +kernel
theorem dm3_276 : decode method_3_code 276 = .ok (.castore, 1) := by decide +kernel
theorem dm3_277 : decode method_3_code 277 = .ok (.aload_n 0, 1) := by decide +kernel
theorem dm3_278 : decode method_3_code 278 = .ok (.iload_n 1, 1) := by decide +kernel
theorem dm3_279 : decode method_3_code 279 = .ok (.bipush 24, 2) := by decide +kernel
theorem dm3_281 : decode method_3_code 281 = .ok (.iadd, 1) := by decide +kernel
theorem dm3_282 : decode method_3_code 282 = .ok (.aload_n 2, 1) := by decide +kernel
theorem dm3_283 : decode method_3_code 283 = .ok (.bipush 24, 2) := by decide +kernel
theorem dm3_285 : decode method_3_code 285 = .ok (.invokevirtual 40, 3) := by decide +kernel
theorem dm3_288 : decode method_3_code 288 = .ok (.castore, 1) := by decide +kernel
theorem dm3_289 : decode method_3_code 289 = .ok (.aload_n 0, 1) := by decide +kernel
theorem dm3_290 : decode method_3_code 290 = .ok (.iload_n 1, 1) := by decide +kernel
theorem dm3_291 : decode method_3_code 291 = .ok (.bipush 25, 2) := by decide +kernel
theorem dm3_293 : decode method_3_code 293 = .ok (.iadd, 1) := by decide +kernel
theorem dm3_294 : decode method_3_code 294 = .ok (.aload_n 2, 1) := by decide +kernel
theorem dm3_295 : decode method_3_code 295 = .ok (.bipush 25, 2) := by decide +kernel
theorem dm3_297 : decode method_3_code 297 = .ok (.invokevirtual 40, 3) := by decide +kernel
theorem dm3_300 : decode method_3_code 300 = .ok (.castore, 1) := by decide +kernel
theorem dm3_301 : decode method_3_code 301 = .ok (.aload_n 0, 1) := by decide +kernel
theorem dm3_302 : decode method_3_code 302 = .ok (.iload_n 1, 1) := by decide +kernel
theorem dm3_303 : decode method_3_code 303 = .ok (.bipush 26, 2) := by decide +kernel
theorem dm3_305 : decode method_3_code 305 = .ok (.iadd, 1) := by decide +kernel
theorem dm3_306 : decode method_3_code 306 = .ok (.aload_n 2, 1) := by decide +kernel
theorem dm3_307 : decode method_3_code 307 = .ok (.bipush 26, 2) := by decide +kernel
theorem dm3_309 : decode method_3_code 309 = .ok (.invokevirtual 40, 3) := by decide +kernel
theorem dm3_312 : decode method_3_code 312 = .ok (.castore, 1) := by decide +kernel
theorem dm3_313 : decode method_3_code 313 = .ok (.aload_n 0, 1) := by decide +kernel
theorem dm3_314 : decode method_3_code 314 = .ok (.iload_n 1, 1) := by decide +kernel
theorem dm3_315 : decode method_3_code 315 = .ok (.bipush 27, 2) := by decide +kernel
theorem dm3_317 : decode method_3_code 317 = .ok (.iadd, 1) := by decide +kernel
theorem dm3_318 : decode method_3_code 318 = .ok (.aload_n 2, 1) := by decide +kernel
theorem dm3_319 : decode method_3_code 319 = .ok (.bipush 27, 2) := by decide +kernel
theorem dm3_321 : decode method_3_code 321 = .ok (.invokevirtual 40, 3) := by decide +kernel
theorem dm3_324 : decode method_3_code 324 = .ok (.castore, 1) := by decide +kernel
theorem dm3_325 : decode method_3_code 325 = .ok (.aload_n 0, 1) := by decide +kernel
theorem dm3_326 : decode method_3_code 326 = .ok (.iload_n 1, 1) := by decide +kernel
theorem dm3_327 : decode method_3_code 327 = .ok (.bipush 28, 2) := by decide +kernel
theorem dm3_329 : decode method_3_code 329 = .ok (.iadd, 1) := by decide +kernel
theorem dm3_330 : decode method_3_code 330 = .ok (.aload_n 2, 1) := by decide +kernel
theorem dm3_331 : decode method_3_code 331 = .ok (.bipush 28, 2) := by decide +kernel
theorem dm3_333 : decode method_3_code 333 = .ok (.invokevirtual 40, 3) := by decide +kernel
theorem dm3_336 : decode method_3_code 336 = .ok (.castore, 1) := by decide +kernel
theorem dm3_337 : decode method_3_code 337 = .ok (.aload_n 0, 1) := by decide +kernel
theorem dm3_338 : decode method_3_code 338 = .ok (.iload_n 1, 1) := by decide +kernel
theorem dm3_339 : decode method_3_code 339 = .ok (.bipush 29, 2) := by decide +kernel
theorem dm3_341 : decode method_3_code 341 = .ok (.iadd, 1) := by decide +kernel
theorem dm3_342 : decode method_3_code 342 = .ok (.aload_n 2, 1) := by decide +kernel
theorem dm3_343 : decode method_3_code 343 = .ok (.bipush 29, 2) := by decide +kernel
theorem dm3_345 : decode method_3_code 345 = .ok (.invokevirtual 40, 3) := by decide +kernel
theorem dm3_348 : decode method_3_code 348 = .ok (.castore, 1) := by decide +kernel
theorem dm3_349 : decode method_3_code 349 = .ok (.aload_n 0, 1) := by decide +kernel
theorem dm3_350 : decode method_3_code 350 = .ok (.iload_n 1, 1) := by decide +kernel
theorem dm3_351 : decode method_3_code 351 = .ok (.bipush 30, 2) := by decide +kernel
theorem dm3_353 : decode method_3_code 353 = .ok (.iadd, 1) := by decide +kernel
theorem dm3_354 : decode method_3_code 354 = .ok (.aload_n 2, 1) := by decide +kernel
theorem dm3_355 : decode method_3_code 355 = .ok (.bipush 30, 2) := by decide +kernel
theorem dm3_357 : decode method_3_code 357 = .ok (.invokevirtual 40, 3) := by decide +kernel
theorem dm3_360 : decode method_3_code 360 = .ok (.castore, 1) := by decide +kernel
theorem dm3_361 : decode method_3_code 361 = .ok (.aload_n 0, 1) := by decide +kernel
theorem dm3_362 : decode method_3_code 362 = .ok (.iload_n 1, 1) := by decide +kernel
theorem dm3_363 : decode method_3_code 363 = .ok (.bipush 31, 2) := by decide +kernel
theorem dm3_365 : decode method_3_code 365 = .ok (.iadd, 1) := by decide +kernel
theorem dm3_366 : decode method_3_code 366 = .ok (.aload_n 2, 1) := by decide +kernel
theorem dm3_367 : decode method_3_code 367 = .ok (.bipush 31, 2) := by decide +kernel
theorem dm3_369 : decode method_3_code 369 = .ok (.invokevirtual 40, 3) := by decide +kernel
theorem dm3_372 : decode method_3_code 372 = .ok (.castore, 1) := by decide +kernel
theorem dm3_373 : decode method_3_code 373 = .ok (.aload_n 0, 1) := by decide +kernel
theorem dm3_374 : decode method_3_code 374 = .ok (.iload_n 1, 1) := by decide +kernel
theorem dm3_375 : decode method_3_code 375 = .ok (.bipush 32, 2) := by decide +kernel
theorem dm3_377 : decode method_3_code 377 = .ok (.iadd, 1) := by decide +kernel
theorem dm3_378 : decode method_3_code 378 = .ok (.aload_n 2, 1) := by decide +kernel
theorem dm3_379 : decode method_3_code 379 = .ok (.bipush 32, 2) := by decide +kernel
theorem dm3_381 : decode method_3_code 381 = .ok (.invokevirtual 40, 3) := by decide +kernel
theorem dm3_384 : decode method_3_code 384 = .ok (.castore, 1) := by decide +kernel
theorem dm3_385 : decode method_3_code 385 = .ok (.aload_n 0, 1) := by decide +kernel
theorem dm3_386 : decode method_3_code 386 = .ok (.iload_n 1, 1) := by decide +kernel
theorem dm3_387 : decode method_3_code 387 = .ok (.bipush 33, 2) := by decide +kernel
theorem dm3_389 : decode method_3_code 389 = .ok (.iadd, 1) := by decide +kernel
theorem dm3_390 : decode method_3_code 390 = .ok (.aload_n 2, 1) := by decide +kernel
theorem dm3_391 : decode method_3_code 391 = .ok (.bipush 33, 2) := by decide +kernel
theorem dm3_393 : decode method_3_code 393 = .ok (.invokevirtual 40, 3) := by decide +kernel
theorem dm3_396 : decode method_3_code 396 = .ok (.castore, 1) := by decide +kernel
theorem dm3_397 : decode method_3_code 397 = .ok (.aload_n 0, 1) := by decide +kernel
theorem dm3_398 : decode method_3_code 398 = .ok (.iload_n 1, 1) := by decide +kernel
theorem dm3_399 : decode method_3_code 399 = .ok (.bipush 34, 2) := by decide +kernel
theorem dm3_401 : decode method_3_code 401 = .ok (.iadd, 1) := by decide +kernel
theorem dm3_402 : decode method_3_code 402 = .ok (.aload_n 2, 1) := by decide +kernel
theorem dm3_403 : decode method_3_code 403 = .ok (.bipush 34, 2) := by decide +kernel
theorem dm3_405 : decode method_3_code 405 = .ok (.invokevirtual 40, 3) := by decide +kernel
theorem dm3_408 : decode method_3_code 408 = .ok (.castore, 1) := by decide +kernel
theorem dm3_409 : decode method_3_code 409 = .ok (.aload_n 0, 1) := by decide +kernel
theorem dm3_410 : decode method_3_code 410 = .ok (.iload_n 1, 1) := by decide +kernel
theorem dm3_411 : decode method_3_code 411 = .ok (.bipush 35, 2) := by decide +kernel
theorem dm3_413 : decode method_3_code 413 = .ok (.iadd, 1) := by decide +kernel
theorem dm3_414 : decode method_3_code 414 = .ok (.aload_n 2, 1) := by decide +kernel
theorem dm3_415 : decode method_3_code 415 = .ok (.bipush 35, 2) := by decide +kernel
theorem dm3_417 : decode method_3_code 417 = .ok (.invokevirtual 40, 3) := by decide +kernel
theorem dm3_420 : decode method_3_code 420 = .ok (.castore, 1) := by decide +kernel
theorem dm3_421 : decode method_3_code 421 = .ok (.aload_n 0, 1) := by decide +kernel
theorem dm3_422 : decode method_3_code 422 = .ok (.iload_n 1, 1) := by decide +kernel
theorem dm3_423 : decode method_3_code 423 = .ok (.bipush 36, 2) := by decide +kernel
theorem dm3_425 : decode method_3_code 425 = .ok (.iadd, 1) := by decide +kernel
theorem dm3_426 : decode method_3_code 426 = .ok (.aload_n 2, 1) := by decide +kernel
theorem dm3_427 : decode method_3_code 427 = .ok (.bipush 36, 2) := by decide +kernel
theorem dm3_429 : decode method_3_code 429 = .ok (.invokevirtual 40, 3) := by decide +kernel
theorem dm3_432 : decode method_3_code 432 = .ok (.castore, 1) := by decide +kernel
theorem dm3_433 : decode method_3_code 433 = .ok (.aload_n 0, 1) := by decide +kernel
theorem dm3_434 : decode method_3_code 434 = .ok (.iload_n 1, 1) := by decide +kernel
theorem dm3_435 : decode method_3_code 435 = .ok (.bipush 37, 2) := by decide +kernel
theorem dm3_437 : decode method_3_code 437 = .ok (.iadd, 1) := by decide +kernel
theorem dm3_438 : decode method_3_code 438 = .ok (.aload_n 2, 1) := by decide +kernel
theorem dm3_439 : decode method_3_code 439 = .ok (.bipush 37, 2) := by decide +kernel
theorem dm3_441 : decode method_3_code 441 = .ok (.invokevirtual 40, 3) := by decide +kernel
theorem dm3_444 : decode method_3_code 444 = .ok (.castore, 1) := by decide +kernel
theorem dm3_445 : decode method_3_code 445 = .ok (.aload_n 0, 1) := by decide +kernel
theorem dm3_446 : decode method_3_code 446 = .ok (.iload_n 1, 1) := by decide +kernel
theorem dm3_447 : decode method_3_code 447 = .ok (.bipush 38, 2) := by decide +kernel
theorem dm3_449 : decode method_3_code 449 = .ok (.iadd, 1) := by decide +kernel
theorem dm3_450 : decode method_3_code 450 = .ok (.aload_n 2, 1) := by decide +kernel
theorem dm3_451 : decode method_3_code 451 = .ok (.bipush 38, 2) := by decide +kernel
theorem dm3_453 : decode method_3_code 453 = .ok (.invokevirtual 40, 3) := by decide +kernel
theorem dm3_456 : decode method_3_code 456 = .ok (.castore, 1) := by decide +kernel
theorem dm3_457 : decode method_3_code 457 = .ok (.aload_n 0, 1) := by decide +kernel
theorem dm3_458 : decode method_3_code 458 = .ok (.iload_n 1, 1) := by decide +kernel
theorem dm3_459 : decode method_3_code 459 = .ok (.bipush 39, 2) := by decide +kernel
theorem dm3_461 : decode method_3_code 461 = .ok (.iadd, 1) := by decide +kernel
theorem dm3_462 : decode method_3_code 462 = .ok (.aload_n 2, 1) := by decide +kernel
theorem dm3_463 : decode method_3_code 463 = .ok (.bipush 39, 2) := by decide +kernel
theorem dm3_465 : decode method_3_code 465 = .ok (.invokevirtual 40, 3) := by decide +kernel
theorem dm3_468 : decode method_3_code 468 = .ok (.castore, 1) := by decide +kernel
theorem dm3_469 : decode method_3_code 469 = .ok (.aload_n 0, 1) := by decide +kernel
theorem dm3_470 : decode method_3_code 470 = .ok (.iload_n 1, 1) := by decide +kernel
theorem dm3_471 : decode method_3_code 471 = .ok (.bipush 40, 2) := by decide +kernel
theorem dm3_473 : decode method_3_code 473 = .ok (.iadd, 1) := by decide +kernel
theorem dm3_474 : decode method_3_code 474 = .ok (.aload_n 2, 1) := by decide +kernel
theorem dm3_475 : decode method_3_code 475 = .ok (.bipush 40, 2) := by decide +kernel
theorem dm3_477 : decode method_3_code 477 = .ok (.invokevirtual 40, 3) := by decide +kernel
theorem dm3_480 : decode method_3_code 480 = .ok (.castore, 1) := by decide +kernel
theorem dm3_481 : decode method_3_code 481 = .ok (.aload_n 0, 1) := by decide +kernel
theorem dm3_482 : decode method_3_code 482 = .ok (.iload_n 1, 1) := by decide +kernel
theorem dm3_483 : decode method_3_code 483 = .ok (.bipush 41, 2) := by decide +kernel
theorem dm3_485 : decode method_3_code 485 = .ok (.iadd, 1) := by decide +kernel
theorem dm3_486 : decode method_3_code 486 = .ok (.aload_n 2, 1) := by decide +kernel
theorem dm3_487 : decode method_3_code 487 = .ok (.bipush 41, 2) := by decide +kernel
theorem dm3_489 : decode method_3_code 489 = .ok (.invokevirtual 40, 3) := by decide +kernel
theorem dm3_492 : decode method_3_code 492 = .ok (.castore, 1) := by decide +kernel
theorem dm3_493 : decode method_3_code 493 = .ok (.aload_n 0, 1) := by decide +kernel
theorem dm3_494 : decode method_3_code 494 = .ok (.iload_n 1, 1) := by decide +kernel
theorem dm3_495 : decode method_3_code 495 = .ok (.bipush 42, 2) := by decide +kernel
theorem dm3_497 : decode method_3_code 497 = .ok (.iadd, 1) := by decide +kernel
theorem dm3_498 : decode method_3_code 498 = .ok (.aload_n 2, 1) := by decide +kernel
theorem dm3_499 : decode method_3_code 499 = .ok (.bipush 42, 2) := by decide +kernel
theorem dm3_501 : decode method_3_code 501 = .ok (.invokevirtual 40, 3) := by decide +kernel
theorem dm3_504 : decode method_3_code 504 = .ok (.castore, 1) := by decide +kernel
theorem dm3_505 : decode method_3_code 505 = .ok (.aload_n 0, 1) := by decide +kernel
theorem dm3_506 : decode method_3_code 506 = .ok (.iload_n 1, 1) := by decide +kernel
theorem dm3_507 : decode method_3_code 507 = .ok (.bipush 43, 2) := by decide +kernel
theorem dm3_509 : decode method_3_code 509 = .ok (.iadd, 1) := by decide +kernel
theorem dm3_510 : decode method_3_code 510 = .ok (.aload_n 2, 1) := by decide +kernel
theorem dm3_511 : decode method_3_code 511 = .ok (.bipush 43, 2) := by decide +kernel
theorem dm3_513 : decode method_3_code 513 = .ok (.invokevirtual 40, 3) := by decide +kernel
theorem dm3_516 : decode method_3_code 516 = .ok (.castore, 1) := by decide +kernel
theorem dm3_517 : decode method_3_code 517 = .ok (.aload_n 0, 1) := by decide +kernel
theorem dm3_518 : decode method_3_code 518 = .ok (.iload_n 1, 1) := by decide +kernel
theorem dm3_519 : decode method_3_code 519 = .ok (.bipush 44, 2) := by decide +kernel
theorem dm3_521 : decode method_3_code 521 = .ok (.iadd, 1) := by decide +kernel
theorem dm3_522 : decode method_3_code 522 = .ok (.aload_n 2, 1) := by decide +kernel
theorem dm3_523 : decode method_3_code 523 = .ok (.bipush 44, 2) := by decide +kernel
theorem dm3_525 : decode method_3_code 525 = .ok (.invokevirtual 40, 3) := by decide +kernel
theorem dm3_528 : decode method_3_code 528 = .ok (.castore, 1) := by decide +kernel
theorem dm3_529 : decode method_3_code 529 = .ok (.aload_n 0, 1) := by decide +kernel
theorem dm3_530 : decode method_3_code 530 = .ok (.iload_n 1, 1) := by decide +kernel
theorem dm3_531 : decode method_3_code 531 = .ok (.bipush 45, 2) := by decide +kernel
theorem dm3_533 : decode method_3_code 533 = .ok (.iadd, 1) := by decide +kernel
theorem dm3_534 : decode method_3_code 534 = .ok (.aload_n 2, 1) := by decide +kernel
theorem dm3_535 : decode method_3_code 535 = .ok (.bipush 45, 2) := by decide +kernel
theorem dm3_537 : decode method_3_code 537 = .ok (.invokevirtual 40, 3) := by decide +kernel
theorem dm3_540 : decode method_3_code 540 = .ok (.castore, 1) := by decide +kernel
theorem dm3_541 : decode method_3_code 541 = .ok (.aload_n 0, 1) := by decide +kernel
theorem dm3_542 : decode method_3_code 542 = .ok (.iload_n 1, 1) := by decide +kernel
theorem dm3_543 : decode method_3_code 543 = .ok (.bipush 46, 2) := by decide +kernel
theorem dm3_545 : decode method_3_code 545 = .ok (.iadd, 1) := by decide +kernel
theorem dm3_546 : decode method_3_code 546 = .ok (.aload_n 2, 1) := by decide +kernel
theorem dm3_547 : decode method_3_code 547 = .ok (.bipush 46, 2) := by decide +kernel
theorem dm3_549 : decode method_3_code 549 = .ok (.invokevirtual 40, 3) := by decide +kernel
theorem dm3_552 : decode method_3_code 552 = .ok (.castore, 1) := by decide +kernel
theorem dm3_553 : decode method_3_code 553 = .ok (.aload_n 0, 1) := by decide +kernel
theorem dm3_554 : decode method_3_code 554 = .ok (.iload_n 1, 1) := by decide +kernel
theorem dm3_555 : decode method_3_code 555 = .ok (.bipush 47, 2) := by decide +kernel
theorem dm3_557 : decode method_3_code 557 = .ok (.iadd, 1) := by decide +kernel
theorem dm3_558 : decode method_3_code 558 = .ok (.aload_n 2, 1) := by decide +kernel
theorem dm3_559 : decode method_3_code 559 = .ok (.bipush 47, 2) := by decide +kernel
theorem dm3_561 : decode method_3_code 561 = .ok (.invokevirtual 40, 3) := by decide +kernel
theorem dm3_564 : decode method_3_code 564 = .ok (.castore, 1) := by decide +kernel
theorem dm3_565 : decode method_3_code 565 = .ok (.aload_n 0, 1) := by decide +kernel
theorem dm3_566 : decode method_3_code 566 = .ok (.iload_n 1, 1) := by decide +kernel
theorem dm3_567 : decode method_3_code 567 = .ok (.bipush 48, 2) := by decide +kernel
theorem dm3_569 : decode method_3_code 569 = .ok (.iadd, 1) := by decide +kernel
theorem dm3_570 : decode method_3_code 570 = .ok (.aload_n 2, 1) := by decide +kernel
theorem dm3_571 : decode method_3_code 571 = .ok (.bipush 48, 2) := by decide +kernel
theorem dm3_573 : decode method_3_code 573 = .ok (.invokevirtual 40, 3) := by decide +kernel
theorem dm3_576 : decode method_3_code 576 = .ok (.castore, 1) := by decide +kernel
theorem dm3_577 : decode method_3_code 577 = .ok (.aload_n 0, 1) := by decide +kernel
theorem dm3_578 : decode method_3_code 578 = .ok (.iload_n 1, 1) := by decide +kernel
theorem dm3_579 : decode method_3_code 579 = .ok (.bipush 49, 2) := by decide +kernel
theorem dm3_581 : decode method_3_code 581 = .ok (.iadd, 1) := by decide +kernel
theorem dm3_582 : decode method_3_code 582 = .ok (.aload_n 2, 1) := by decide +kernel
theorem dm3_583 : decode method_3_code 583 = .ok (.bipush 49, 2) := by decide +kernel
theorem dm3_585 : decode method_3_code 585 = .ok (.invokevirtual 40, 3) := by decide +kernel
theorem dm3_588 : decode method_3_code 588 = .ok (.castore, 1) := by decide +kernel
theorem dm3_589 : decode method_3_code 589 = .ok (.aload_n 0, 1) := by decide +kernel
theorem dm3_590 : decode method_3_code 590 = .ok (.iload_n 1, 1) := by decide +kernel
theorem dm3_591 : decode method_3_code 591 = .ok (.bipush 50, 2) := by decide +kernel
theorem dm3_593 : decode method_3_code 593 = .ok (.iadd, 1) := by decide +kernel
theorem dm3_594 : decode method_3_code 594 = .ok (.aload_n 2, 1) := by decide +kernel
theorem dm3_595 : decode method_3_code 595 = .ok (.bipush 50, 2) := by decide +kernel
theorem dm3_597 : decode method_3_code 597 = .ok (.invokevirtual 40, 3) := by decide +kernel
theorem dm3_600 : decode method_3_code 600 = .ok (.castore, 1) := by decide +kernel
theorem dm3_601 : decode method_3_code 601 = .ok (.aload_n 0, 1) := by decide +kernel
theorem dm3_602 : decode method_3_code 602 = .ok (.iload_n 1, 1) := by decide +kernel
theorem dm3_603 : decode method_3_code 603 = .ok (.bipush 51, 2) := by decide +kernel
theorem dm3_605 : decode method_3_code 605 = .ok (.iadd, 1) := by decide +kernel
theorem dm3_606 : decode method_3_code 606 = .ok (.aload_n 2, 1) := by decide +kernel
theorem dm3_607 : decode method_3_code 607 = .ok (.bipush 51, 2) := by decide +kernel
theorem dm3_609 : decode method_3_code 609 = .ok (.invokevirtual 40, 3) := by decide +kernel
theorem dm3_612 : decode method_3_code 612 = .ok (.castore, 1) := by decide +kernel
theorem dm3_613 : decode method_3_code 613 = .ok (.aload_n 0, 1) := by decide +kernel
theorem dm3_614 : decode method_3_code 614 = .ok (.iload_n 1, 1) := by decide +kernel
theorem dm3_615 : decode method_3_code 615 = .ok (.bipush 52, 2) := by decide +kernel
theorem dm3_617 : decode method_3_code 617 = .ok (.iadd, 1) := by decide +kernel
theorem dm3_618 : decode method_3_code 618 = .ok (.aload_n 2, 1) := by decide +kernel
theorem dm3_619 : decode method_3_code 619 = .ok (.bipush 52, 2) := by decide +kernel
theorem dm3_621 : decode method_3_code 621 = .ok (.invokevirtual 40, 3) := by decide +kernel
theorem dm3_624 : decode method_3_code 624 = .ok (.castore, 1) := by decide +kernel
theorem dm3_625 : decode method_3_code 625 = .ok (.aload_n 0, 1) := by decide +kernel
theorem dm3_626 : decode method_3_code 626 = .ok (.iload_n 1, 1) := by decide +kernel
theorem dm3_627 : decode method_3_code 627 = .ok (.bipush 53, 2) := by decide +kernel
theorem dm3_629 : decode method_3_code 629 = .ok (.iadd, 1) := by decide +kernel
theorem dm3_630 : decode method_3_code 630 = .ok (.aload_n 2, 1) := by decide +kernel
theorem dm3_631 : decode method_3_code 631 = .ok (.bipush 53, 2) := by decide +kernel
theorem dm3_633 : decode method_3_code 633 = .ok (.invokevirtual 40, 3) := by decide +kernel
theorem dm3_636 : decode method_3_code 636 = .ok (.castore, 1) := by decide +kernel
theorem dm3_637 : decode method_3_code 637 = .ok (.aload_n 0, 1) := by decide +kernel
theorem dm3_638 : decode method_3_code 638 = .ok (.iload_n 1, 1) := by decide +kernel
theorem dm3_639 : decode method_3_code 639 = .ok (.bipush 54, 2) := by decide +kernel
theorem dm3_641 : decode method_3_code 641 = .ok (.iadd, 1) := by decide +kernel
theorem dm3_642 : decode method_3_code 642 = .ok (.aload_n 2, 1) := by decide +kernel
theorem dm3_643 : decode method_3_code 643 = .ok (.bipush 54, 2) := by decide +kernel
theorem dm3_645 : decode method_3_code 645 = .ok (.invokevirtual 40, 3) := by decide +kernel
theorem dm3_648 : decode method_3_code 648 = .ok (.castore, 1) := by decide +kernel
theorem dm3_649 : decode method_3_code 649 = .ok (.aload_n 0, 1) := by decide +kernel
theorem dm3_650 : decode method_3_code 650 = .ok (.iload_n 1, 1) := by decide +kernel
theorem dm3_651 : decode method_3_code 651 = .ok (.bipush 55, 2) := by decide +kernel
theorem dm3_653 : decode method_3_code 653 = .ok (.iadd, 1) := by decide +kernel
theorem dm3_654 : decode method_3_code 654 = .ok (.aload_n 2, 1) := by decide +kernel
theorem dm3_655 : decode method_3_code 655 = .ok (.bipush 55, 2) := by decide +kernel
theorem dm3_657 : decode method_3_code 657 = .ok (.invokevirtual 40, 3) := by decide +kernel
theorem dm3_660 : decode method_3_code 660 = .ok (.castore, 1) := by decide +kernel
theorem dm3_661 : decode method_3_code 661 = .ok (.aload_n 0, 1) := by decide +kernel
theorem dm3_662 : decode method_3_code 662 = .ok (.iload_n 1, 1) := by decide +kernel
theorem dm3_663 : decode method_3_code 663 = .ok (.bipush 56, 2) := by decide +kernel
theorem dm3_665 : decode method_3_code 665 = .ok (.iadd, 1) := by decide +kernel
theorem dm3_666 : decode method_3_code 666 = .ok (.aload_n 2, 1) := by decide +kernel
theorem dm3_667 : decode method_3_code 667 = .ok (.bipush 56, 2) := by decide +kernel
theorem dm3_669 : decode method_3_code 669 = .ok (.invokevirtual 40, 3) := by decide +kernel
theorem dm3_672 : decode method_3_code 672 = .ok (.castore, 1) := by decide +kernel
theorem dm3_673 : decode method_3_code 673 = .ok (.aload_n 0, 1) := by decide +kernel
theorem dm3_674 : decode method_3_code 674 = .ok (.iload_n 1, 1) := by decide +kernel
theorem dm3_675 : decode method_3_code 675 = .ok (.bipush 57, 2) := by decide +kernel
theorem dm3_677 : decode method_3_code 677 = .ok (.iadd, 1) := by decide +kernel
theorem dm3_678 : decode method_3_code 678 = .ok (.aload_n 2, 1) := by decide +kernel
theorem dm3_679 : decode method_3_code 679 = .ok (.bipush 57, 2) := by decide +kernel
theorem dm3_681 : decode method_3_code 681 = .ok (.invokevirtual 40, 3) := by decide +kernel
theorem dm3_684 : decode method_3_code 684 = .ok (.castore, 1) := by decide +kernel
theorem dm3_685 : decode method_3_code 685 = .ok (.aload_n 0, 1) := by decide +kernel
theorem dm3_686 : decode method_3_code 686 = .ok (.iload_n 1, 1) := by decide +kernel
theorem dm3_687 : decode method_3_code 687 = .ok (.bipush 58, 2) := by decide +kernel
theorem dm3_689 : decode method_3_code 689 = .ok (.iadd, 1) := by decide +kernel
theorem dm3_690 : decode method_3_code 690 = .ok (.aload_n 2, 1) := by decide +kernel
theorem dm3_691 : decode method_3_code 691 = .ok (.bipush 58, 2) := by decide +kernel
theorem dm3_693 : decode method_3_code 693 = .ok (.invokevirtual 40, 3) := by decide +kernel
theorem dm3_696 : decode method_3_code 696 = .ok (.castore, 1) := by decide +kernel
theorem dm3_697 : decode method_3_code 697 = .ok (.aload_n 0, 1) := by decide +kernel
theorem dm3_698 : decode method_3_code 698 = .ok (.iload_n 1, 1) := by decide +kernel
theorem dm3_699 : decode method_3_code 699 = .ok (.bipush 59, 2) := by decide +kernel
theorem dm3_701 : decode method_3_code 701 = .ok (.iadd, 1) := by decide +kernel
theorem dm3_702 : decode method_3_code 702 = .ok (.aload_n 2, 1) := by decide +kernel
theorem dm3_703 : decode method_3_code 703 = .ok (.bipush 59, 2) := by decide +kernel
theorem dm3_705 : decode method_3_code 705 = .ok (.invokevirtual 40, 3) := by decide +kernel
theorem dm3_708 : decode method_3_code 708 = .ok (.castore, 1) := by decide +kernel
theorem dm3_709 : decode method_3_code 709 = .ok (.aload_n 0, 1) := by decide +kernel
theorem dm3_710 : decode method_3_code 710 = .ok (.iload_n 1, 1) := by decide +kernel
theorem dm3_711 : decode method_3_code 711 = .ok (.bipush 60, 2) := by decide +kernel
theorem dm3_713 : decode method_3_code 713 = .ok (.iadd, 1) := by decide +kernel
theorem dm3_714 : decode method_3_code 714 = .ok (.aload_n 2, 1) := by decide +kernel
theorem dm3_715 : decode method_3_code 715 = .ok (.bipush 60, 2) := by decide +kernel
theorem dm3_717 : decode method_3_code 717 = .ok (.invokevirtual 40, 3) := by decide +kernel
theorem dm3_720 : decode method_3_code 720 = .ok (.castore, 1) := by decide +kernel
theorem dm3_721 : decode method_3_code 721 = .ok (.aload_n 0, 1) := by decide +kernel
theorem dm3_722 : decode method_3_code 722 = .ok (.iload_n 1, 1) := by decide +kernel
theorem dm3_723 : decode method_3_code 723 = .ok (.bipush 61, 2) := by decide +kernel
theorem dm3_725 : decode method_3_code 725 = .ok (.iadd, 1) := by decide +kernel
theorem dm3_726 : decode method_3_code 726 = .ok (.aload_n 2, 1) := by decide +kernel
theorem dm3_727 : decode method_3_code 727 = .ok (.bipush 61, 2) := by decide +kernel
theorem dm3_729 : decode method_3_code 729 = .ok (.invokevirtual 40, 3) := by decide +kernel
theorem dm3_732 : decode method_3_code 732 = .ok (.castore, 1) := by decide +kernel
theorem dm3_733 : decode method_3_code 733 = .ok (.aload_n 0, 1) := by decide +kernel
theorem dm3_734 : decode method_3_code 734 = .ok (.iload_n 1, 1) := by decide +kernel
theorem dm3_735 : decode method_3_code 735 = .ok (.bipush 62, 2) := by decide +kernel
theorem dm3_737 : decode method_3_code 737 = .ok (.iadd, 1) := by decide +kernel
theorem dm3_738 : decode method_3_code 738 = .ok (.aload_n 2, 1) := by decide +kernel
theorem dm3_739 : decode method_3_code 739 = .ok (.bipush 62, 2) := by decide +kernel
theorem dm3_741 : decode method_3_code 741 = .ok (.invokevirtual 40, 3) := by decide +kernel
theorem dm3_744 : decode method_3_code 744 = .ok (.castore, 1) := by decide +kernel
theorem dm3_745 : decode method_3_code 745 = .ok (.aload_n 0, 1) := by decide +kernel
theorem dm3_746 : decode method_3_code 746 = .ok (.iload_n 1, 1) := by decide +kernel
theorem dm3_747 : decode method_3_code 747 = .ok (.bipush 63, 2) := by decide +kernel
theorem dm3_749 : decode method_3_code 749 = .ok (.iadd, 1) := by decide +kernel
theorem dm3_750 : decode method_3_code 750 = .ok (.aload_n 2, 1) := by decide +kernel
theorem dm3_751 : decode method_3_code 751 = .ok (.bipush 63, 2) := by decide +kernel
theorem dm3_753 : decode method_3_code 753 = .ok (.invokevirtual 40, 3) := by decide +kernel
theorem dm3_756 : decode method_3_code 756 = .ok (.castore, 1) := by decide +kernel
theorem dm3_757 : decode method_3_code 757 = .ok (.aload_n 0, 1) := by decide +kernel
theorem dm3_758 : decode method_3_code 758 = .ok (.iload_n 1, 1) := by decide +kernel
theorem dm3_759 : decode method_3_code 759 = .ok (.bipush 64, 2) := by decide +kernel
theorem dm3_761 : decode method_3_code 761 = .ok (.iadd, 1) := by decide +kernel
theorem dm3_762 : decode method_3_code 762 = .ok (.aload_n 2, 1) := by decide +kernel
theorem dm3_763 : decode method_3_code 763 = .ok (.bipush 64, 2) := by decide +kernel
theorem dm3_765 : decode method_3_code 765 = .ok (.invokevirtual 40, 3) := by decide +kernel
theorem dm3_768 : decode method_3_code 768 = .ok (.castore, 1) := by decide +kernel
theorem dm3_769 : decode method_3_code 769 = .ok (.aload_n 0, 1) := by decide +kernel
theorem dm3_770 : decode method_3_code 770 = .ok (.iload_n 1, 1) := by decide +kernel
theorem dm3_771 : decode method_3_code 771 = .ok (.bipush 65, 2) := by decide +kernel
theorem dm3_773 : decode method_3_code 773 = .ok (.iadd, 1) := by decide +kernel
theorem dm3_774 : decode method_3_code 774 = .ok (.aload_n 2, 1) := by decide +kernel
theorem dm3_775 : decode method_3_code 775 = .ok (.bipush 65, 2) := by decide +kernel
theorem dm3_777 : decode method_3_code 777 = .ok (.invokevirtual 40, 3) := by decide +kernel
theorem dm3_780 : decode method_3_code 780 = .ok (.castore, 1) := by decide +kernel
theorem dm3_781 : decode method_3_code 781 = .ok (.aload_n 0, 1) := by decide +kernel
theorem dm3_782 : decode method_3_code 782 = .ok (.iload_n 1, 1) := by decide +kernel
theorem dm3_783 : decode method_3_code 783 = .ok (.bipush 66, 2) := by decide +kernel
theorem dm3_785 : decode method_3_code 785 = .ok (.iadd, 1) := by decide +kernel
theorem dm3_786 : decode method_3_code 786 = .ok (.aload_n 2, 1) := by decide +kernel
theorem dm3_787 : decode method_3_code 787 = .ok (.bipush 66, 2) := by decide +kernel
theorem dm3_789 : decode method_3_code 789 = .ok (.invokevirtual 40, 3) := by decide +kernel
theorem dm3_792 : decode method_3_code 792 = .ok (.castore, 1) := by decide +kernel
theorem dm3_793 : decode method_3_code 793 = .ok (.aload_n 0, 1) := by decide +kernel
theorem dm3_794 : decode method_3_code 794 = .ok (.iload_n 1, 1) := by decide +kernel
theorem dm3_795 : decode method_3_code 795 = .ok (.bipush 67, 2) := by decide +kernel
theorem dm3_797 : decode method_3_code 797 = .ok (.iadd, 1) := by decide +kernel
theorem dm3_798 : decode method_3_code 798 = .ok (.aload_n 2, 1) := by decide +kernel
theorem dm3_799 : decode method_3_code 799 = .ok (.bipush 67, 2) := by decide +kernel
theorem dm3_801 : decode method_3_code 801 = .ok (.invokevirtual 40, 3) := by decide +kernel
theorem dm3_804 : decode method_3_code 804 = .ok (.castore, 1) := by decide +kernel
theorem dm3_805 : decode method_3_code 805 = .ok (.aload_n 0, 1) := by decide +kernel
theorem dm3_806 : decode method_3_code 806 = .ok (.iload_n 1, 1) := by decide +kernel
theorem dm3_807 : decode method_3_code 807 = .ok (.bipush 68, 2) := by decide +kernel
theorem dm3_809 : decode method_3_code 809 = .ok (.iadd, 1) := by decide +kernel
theorem dm3_810 : decode method_3_code 810 = .ok (.aload_n 2, 1) := by decide +kernel
theorem dm3_811 : decode method_3_code 811 = .ok (.bipush 68, 2) := by decide +kernel
theorem dm3_813 : decode method_3_code 813 = .ok (.invokevirtual 40, 3) := by decide +kernel
theorem dm3_816 : decode method_3_code 816 = .ok (.castore, 1) := by decide +kernel
theorem dm3_817 : decode method_3_code 817 = .ok (.return_, 1) := by decide +kernel
theorem dj42_56_0 : decode jdk_42_method_56_code 0 = .ok (.aload_n 0, 1) := by decide +kernel
theorem dj42_56_1 : decode jdk_42_method_56_code 1 = .ok (.invokevirtual 492, 3) := by decide +kernel
theorem dj42_56_4 : decode jdk_42_method_56_code 4 = .ok (.ifCond .eq 12, 3) := by decide +kernel
theorem dj42_56_7 : decode jdk_42_method_56_code 7 = .ok (.aload_n 0, 1) := by decide +kernel
theorem dj42_56_8 : decode jdk_42_method_56_code 8 = .ok (.getfield 9, 3) := by decide +kernel
theorem dj42_56_11 : decode jdk_42_method_56_code 11 = .ok (.iload_n 1, 1) := by decide +kernel
theorem dj42_56_12 : decode jdk_42_method_56_code 12 = .ok (.invokestatic 495, 3) := by decide +kernel
theorem dj42_56_15 : decode jdk_42_method_56_code 15 = .ok (.ireturn, 1) := by decide +kernel
theorem dj42_56_16 : decode jdk_42_method_56_code 16 = .ok (.aload_n 0, 1) := by decide +kernel
theorem dj42_56_17 : decode jdk_42_method_56_code 17 = .ok (.getfield 9, 3) := by decide +kernel
theorem dj42_56_20 : decode jdk_42_method_56_code 20 = .ok (.iload_n 1, 1) := by decide +kernel
theorem dj42_56_21 : decode jdk_42_method_56_code 21 = .ok (.invokestatic 498, 3) := by decide +kernel
theorem dj42_56_24 : decode jdk_42_method_56_code 24 = .ok (.ireturn, 1) := by decide +kernel
theorem dj42_154_0 : decode jdk_42_method_154_code 0 = .ok (.getstatic 38, 3) := by decide +kernel
theorem dj42_154_3 : decode jdk_42_method_154_code 3 = .ok (.ifCond .eq 14, 3) := by decide +kernel
theorem dj42_154_6 : decode jdk_42_method_154_code 6 = .ok (.aload_n 0, 1) := by decide +kernel
theorem dj42_154_7 : decode jdk_42_method_154_code 7 = .ok (.getfield 15, 3) := by decide +kernel
theorem dj42_154_10 : decode jdk_42_method_154_code 10 = .ok (.ifCond .ne 7, 3) := by decide +kernel
theorem dj42_154_13 : decode jdk_42_method_154_code 13 = .ok (.iconst 1, 1) := by decide +kernel
theorem dj42_154_14 : decode jdk_42_method_154_code 14 = .ok (.goto 4, 3) := by decide +kernel
theorem dj42_154_17 : decode jdk_42_method_154_code 17 = .ok (.iconst 0, 1) := by decide +kernel
theorem dj42_154_18 : decode jdk_42_method_154_code 18 = .ok (.ireturn, 1) := by decide +kernel
theorem dj43_2_0 : decode jdk_43_method_2_code 0 = .ok (.iload_n 1, 1) := by decide +kernel
theorem dj43_2_1 : decode jdk_43_method_2_code 1 = .ok (.aload_n 0, 1) := by decide +kernel
theorem dj43_2_2 : decode jdk_43_method_2_code 2 = .ok (.arraylength, 1) := by decide +kernel
theorem dj43_2_3 : decode jdk_43_method_2_code 3 = .ok (.invokestatic 9, 3) := by decide +kernel
theorem dj43_2_6 : decode jdk_43_method_2_code 6 = .ok (.aload_n 0, 1) := by decide +kernel
theorem dj43_2_7 : decode jdk_43_method_2_code 7 = .ok (.iload_n 1, 1) := by decide +kernel
theorem dj43_2_8 : decode jdk_43_method_2_code 8 = .ok (.baload, 1) := by decide +kernel
theorem dj43_2_9 : decode jdk_43_method_2_code 9 = .ok (.sipush 255, 3) := by decide +kernel
theorem dj43_2_12 : decode jdk_43_method_2_code 12 = .ok (.iand, 1) := by decide +kernel
theorem dj43_2_13 : decode jdk_43_method_2_code 13 = .ok (.i2c, 1) := by decide +kernel
theorem dj43_2_14 : decode jdk_43_method_2_code 14 = .ok (.ireturn, 1) := by decide +kernel
theorem dj42_155_0 : decode jdk_42_method_155_code 0 = .ok (.iload_n 0, 1) := by decide +kernel
theorem dj42_155_1 : decode jdk_42_method_155_code 1 = .ok (.iload_n 1, 1) := by decide +kernel
theorem dj42_155_2 : decode jdk_42_method_155_code 2 = .ok (.getstatic 1053, 3) := by decide +kernel
theorem dj42_155_5 : decode jdk_42_method_155_code 5 = .ok (.invokestatic 1059, 3) := by decide +kernel
theorem dj42_155_8 : decode jdk_42_method_155_code 8 = .ok (.pop, 1) := by decide +kernel
theorem dj42_155_9 : decode jdk_42_method_155_code 9 = .ok (.return_, 1) := by decide +kernel
theorem dj41_11_0 : decode jdk_41_method_11_code 0 = .ok (.iload_n 0, 1) := by decide +kernel
theorem dj41_11_1 : decode jdk_41_method_11_code 1 = .ok (.ifCond .lt 8, 3) := by decide +kernel
theorem dj41_11_4 : decode jdk_41_method_11_code 4 = .ok (.iload_n 0, 1) := by decide +kernel
theorem dj41_11_5 : decode jdk_41_method_11_code 5 = .ok (.iload_n 1, 1) := by decide +kernel
theorem dj41_11_6 : decode jdk_41_method_11_code 6 = .ok (.if_icmp .lt 10, 3) := by decide +kernel
theorem dj41_11_9 : decode jdk_41_method_11_code 9 = .ok (.aload_n 2, 1) := by decide +kernel
theorem dj41_11_10 : decode jdk_41_method_11_code 10 = .ok (.iload_n 0, 1) := by decide +kernel
theorem dj41_11_11 : decode jdk_41_method_11_code 11 = .ok (.iload_n 1, 1) := by decide +kernel
theorem dj41_11_12 : decode jdk_41_method_11_code 12 = .ok (.invokestatic 95, 3) := by decide +kernel
theorem dj41_11_15 : decode jdk_41_method_11_code 15 = .ok (.athrow, 1) := by decide +kernel
theorem dj41_11_16 : decode jdk_41_method_11_code 16 = .ok (.iload_n 0, 1) := by decide +kernel
theorem dj41_11_17 : decode jdk_41_method_11_code 17 = .ok (.ireturn, 1) := by decide +kernel
theorem dj42_3_0 : decode jdk_42_method_3_code 0 = .ok (.aload_n 0, 1) := by decide +kernel
theorem dj42_3_1 : decode jdk_42_method_3_code 1 = .ok (.aload_n 1, 1) := by decide +kernel
theorem dj42_3_2 : decode jdk_42_method_3_code 2 = .ok (.iconst 0, 1) := by decide +kernel
theorem dj42_3_3 : decode jdk_42_method_3_code 3 = .ok (.aload_n 1, 1) := by decide +kernel
theorem dj42_3_4 : decode jdk_42_method_3_code 4 = .ok (.arraylength, 1) := by decide +kernel
theorem dj42_3_5 : decode jdk_42_method_3_code 5 = .ok (.aconst_null, 1) := by decide +kernel
theorem dj42_3_6 : decode jdk_42_method_3_code 6 = .ok (.invokespecial 27, 3) := by decide +kernel
theorem dj42_3_9 : decode jdk_42_method_3_code 9 = .ok (.return_, 1) := by decide +kernel
theorem dj42_149_0 : decode jdk_42_method_149_code 0 = .ok (.aload_n 0, 1) := by decide +kernel
theorem dj42_149_1 : decode jdk_42_method_149_code 1 = .ok (.invokespecial 1, 3) := by decide +kernel
theorem dj42_149_4 : decode jdk_42_method_149_code 4 = .ok (.iload_n 3, 1) := by decide +kernel
theorem dj42_149_5 : decode jdk_42_method_149_code 5 = .ok (.ifCond .ne 22, 3) := by decide +kernel
theorem dj42_149_8 : decode jdk_42_method_149_code 8 = .ok (.aload_n 0, 1) := by decide +kernel
theorem dj42_149_9 : decode jdk_42_method_149_code 9 = .ok (.ldc 7, 2) := by decide +kernel
theorem dj42_149_11 : decode jdk_42_method_149_code 11 = .ok (.getfield 9, 3) := by decide +kernel
theorem dj42_149_14 : decode jdk_42_method_149_code 14 = .ok (.putfield 9, 3) := by decide +kernel
theorem dj42_149_17 : decode jdk_42_method_149_code 17 = .ok (.aload_n 0, 1) := by decide +kernel
theorem dj42_149_18 : decode jdk_42_method_149_code 18 = .ok (.ldc 7, 2) := by decide +kernel
theorem dj42_149_20 : decode jdk_42_method_149_code 20 = .ok (.getfield 15, 3) := by decide +kernel
theorem dj42_149_23 : decode jdk_42_method_149_code 23 = .ok (.putfield 15, 3) := by decide +kernel
theorem dj42_149_26 : decode jdk_42_method_149_code 26 = .ok (.return_, 1) := by decide +kernel
theorem dj42_149_27 : decode jdk_42_method_149_code 27 = .ok (.getstatic 38, 3) := by decide +kernel
theorem dj42_149_30 : decode jdk_42_method_149_code 30 = .ok (.ifCond .eq 28, 3) := by decide +kernel
theorem dj42_149_33 : decode jdk_42_method_149_code 33 = .ok (.aload_n 1, 1) := by decide +kernel
theorem dj42_149_34 : decode jdk_42_method_149_code 34 = .ok (.iload_n 2, 1) := by decide +kernel
theorem dj42_149_35 : decode jdk_42_method_149_code 35 = .ok (.iload_n 3, 1) := by decide +kernel
theorem dj42_149_36 : decode jdk_42_method_149_code 36 = .ok (.invokestatic 177, 3) := by decide +kernel
theorem dj42_149_39 : decode jdk_42_method_149_code 39 = .ok (.astore 5, 2) := by decide +kernel
theorem dj42_149_41 : decode jdk_42_method_149_code 41 = .ok (.aload_n 0, 1) := by decide +kernel
theorem dj42_149_42 : decode jdk_42_method_149_code 42 = .ok (.aload 5, 2) := by decide +kernel
theorem dj42_149_44 : decode jdk_42_method_149_code 44 = .ok (.iload_n 3, 1) := by decide +kernel
theorem dj42_149_45 : decode jdk_42_method_149_code 45 = .ok (.invokestatic 47, 3) := by decide +kernel
theorem dj42_149_48 : decode jdk_42_method_149_code 48 = .ok (.putfield 15, 3) := by decide +kernel
theorem dj42_149_51 : decode jdk_42_method_149_code 51 = .ok (.aload_n 0, 1) := by decide +kernel
theorem dj42_149_52 : decode jdk_42_method_149_code 52 = .ok (.aload 5, 2) := by decide +kernel
theorem dj42_149_54 : decode jdk_42_method_149_code 54 = .ok (.putfield 9, 3) := by decide +kernel
theorem dj42_149_57 : decode jdk_42_method_149_code 57 = .ok (.return_, 1) := by decide +kernel
theorem dj42_149_58 : decode jdk_42_method_149_code 58 = .ok (.aload_n 0, 1) := by decide +kernel
theorem dj42_149_59 : decode jdk_42_method_149_code 59 = .ok (.iconst 1, 1) := by decide +kernel
theorem dj42_149_60 : decode jdk_42_method_149_code 60 = .ok (.putfield 15, 3) := by decide +kernel
theorem dj42_149_63 : decode jdk_42_method_149_code 63 = .ok (.aload_n 0, 1) := by decide +kernel
theorem dj42_149_64 : decode jdk_42_method_149_code 64 = .ok (.aload_n 1, 1) := by decide +kernel
theorem dj42_149_65 : decode jdk_42_method_149_code 65 = .ok (.iload_n 2, 1) := by decide +kernel
theorem dj42_149_66 : decode jdk_42_method_149_code 66 = .ok (.iload_n 3, 1) := by decide +kernel
theorem dj42_149_67 : decode jdk_42_method_149_code 67 = .ok (.invokestatic 180, 3) := by decide +kernel
theorem dj42_149_70 : decode jdk_42_method_149_code 70 = .ok (.putfield 9, 3) := by decide +kernel
theorem dj42_149_73 : decode jdk_42_method_149_code 73 = .ok (.return_, 1) := by decide +kernel
theorem dobject_method_1_0 : decode object_method_1_code 0 = .ok (.return_, 1) := by decide +kernel
theorem dj52_16_0 : decode jdk_52_method_16_code 0 = .ok (.iload_n 2, 1) := by decide +kernel
theorem dj52_16_1 : decode jdk_52_method_16_code 1 = .ok (.newarray .byte, 2) := by decide +kernel
theorem dj52_16_3 : decode jdk_52_method_16_code 3 = .ok (.astore_n 3, 1) := by decide +kernel
theorem dj52_16_4 : decode jdk_52_method_16_code 4 = .ok (.aload_n 0, 1) := by decide +kernel
theorem dj52_16_5 : decode jdk_52_method_16_code 5 = .ok (.iload_n 1, 1) := by decide +kernel
theorem dj52_16_6 : decode jdk_52_method_16_code 6 = .ok (.aload_n 3, 1) := by decide +kernel
theorem dj52_16_7 : decode jdk_52_method_16_code 7 = .ok (.iconst 0, 1) := by decide +kernel
theorem dj52_16_8 : decode jdk_52_method_16_code 8 = .ok (.iload_n 2, 1) := by decide +kernel
theorem dj52_16_9 : decode jdk_52_method_16_code 9 = .ok (.invokestatic 115, 3) := by decide +kernel
theorem dj52_16_12 : decode jdk_52_method_16_code 12 = .ok (.istore 4, 2) := by decide +kernel
theorem dj52_16_14 : decode jdk_52_method_16_code 14 = .ok (.iload 4, 2) := by decide +kernel
theorem dj52_16_16 : decode jdk_52_method_16_code 16 = .ok (.iload_n 2, 1) := by decide +kernel
theorem dj52_16_17 : decode jdk_52_method_16_code 17 = .ok (.if_icmp .eq 40, 3) := by decide +kernel
theorem dj52_16_20 : decode jdk_52_method_16_code 20 = .ok (.aload_n 0, 1) := by decide +kernel
theorem dj52_16_21 : decode jdk_52_method_16_code 21 = .ok (.iload_n 1, 1) := by decide +kernel
theorem dj52_16_22 : decode jdk_52_method_16_code 22 = .ok (.iload_n 2, 1) := by decide +kernel
theorem dj52_16_23 : decode jdk_52_method_16_code 23 = .ok (.invokestatic 119, 3) := by decide +kernel
theorem dj52_16_26 : decode jdk_52_method_16_code 26 = .ok (.astore 5, 2) := by decide +kernel
theorem dj52_16_28 : decode jdk_52_method_16_code 28 = .ok (.aload 5, 2) := by decide +kernel
theorem dj52_16_30 : decode jdk_52_method_16_code 30 = .ok (.iload 4, 2) := by decide +kernel
theorem dj52_16_32 : decode jdk_52_method_16_code 32 = .ok (.invokestatic 71, 3) := by decide +kernel
theorem dj52_16_35 : decode jdk_52_method_16_code 35 = .ok (.sipush 255, 3) := by decide +kernel
theorem dj52_16_38 : decode jdk_52_method_16_code 38 = .ok (.if_icmp .gt 16, 3) := by decide +kernel
theorem dj52_16_41 : decode jdk_52_method_16_code 41 = .ok (.aload 5, 2) := by decide +kernel
theorem dj52_16_43 : decode jdk_52_method_16_code 43 = .ok (.iconst 0, 1) := by decide +kernel
theorem dj52_16_44 : decode jdk_52_method_16_code 44 = .ok (.aload_n 3, 1) := by decide +kernel
theorem dj52_16_45 : decode jdk_52_method_16_code 45 = .ok (.iconst 0, 1) := by decide +kernel
theorem dj52_16_46 : decode jdk_52_method_16_code 46 = .ok (.iload_n 2, 1) := by decide +kernel
theorem dj52_16_47 : decode jdk_52_method_16_code 47 = .ok (.invokestatic 123, 3) := by decide +kernel
theorem dj52_16_50 : decode jdk_52_method_16_code 50 = .ok (.iload_n 2, 1) := by decide +kernel
theorem dj52_16_51 : decode jdk_52_method_16_code 51 = .ok (.if_icmp .eq 6, 3) := by decide +kernel
theorem dj52_16_54 : decode jdk_52_method_16_code 54 = .ok (.aload 5, 2) := by decide +kernel
theorem dj52_16_56 : decode jdk_52_method_16_code 56 = .ok (.areturn, 1) := by decide +kernel
theorem dj52_16_57 : decode jdk_52_method_16_code 57 = .ok (.aload_n 3, 1) := by decide +kernel
theorem dj52_16_58 : decode jdk_52_method_16_code 58 = .ok (.areturn, 1) := by decide +kernel
theorem dj52_21_0 : decode jdk_52_method_21_code 0 = .ok (.iconst 0, 1) := by decide +kernel
theorem dj52_21_1 : decode jdk_52_method_21_code 1 = .ok (.istore 5, 2) := by decide +kernel
theorem dj52_21_3 : decode jdk_52_method_21_code 3 = .ok (.iload 5, 2) := by decide +kernel
theorem dj52_21_5 : decode jdk_52_method_21_code 5 = .ok (.iload 4, 2) := by decide +kernel
theorem dj52_21_7 : decode jdk_52_method_21_code 7 = .ok (.if_icmp .ge 37, 3) := by decide +kernel
theorem dj52_21_10 : decode jdk_52_method_21_code 10 = .ok (.aload_n 0, 1) := by decide +kernel
theorem dj52_21_11 : decode jdk_52_method_21_code 11 = .ok (.iload_n 1, 1) := by decide +kernel
theorem dj52_21_12 : decode jdk_52_method_21_code 12 = .ok (.caload, 1) := by decide +kernel
theorem dj52_21_13 : decode jdk_52_method_21_code 13 = .ok (.istore 6, 2) := by decide +kernel
theorem dj52_21_15 : decode jdk_52_method_21_code 15 = .ok (.iload 6, 2) := by decide +kernel
theorem dj52_21_17 : decode jdk_52_method_21_code 17 = .ok (.sipush 255, 3) := by decide +kernel
theorem dj52_21_20 : decode jdk_52_method_21_code 20 = .ok (.if_icmp .le 6, 3) := by decide +kernel
theorem dj52_21_23 : decode jdk_52_method_21_code 23 = .ok (.iload 5, 2) := by decide +kernel
theorem dj52_21_25 : decode jdk_52_method_21_code 25 = .ok (.ireturn, 1) := by decide +kernel
theorem dj52_21_26 : decode jdk_52_method_21_code 26 = .ok (.aload_n 2, 1) := by decide +kernel
theorem dj52_21_27 : decode jdk_52_method_21_code 27 = .ok (.iload_n 3, 1) := by decide +kernel
theorem dj52_21_28 : decode jdk_52_method_21_code 28 = .ok (.iload 6, 2) := by decide +kernel
theorem dj52_21_30 : decode jdk_52_method_21_code 30 = .ok (.i2b, 1) := by decide +kernel
theorem dj52_21_31 : decode jdk_52_method_21_code 31 = .ok (.bastore, 1) := by decide +kernel
theorem dj52_21_32 : decode jdk_52_method_21_code 32 = .ok (.iinc 1 1, 3) := by decide +kernel
theorem dj52_21_35 : decode jdk_52_method_21_code 35 = .ok (.iinc 3 1, 3) := by decide +kernel
theorem dj52_21_38 : decode jdk_52_method_21_code 38 = .ok (.iinc 5 1, 3) := by decide +kernel
theorem dj52_21_41 : decode jdk_52_method_21_code 41 = .ok (.goto (-38), 3) := by decide +kernel
theorem dj52_21_44 : decode jdk_52_method_21_code 44 = .ok (.iload 4, 2) := by decide +kernel
theorem dj52_21_46 : decode jdk_52_method_21_code 46 = .ok (.ireturn, 1) := by decide +kernel
theorem dj52_15_0 : decode jdk_52_method_15_code 0 = .ok (.iload_n 1, 1) := by decide +kernel
theorem dj52_15_1 : decode jdk_52_method_15_code 1 = .ok (.aload_n 0, 1) := by decide +kernel
theorem dj52_15_2 : decode jdk_52_method_15_code 2 = .ok (.arraylength, 1) := by decide +kernel
theorem dj52_15_3 : decode jdk_52_method_15_code 3 = .ok (.isub, 1) := by decide +kernel
theorem dj52_15_4 : decode jdk_52_method_15_code 4 = .ok (.bipush 31, 2) := by decide +kernel
theorem dj52_15_6 : decode jdk_52_method_15_code 6 = .ok (.iushr, 1) := by decide +kernel
theorem dj52_15_7 : decode jdk_52_method_15_code 7 = .ok (.i2b, 1) := by decide +kernel
theorem dj52_15_8 : decode jdk_52_method_15_code 8 = .ok (.ireturn, 1) := by decide +kernel
theorem dp35_9_0 : decode prog_35_method_9_code 0 = .ok (.new 102, 3) := by decide +kernel
theorem dp35_9_3 : decode prog_35_method_9_code 3 = .ok (.dup, 1) := by decide +kernel
theorem dp35_9_4 : decode prog_35_method_9_code 4 = .ok (.new 53, 3) := by decide +kernel
theorem dp35_9_7 : decode prog_35_method_9_code 7 = .ok (.dup, 1) := by decide +kernel
theorem dp35_9_8 : decode prog_35_method_9_code 8 = .ok (.invokespecial 55, 3) := by decide +kernel
theorem dp35_9_11 : decode prog_35_method_9_code 11 = .ok (.aload_n 0, 1) := by decide +kernel
theorem dp35_9_12 : decode prog_35_method_9_code 12 = .ok (.invokevirtual 58, 3) := by decide +kernel
theorem dp35_9_15 : decode prog_35_method_9_code 15 = .ok (.ldc 162, 2) := by decide +kernel
theorem dp35_9_17 : decode prog_35_method_9_code 17 = .ok (.invokevirtual 58, 3) := by decide +kernel
theorem dp35_9_20 : decode prog_35_method_9_code 20 = .ok (.invokevirtual 64, 3) := by decide +kernel
theorem dp35_9_23 : decode prog_35_method_9_code 23 = .ok (.invokespecial 113, 3) := by decide +kernel
theorem dp35_9_26 : decode prog_35_method_9_code 26 = .ok (.areturn, 1) := by decide +kernel
theorem dj67_1_0 : decode jdk_67_method_1_code 0 = .ok (.aload_n 0, 1) := by decide +kernel
theorem dj67_1_1 : decode jdk_67_method_1_code 1 = .ok (.bipush 16, 2) := by decide +kernel
theorem dj67_1_3 : decode jdk_67_method_1_code 3 = .ok (.invokespecial 1, 3) := by decide +kernel
theorem dj67_1_6 : decode jdk_67_method_1_code 6 = .ok (.return_, 1) := by decide +kernel
theorem dj68_2_0 : decode jdk_68_method_2_code 0 = .ok (.aload_n 0, 1) := by decide +kernel
theorem dj68_2_1 : decode jdk_68_method_2_code 1 = .ok (.invokespecial 3, 3) := by decide +kernel
theorem dj68_2_4 : decode jdk_68_method_2_code 4 = .ok (.getstatic 18, 3) := by decide +kernel
theorem dj68_2_7 : decode jdk_68_method_2_code 7 = .ok (.ifCond .eq 18, 3) := by decide +kernel
theorem dj68_2_10 : decode jdk_68_method_2_code 10 = .ok (.aload_n 0, 1) := by decide +kernel
theorem dj68_2_11 : decode jdk_68_method_2_code 11 = .ok (.iload_n 1, 1) := by decide +kernel
theorem dj68_2_12 : decode jdk_68_method_2_code 12 = .ok (.newarray .byte, 2) := by decide +kernel
theorem dj68_2_14 : decode jdk_68_method_2_code 14 = .ok (.putfield 15, 3) := by decide +kernel
theorem dj68_2_17 : decode jdk_68_method_2_code 17 = .ok (.aload_n 0, 1) := by decide +kernel
theorem dj68_2_18 : decode jdk_68_method_2_code 18 = .ok (.iconst 0, 1) := by decide +kernel
theorem dj68_2_19 : decode jdk_68_method_2_code 19 = .ok (.putfield 22, 3) := by decide +kernel
theorem dj68_2_22 : decode jdk_68_method_2_code 22 = .ok (.goto 16, 3) := by decide +kernel
theorem dj68_2_25 : decode jdk_68_method_2_code 25 = .ok (.aload_n 0, 1) := by decide +kernel
theorem dj68_2_26 : decode jdk_68_method_2_code 26 = .ok (.iload_n 1, 1) := by decide +kernel
theorem dj68_2_27 : decode jdk_68_method_2_code 27 = .ok (.invokestatic 26, 3) := by decide +kernel
theorem dj68_2_30 : decode jdk_68_method_2_code 30 = .ok (.putfield 15, 3) := by decide +kernel
theorem dj68_2_33 : decode jdk_68_method_2_code 33 = .ok (.aload_n 0, 1) := by decide +kernel
theorem dj68_2_34 : decode jdk_68_method_2_code 34 = .ok (.iconst 1, 1) := by decide +kernel
theorem dj68_2_35 : decode jdk_68_method_2_code 35 = .ok (.putfield 22, 3) := by decide +kernel
theorem dj68_2_38 : decode jdk_68_method_2_code 38 = .ok (.return_, 1) := by decide +kernel
theorem dj67_7_0 : decode jdk_67_method_7_code 0 = .ok (.aload_n 0, 1) := by decide +kernel
theorem dj67_7_1 : decode jdk_67_method_7_code 1 = .ok (.aload_n 1, 1) := by decide +kernel
theorem dj67_7_2 : decode jdk_67_method_7_code 2 = .ok (.invokespecial 29, 3) := by decide +kernel
theorem dj67_7_5 : decode jdk_67_method_7_code 5 = .ok (.pop, 1) := by decide +kernel
theorem dj67_7_6 : decode jdk_67_method_7_code 6 = .ok (.aload_n 0, 1) := by decide +kernel
theorem dj67_7_7 : decode jdk_67_method_7_code 7 = .ok (.areturn, 1) := by decide +kernel
theorem dj68_22_0 : decode jdk_68_method_22_code 0 = .ok (.aload_n 1, 1) := by decide +kernel
theorem dj68_22_1 : decode jdk_68_method_22_code 1 = .ok (.ifnonnull 8, 3) := by decide +kernel
theorem dj68_22_4 : decode jdk_68_method_22_code 4 = .ok (.aload_n 0, 1) := by decide +kernel
theorem dj68_22_5 : decode jdk_68_method_22_code 5 = .ok (.invokevirtual 204, 3) := by decide +kernel
theorem dj68_22_8 : decode jdk_68_method_22_code 8 = .ok (.areturn, 1) := by decide +kernel
theorem dj68_22_9 : decode jdk_68_method_22_code 9 = .ok (.aload_n 1, 1) := by decide +kernel
theorem dj68_22_10 : decode jdk_68_method_22_code 10 = .ok (.invokevirtual 32, 3) := by decide +kernel
theorem dj68_22_13 : decode jdk_68_method_22_code 13 = .ok (.istore_n 2, 1) := by decide +kernel
theorem dj68_22_14 : decode jdk_68_method_22_code 14 = .ok (.aload_n 0, 1) := by decide +kernel
theorem dj68_22_15 : decode jdk_68_method_22_code 15 = .ok (.aload_n 0, 1) := by decide +kernel
theorem dj68_22_16 : decode jdk_68_method_22_code 16 = .ok (.getfield 79, 3) := by decide +kernel
theorem dj68_22_19 : decode jdk_68_method_22_code 19 = .ok (.iload_n 2, 1) := by decide +kernel
theorem dj68_22_20 : decode jdk_68_method_22_code 20 = .ok (.iadd, 1) := by decide +kernel
theorem dj68_22_21 : decode jdk_68_method_22_code 21 = .ok (.invokevirtual 100, 3) := by decide +kernel
theorem dj68_22_24 : decode jdk_68_method_22_code 24 = .ok (.aload_n 0, 1) := by decide +kernel
theorem dj68_22_25 : decode jdk_68_method_22_code 25 = .ok (.aload_n 0, 1) := by decide +kernel
theorem dj68_22_26 : decode jdk_68_method_22_code 26 = .ok (.getfield 79, 3) := by decide +kernel
theorem dj68_22_29 : decode jdk_68_method_22_code 29 = .ok (.aload_n 1, 1) := by decide +kernel
theorem dj68_22_30 : decode jdk_68_method_22_code 30 = .ok (.invokevirtual 208, 3) := by decide +kernel
theorem dj68_22_33 : decode jdk_68_method_22_code 33 = .ok (.aload_n 0, 1) := by decide +kernel
theorem dj68_22_34 : decode jdk_68_method_22_code 34 = .ok (.dup, 1) := by decide +kernel
theorem dj68_22_35 : decode jdk_68_method_22_code 35 = .ok (.getfield 79, 3) := by decide +kernel
theorem dj68_22_38 : decode jdk_68_method_22_code 38 = .ok (.iload_n 2, 1) := by decide +kernel
theorem dj68_22_39 : decode jdk_68_method_22_code 39 = .ok (.iadd, 1) := by decide +kernel
theorem dj68_22_40 : decode jdk_68_method_22_code 40 = .ok (.putfield 79, 3) := by decide +kernel
theorem dj68_22_43 : decode jdk_68_method_22_code 43 = .ok (.aload_n 0, 1) := by decide +kernel
theorem dj68_22_44 : decode jdk_68_method_22_code 44 = .ok (.areturn, 1) := by decide +kernel
theorem dj42_54_0 : decode jdk_42_method_54_code 0 = .ok (.aload_n 0, 1) := by decide +kernel
theorem dj42_54_1 : decode jdk_42_method_54_code 1 = .ok (.getfield 9, 3) := by decide +kernel
theorem dj42_54_4 : decode jdk_42_method_54_code 4 = .ok (.arraylength, 1) := by decide +kernel
theorem dj42_54_5 : decode jdk_42_method_54_code 5 = .ok (.aload_n 0, 1) := by decide +kernel
theorem dj42_54_6 : decode jdk_42_method_54_code 6 = .ok (.invokevirtual 335, 3) := by decide +kernel
theorem dj42_54_9 : decode jdk_42_method_54_code 9 = .ok (.ishr, 1) := by decide +kernel
theorem dj42_54_10 : decode jdk_42_method_54_code 10 = .ok (.ireturn, 1) := by decide +kernel
theorem dj42_152_0 : decode jdk_42_method_152_code 0 = .ok (.getstatic 38, 3) := by decide +kernel
theorem dj42_152_3 : decode jdk_42_method_152_code 3 = .ok (.ifCond .eq 10, 3) := by decide +kernel
theorem dj42_152_6 : decode jdk_42_method_152_code 6 = .ok (.aload_n 0, 1) := by decide +kernel
theorem dj42_152_7 : decode jdk_42_method_152_code 7 = .ok (.getfield 15, 3) := by decide +kernel
theorem dj42_152_10 : decode jdk_42_method_152_code 10 = .ok (.goto 4, 3) := by decide +kernel
theorem dj42_152_13 : decode jdk_42_method_152_code 13 = .ok (.iconst 1, 1) := by decide +kernel
theorem dj42_152_14 : decode jdk_42_method_152_code 14 = .ok (.ireturn, 1) := by decide +kernel
theorem dj68_9_0 : decode jdk_68_method_9_code 0 = .ok (.aload_n 0, 1) := by decide +kernel
theorem dj68_9_1 : decode jdk_68_method_9_code 1 = .ok (.getfield 15, 3) := by decide +kernel
theorem dj68_9_4 : decode jdk_68_method_9_code 4 = .ok (.arraylength, 1) := by decide +kernel
theorem dj68_9_5 : decode jdk_68_method_9_code 5 = .ok (.aload_n 0, 1) := by decide +kernel
theorem dj68_9_6 : decode jdk_68_method_9_code 6 = .ok (.getfield 22, 3) := by decide +kernel
theorem dj68_9_9 : decode jdk_68_method_9_code 9 = .ok (.ishr, 1) := by decide +kernel
theorem dj68_9_10 : decode jdk_68_method_9_code 10 = .ok (.istore_n 2, 1) := by decide +kernel
theorem dj68_9_11 : decode jdk_68_method_9_code 11 = .ok (.iload_n 1, 1) := by decide +kernel
theorem dj68_9_12 : decode jdk_68_method_9_code 12 = .ok (.iload_n 2, 1) := by decide +kernel
theorem dj68_9_13 : decode jdk_68_method_9_code 13 = .ok (.isub, 1) := by decide +kernel
theorem dj68_9_14 : decode jdk_68_method_9_code 14 = .ok (.ifCond .le 24, 3) := by decide +kernel
theorem dj68_9_17 : decode jdk_68_method_9_code 17 = .ok (.aload_n 0, 1) := by decide +kernel
theorem dj68_9_18 : decode jdk_68_method_9_code 18 = .ok (.aload_n 0, 1) := by decide +kernel
theorem dj68_9_19 : decode jdk_68_method_9_code 19 = .ok (.getfield 15, 3) := by decide +kernel
theorem dj68_9_22 : decode jdk_68_method_9_code 22 = .ok (.aload_n 0, 1) := by decide +kernel
theorem dj68_9_23 : decode jdk_68_method_9_code 23 = .ok (.iload_n 1, 1) := by decide +kernel
theorem dj68_9_24 : decode jdk_68_method_9_code 24 = .ok (.invokevirtual 104, 3) := by decide +kernel
theorem dj68_9_27 : decode jdk_68_method_9_code 27 = .ok (.aload_n 0, 1) := by decide +kernel
theorem dj68_9_28 : decode jdk_68_method_9_code 28 = .ok (.getfield 22, 3) := by decide +kernel
theorem dj68_9_31 : decode jdk_68_method_9_code 31 = .ok (.ishl, 1) := by decide +kernel
theorem dj68_9_32 : decode jdk_68_method_9_code 32 = .ok (.invokestatic 108, 3) := by decide +kernel
theorem dj68_9_35 : decode jdk_68_method_9_code 35 = .ok (.putfield 15, 3) := by decide +kernel
theorem dj68_9_38 : decode jdk_68_method_9_code 38 = .ok (.return_, 1) := by decide +kernel
theorem dj68_73_0 : decode jdk_68_method_73_code 0 = .ok (.aload_n 0, 1) := by decide +kernel
theorem dj68_73_1 : decode jdk_68_method_73_code 1 = .ok (.aload_n 2, 1) := by decide +kernel
theorem dj68_73_2 : decode jdk_68_method_73_code 2 = .ok (.invokevirtual 397, 3) := by decide +kernel
theorem dj68_73_5 : decode jdk_68_method_73_code 5 = .ok (.aload_n 2, 1) := by decide +kernel
theorem dj68_73_6 : decode jdk_68_method_73_code 6 = .ok (.aload_n 0, 1) := by decide +kernel
theorem dj68_73_7 : decode jdk_68_method_73_code 7 = .ok (.getfield 15, 3) := by decide +kernel
theorem dj68_73_10 : decode jdk_68_method_73_code 10 = .ok (.iload_n 1, 1) := by decide +kernel
theorem dj68_73_11 : decode jdk_68_method_73_code 11 = .ok (.aload_n 0, 1) := by decide +kernel
theorem dj68_73_12 : decode jdk_68_method_73_code 12 = .ok (.getfield 22, 3) := by decide +kernel
theorem dj68_73_15 : decode jdk_68_method_73_code 15 = .ok (.invokevirtual 399, 3) := by decide +kernel
theorem dj68_73_18 : decode jdk_68_method_73_code 18 = .ok (.return_, 1) := by decide +kernel
theorem dj68_71_0 : decode jdk_68_method_71_code 0 = .ok (.getstatic 18, 3) := by decide +kernel
theorem dj68_71_3 : decode jdk_68_method_71_code 3 = .ok (.ifCond .eq 18, 3) := by decide +kernel
theorem dj68_71_6 : decode jdk_68_method_71_code 6 = .ok (.aload_n 0, 1) := by decide +kernel
theorem dj68_71_7 : decode jdk_68_method_71_code 7 = .ok (.getfield 22, 3) := by decide +kernel
theorem dj68_71_10 : decode jdk_68_method_71_code 10 = .ok (.aload_n 1, 1) := by decide +kernel
theorem dj68_71_11 : decode jdk_68_method_71_code 11 = .ok (.invokevirtual 40, 3) := by decide +kernel
theorem dj68_71_14 : decode jdk_68_method_71_code 14 = .ok (.if_icmp .eq 7, 3) := by decide +kernel
theorem dj68_71_17 : decode jdk_68_method_71_code 17 = .ok (.aload_n 0, 1) := by decide +kernel
theorem dj68_71_18 : decode jdk_68_method_71_code 18 = .ok (.invokevirtual 195, 3) := by decide +kernel
theorem dj68_71_21 : decode jdk_68_method_71_code 21 = .ok (.return_, 1) := by decide +kernel
theorem dj42_147_0 : decode jdk_42_method_147_code 0 = .ok (.aload_n 0, 1) := by decide +kernel
theorem dj42_147_1 : decode jdk_42_method_147_code 1 = .ok (.invokevirtual 335, 3) := by decide +kernel
theorem dj42_147_4 : decode jdk_42_method_147_code 4 = .ok (.iload_n 3, 1) := by decide +kernel
theorem dj42_147_5 : decode jdk_42_method_147_code 5 = .ok (.if_icmp .ne 23, 3) := by decide +kernel
theorem dj42_147_8 : decode jdk_42_method_147_code 8 = .ok (.aload_n 0, 1) := by decide +kernel
theorem dj42_147_9 : decode jdk_42_method_147_code 9 = .ok (.getfield 9, 3) := by decide +kernel
theorem dj42_147_12 : decode jdk_42_method_147_code 12 = .ok (.iconst 0, 1) := by decide +kernel
theorem dj42_147_13 : decode jdk_42_method_147_code 13 = .ok (.aload_n 1, 1) := by decide +kernel
theorem dj42_147_14 : decode jdk_42_method_147_code 14 = .ok (.iload_n 2, 1) := by decide +kernel
theorem dj42_147_15 : decode jdk_42_method_147_code 15 = .ok (.iload_n 3, 1) := by decide +kernel
theorem dj42_147_16 : decode jdk_42_method_147_code 16 = .ok (.ishl, 1) := by decide +kernel
theorem dj42_147_17 : decode jdk_42_method_147_code 17 = .ok (.aload_n 0, 1) := by decide +kernel
theorem dj42_147_18 : decode jdk_42_method_147_code 18 = .ok (.getfield 9, 3) := by decide +kernel
theorem dj42_147_21 : decode jdk_42_method_147_code 21 = .ok (.arraylength, 1) := by decide +kernel
theorem dj42_147_22 : decode jdk_42_method_147_code 22 = .ok (.invokestatic 212, 3) := by decide +kernel
theorem dj42_147_25 : decode jdk_42_method_147_code 25 = .ok (.goto 18, 3) := by decide +kernel
theorem dj42_147_28 : decode jdk_42_method_147_code 28 = .ok (.aload_n 0, 1) := by decide +kernel
theorem dj42_147_29 : decode jdk_42_method_147_code 29 = .ok (.getfield 9, 3) := by decide +kernel
theorem dj42_147_32 : decode jdk_42_method_147_code 32 = .ok (.iconst 0, 1) := by decide +kernel
theorem dj42_147_33 : decode jdk_42_method_147_code 33 = .ok (.aload_n 1, 1) := by decide +kernel
theorem dj42_147_34 : decode jdk_42_method_147_code 34 = .ok (.iload_n 2, 1) := by decide +kernel
theorem dj42_147_35 : decode jdk_42_method_147_code 35 = .ok (.aload_n 0, 1) := by decide +kernel
theorem dj42_147_36 : decode jdk_42_method_147_code 36 = .ok (.getfield 9, 3) := by decide +kernel
theorem dj42_147_39 : decode jdk_42_method_147_code 39 = .ok (.arraylength, 1) := by decide +kernel
theorem dj42_147_40 : decode jdk_42_method_147_code 40 = .ok (.invokestatic 106, 3) := by decide +kernel
theorem dj42_147_43 : decode jdk_42_method_147_code 43 = .ok (.return_, 1) := by decide +kernel
theorem dj68_10_0 : decode jdk_68_method_10_code 0 = .ok (.aload_n 0, 1) := by decide +kernel
theorem dj68_10_1 : decode jdk_68_method_10_code 1 = .ok (.getfield 15, 3) := by decide +kernel
theorem dj68_10_4 : decode jdk_68_method_10_code 4 = .ok (.arraylength, 1) := by decide +kernel
theorem dj68_10_5 : decode jdk_68_method_10_code 5 = .ok (.istore_n 2, 1) := by decide +kernel
theorem dj68_10_6 : decode jdk_68_method_10_code 6 = .ok (.iload_n 1, 1) := by decide +kernel
theorem dj68_10_7 : decode jdk_68_method_10_code 7 = .ok (.aload_n 0, 1) := by decide +kernel
theorem dj68_10_8 : decode jdk_68_method_10_code 8 = .ok (.getfield 22, 3) := by decide +kernel
theorem dj68_10_11 : decode jdk_68_method_10_code 11 = .ok (.ishl, 1) := by decide +kernel
theorem dj68_10_12 : decode jdk_68_method_10_code 12 = .ok (.istore_n 3, 1) := by decide +kernel
theorem dj68_10_13 : decode jdk_68_method_10_code 13 = .ok (.iload_n 3, 1) := by decide +kernel
theorem dj68_10_14 : decode jdk_68_method_10_code 14 = .ok (.iload_n 2, 1) := by decide +kernel
theorem dj68_10_15 : decode jdk_68_method_10_code 15 = .ok (.isub, 1) := by decide +kernel
theorem dj68_10_16 : decode jdk_68_method_10_code 16 = .ok (.istore 4, 2) := by decide +kernel
theorem dj68_10_18 : decode jdk_68_method_10_code 18 = .ok (.iload_n 2, 1) := by decide +kernel
theorem dj68_10_19 : decode jdk_68_method_10_code 19 = .ok (.iload 4, 2) := by decide +kernel
theorem dj68_10_21 : decode jdk_68_method_10_code 21 = .ok (.iload_n 2, 1) := by decide +kernel
theorem dj68_10_22 : decode jdk_68_method_10_code 22 = .ok (.iconst 2, 1) := by decide +kernel
theorem dj68_10_23 : decode jdk_68_method_10_code 23 = .ok (.aload_n 0, 1) := by decide +kernel
theorem dj68_10_24 : decode jdk_68_method_10_code 24 = .ok (.getfield 22, 3) := by decide +kernel
theorem dj68_10_27 : decode jdk_68_method_10_code 27 = .ok (.ishl, 1) := by decide +kernel
theorem dj68_10_28 : decode jdk_68_method_10_code 28 = .ok (.iadd, 1) := by decide +kernel
theorem dj68_10_29 : decode jdk_68_method_10_code 29 = .ok (.invokestatic 114, 3) := by decide +kernel
theorem dj68_10_32 : decode jdk_68_method_10_code 32 = .ok (.istore 5, 2) := by decide +kernel
theorem dj68_10_34 : decode jdk_68_method_10_code 34 = .ok (.iload 5, 2) := by decide +kernel
theorem dj68_10_36 : decode jdk_68_method_10_code 36 = .ok (.ldc 39, 2) := by decide +kernel
theorem dj68_10_38 : decode jdk_68_method_10_code 38 = .ok (.if_icmp .ne 13, 3) := by decide +kernel
theorem dj68_10_41 : decode jdk_68_method_10_code 41 = .ok (.new 120, 3) := by decide +kernel
theorem dj68_10_44 : decode jdk_68_method_10_code 44 = .ok (.dup, 1) := by decide +kernel
theorem dj68_10_45 : decode jdk_68_method_10_code 45 = .ok (.ldc 122, 2) := by decide +kernel
theorem dj68_10_47 : decode jdk_68_method_10_code 47 = .ok (.invokespecial 124, 3) := by decide +kernel
theorem dj68_10_50 : decode jdk_68_method_10_code 50 = .ok (.athrow, 1) := by decide +kernel
theorem dj68_10_51 : decode jdk_68_method_10_code 51 = .ok (.iload 5, 2) := by decide +kernel
theorem dj68_10_53 : decode jdk_68_method_10_code 53 = .ok (.aload_n 0, 1) := by decide +kernel
theorem dj68_10_54 : decode jdk_68_method_10_code 54 = .ok (.getfield 22, 3) := by decide +kernel
theorem dj68_10_57 : decode jdk_68_method_10_code 57 = .ok (.ishr, 1) := by decide +kernel
theorem dj68_10_58 : decode jdk_68_method_10_code 58 = .ok (.ireturn, 1) := by decide +kernel
theorem dj48_27_0 : decode jdk_48_method_27_code 0 = .ok (.iload_n 0, 1) := by decide +kernel
theorem dj48_27_1 : decode jdk_48_method_27_code 1 = .ok (.iload_n 1, 1) := by decide +kernel
theorem dj48_27_2 : decode jdk_48_method_27_code 2 = .ok (.iload_n 2, 1) := by decide +kernel
theorem dj48_27_3 : decode jdk_48_method_27_code 3 = .ok (.invokestatic 194, 3) := by decide +kernel
theorem dj48_27_6 : decode jdk_48_method_27_code 6 = .ok (.iadd, 1) := by decide +kernel
theorem dj48_27_7 : decode jdk_48_method_27_code 7 = .ok (.istore_n 3, 1) := by decide +kernel
theorem dj48_27_8 : decode jdk_48_method_27_code 8 = .ok (.iconst 0, 1) := by decide +kernel
theorem dj48_27_9 : decode jdk_48_method_27_code 9 = .ok (.iload_n 3, 1) := by decide +kernel
theorem dj48_27_10 : decode jdk_48_method_27_code 10 = .ok (.if_icmp .ge 11, 3) := by decide +kernel
theorem dj48_27_13 : decode jdk_48_method_27_code 13 = .ok (.iload_n 3, 1) := by decide +kernel
theorem dj48_27_14 : decode jdk_48_method_27_code 14 = .ok (.ldc 200, 2) := by decide +kernel
theorem dj48_27_16 : decode jdk_48_method_27_code 16 = .ok (.if_icmp .gt 5, 3) := by decide +kernel
theorem dj48_27_19 : decode jdk_48_method_27_code 19 = .ok (.iload_n 3, 1) := by decide +kernel
theorem dj48_27_20 : decode jdk_48_method_27_code 20 = .ok (.ireturn, 1) := by decide +kernel
theorem dj48_27_21 : decode jdk_48_method_27_code 21 = .ok (.iload_n 0, 1) := by decide +kernel
theorem dj48_27_22 : decode jdk_48_method_27_code 22 = .ok (.iload_n 1, 1) := by decide +kernel
theorem dj48_27_23 : decode jdk_48_method_27_code 23 = .ok (.invokestatic 201, 3) := by decide +kernel
theorem dj48_27_26 : decode jdk_48_method_27_code 26 = .ok (.ireturn, 1) := by decide +kernel
theorem dj29_65_0 : decode jdk_29_method_65_code 0 = .ok (.iload_n 0, 1) := by decide +kernel
theorem dj29_65_1 : decode jdk_29_method_65_code 1 = .ok (.iload_n 1, 1) := by decide +kernel
theorem dj29_65_2 : decode jdk_29_method_65_code 2 = .ok (.if_icmp .lt 7, 3) := by decide +kernel
theorem dj29_65_5 : decode jdk_29_method_65_code 5 = .ok (.iload_n 0, 1) := by decide +kernel
theorem dj29_65_6 : decode jdk_29_method_65_code 6 = .ok (.goto 4, 3) := by decide +kernel
theorem dj29_65_9 : decode jdk_29_method_65_code 9 = .ok (.iload_n 1, 1) := by decide +kernel
theorem dj29_65_10 : decode jdk_29_method_65_code 10 = .ok (.ireturn, 1) := by decide +kernel
theorem dj65_121_0 : decode jdk_65_method_121_code 0 = .ok (.iload_n 1, 1) := by decide +kernel
theorem dj65_121_1 : decode jdk_65_method_121_code 1 = .ok (.aload_n 0, 1) := by decide +kernel
theorem dj65_121_2 : decode jdk_65_method_121_code 2 = .ok (.arraylength, 1) := by decide +kernel
theorem dj65_121_3 : decode jdk_65_method_121_code 3 = .ok (.if_icmp .ne 11, 3) := by decide +kernel
theorem dj65_121_6 : decode jdk_65_method_121_code 6 = .ok (.aload_n 0, 1) := by decide +kernel
theorem dj65_121_7 : decode jdk_65_method_121_code 7 = .ok (.invokevirtual 310, 3) := by decide +kernel
theorem dj65_121_10 : decode jdk_65_method_121_code 10 = .ok (.checkcast 311, 3) := by decide +kernel
theorem dj65_121_13 : decode jdk_65_method_121_code 13 = .ok (.areturn, 1) := by decide +kernel
theorem dj65_121_14 : decode jdk_65_method_121_code 14 = .ok (.iload_n 1, 1) := by decide +kernel
theorem dj65_121_15 : decode jdk_65_method_121_code 15 = .ok (.newarray .byte, 2) := by decide +kernel
theorem dj65_121_17 : decode jdk_65_method_121_code 17 = .ok (.astore_n 2, 1) := by decide +kernel
theorem dj65_121_18 : decode jdk_65_method_121_code 18 = .ok (.aload_n 0, 1) := by decide +kernel
theorem dj65_121_19 : decode jdk_65_method_121_code 19 = .ok (.iconst 0, 1) := by decide +kernel
theorem dj65_121_20 : decode jdk_65_method_121_code 20 = .ok (.aload_n 2, 1) := by decide +kernel
theorem dj65_121_21 : decode jdk_65_method_121_code 21 = .ok (.iconst 0, 1) := by decide +kernel
theorem dj65_121_22 : decode jdk_65_method_121_code 22 = .ok (.aload_n 0, 1) := by decide +kernel
theorem dj65_121_23 : decode jdk_65_method_121_code 23 = .ok (.arraylength, 1) := by decide +kernel
theorem dj65_121_24 : decode jdk_65_method_121_code 24 = .ok (.iload_n 1, 1) := by decide +kernel
theorem dj65_121_25 : decode jdk_65_method_121_code 25 = .ok (.invokestatic 304, 3) := by decide +kernel
theorem dj65_121_28 : decode jdk_65_method_121_code 28 = .ok (.invokestatic 150, 3) := by decide +kernel
theorem dj65_121_31 : decode jdk_65_method_121_code 31 = .ok (.aload_n 2, 1) := by decide +kernel
theorem dj65_121_32 : decode jdk_65_method_121_code 32 = .ok (.areturn, 1) := by decide +kernel
theorem dj29_69_0 : decode jdk_29_method_69_code 0 = .ok (.iload_n 0, 1) := by decide +kernel
theorem dj29_69_1 : decode jdk_29_method_69_code 1 = .ok (.iload_n 1, 1) := by decide +kernel
theorem dj29_69_2 : decode jdk_29_method_69_code 2 = .ok (.if_icmp .gt 7, 3) := by decide +kernel
theorem dj29_69_5 : decode jdk_29_method_69_code 5 = .ok (.iload_n 0, 1) := by decide +kernel
theorem dj29_69_6 : decode jdk_29_method_69_code 6 = .ok (.goto 4, 3) := by decide +kernel
theorem dj29_69_9 : decode jdk_29_method_69_code 9 = .ok (.iload_n 1, 1) := by decide +kernel
theorem dj29_69_10 : decode jdk_29_method_69_code 10 = .ok (.ireturn, 1) := by decide +kernel
theorem dj67_42_0 : decode jdk_67_method_42_code 0 = .ok (.new 18, 3) := by decide +kernel
theorem dj67_42_3 : decode jdk_67_method_42_code 3 = .ok (.dup, 1) := by decide +kernel
theorem dj67_42_4 : decode jdk_67_method_42_code 4 = .ok (.aload_n 0, 1) := by decide +kernel
theorem dj67_42_5 : decode jdk_67_method_42_code 5 = .ok (.invokespecial 137, 3) := by decide +kernel
theorem dj67_42_8 : decode jdk_67_method_42_code 8 = .ok (.areturn, 1) := by decide +kernel
theorem dj42_53_0 : decode jdk_42_method_53_code 0 = .ok (.aload_n 0, 1) := by decide +kernel
theorem dj42_53_1 : decode jdk_42_method_53_code 1 = .ok (.aload_n 1, 1) := by decide +kernel
theorem dj42_53_2 : decode jdk_42_method_53_code 2 = .ok (.aconst_null, 1) := by decide +kernel
theorem dj42_53_3 : decode jdk_42_method_53_code 3 = .ok (.invokespecial 489, 3) := by decide +kernel
theorem dj42_53_6 : decode jdk_42_method_53_code 6 = .ok (.return_, 1) := by decide +kernel
theorem dj42_150_0 : decode jdk_42_method_150_code 0 = .ok (.aload_n 0, 1) := by decide +kernel
theorem dj42_150_1 : decode jdk_42_method_150_code 1 = .ok (.invokespecial 1, 3) := by decide +kernel
theorem dj42_150_4 : decode jdk_42_method_150_code 4 = .ok (.aload_n 1, 1) := by decide +kernel
theorem dj42_150_5 : decode jdk_42_method_150_code 5 = .ok (.invokevirtual 552, 3) := by decide +kernel
theorem dj42_150_8 : decode jdk_42_method_150_code 8 = .ok (.astore_n 3, 1) := by decide +kernel
theorem dj42_150_9 : decode jdk_42_method_150_code 9 = .ok (.aload_n 1, 1) := by decide +kernel
theorem dj42_150_10 : decode jdk_42_method_150_code 10 = .ok (.invokevirtual 549, 3) := by decide +kernel
theorem dj42_150_13 : decode jdk_42_method_150_code 13 = .ok (.istore 4, 2) := by decide +kernel
theorem dj42_150_15 : decode jdk_42_method_150_code 15 = .ok (.aload_n 1, 1) := by decide +kernel
theorem dj42_150_16 : decode jdk_42_method_150_code 16 = .ok (.invokevirtual 1047, 3) := by decide +kernel
theorem dj42_150_19 : decode jdk_42_method_150_code 19 = .ok (.ifCond .eq 22, 3) := by decide +kernel
theorem dj42_150_22 : decode jdk_42_method_150_code 22 = .ok (.aload_n 0, 1) := by decide +kernel
theorem dj42_150_23 : decode jdk_42_method_150_code 23 = .ok (.iconst 0, 1) := by decide +kernel
theorem dj42_150_24 : decode jdk_42_method_150_code 24 = .ok (.putfield 15, 3) := by decide +kernel
theorem dj42_150_27 : decode jdk_42_method_150_code 27 = .ok (.aload_n 0, 1) := by decide +kernel
theorem dj42_150_28 : decode jdk_42_method_150_code 28 = .ok (.aload_n 3, 1) := by decide +kernel
theorem dj42_150_29 : decode jdk_42_method_150_code 29 = .ok (.iconst 0, 1) := by decide +kernel
theorem dj42_150_30 : decode jdk_42_method_150_code 30 = .ok (.iload 4, 2) := by decide +kernel
theorem dj42_150_32 : decode jdk_42_method_150_code 32 = .ok (.invokestatic 54, 3) := by decide +kernel
theorem dj42_150_35 : decode jdk_42_method_150_code 35 = .ok (.putfield 9, 3) := by decide +kernel
theorem dj42_150_38 : decode jdk_42_method_150_code 38 = .ok (.goto 59, 3) := by decide +kernel
theorem dj42_150_41 : decode jdk_42_method_150_code 41 = .ok (.getstatic 38, 3) := by decide +kernel
theorem dj42_150_44 : decode jdk_42_method_150_code 44 = .ok (.ifCond .eq 35, 3) := by decide +kernel
theorem dj42_150_47 : decode jdk_42_method_150_code 47 = .ok (.aload_n 1, 1) := by decide +kernel
theorem dj42_150_48 : decode jdk_42_method_150_code 48 = .ok (.getfield 1048, 3) := by decide +kernel
theorem dj42_150_51 : decode jdk_42_method_150_code 51 = .ok (.ifCond .eq 28, 3) := by decide +kernel
theorem dj42_150_54 : decode jdk_42_method_150_code 54 = .ok (.aload_n 0, 1) := by decide +kernel
theorem dj42_150_55 : decode jdk_42_method_150_code 55 = .ok (.aload_n 3, 1) := by decide +kernel
theorem dj42_150_56 : decode jdk_42_method_150_code 56 = .ok (.iconst 0, 1) := by decide +kernel
theorem dj42_150_57 : decode jdk_42_method_150_code 57 = .ok (.iload 4, 2) := by decide +kernel
theorem dj42_150_59 : decode jdk_42_method_150_code 59 = .ok (.invokestatic 1051, 3) := by decide +kernel
theorem dj42_150_62 : decode jdk_42_method_150_code 62 = .ok (.putfield 9, 3) := by decide +kernel
theorem dj42_150_65 : decode jdk_42_method_150_code 65 = .ok (.aload_n 0, 1) := by decide +kernel
theorem dj42_150_66 : decode jdk_42_method_150_code 66 = .ok (.aload_n 0, 1) := by decide +kernel
theorem dj42_150_67 : decode jdk_42_method_150_code 67 = .ok (.getfield 9, 3) := by decide +kernel
theorem dj42_150_70 : decode jdk_42_method_150_code 70 = .ok (.iload 4, 2) := by decide +kernel
theorem dj42_150_72 : decode jdk_42_method_150_code 72 = .ok (.invokestatic 47, 3) := by decide +kernel
theorem dj42_150_75 : decode jdk_42_method_150_code 75 = .ok (.putfield 15, 3) := by decide +kernel
theorem dj42_150_78 : decode jdk_42_method_150_code 78 = .ok (.return_, 1) := by decide +kernel
theorem dj42_150_79 : decode jdk_42_method_150_code 79 = .ok (.aload_n 0, 1) := by decide +kernel
theorem dj42_150_80 : decode jdk_42_method_150_code 80 = .ok (.iconst 1, 1) := by decide +kernel
theorem dj42_150_81 : decode jdk_42_method_150_code 81 = .ok (.putfield 15, 3) := by decide +kernel
theorem dj42_150_84 : decode jdk_42_method_150_code 84 = .ok (.aload_n 0, 1) := by decide +kernel
theorem dj42_150_85 : decode jdk_42_method_150_code 85 = .ok (.aload_n 3, 1) := by decide +kernel
theorem dj42_150_86 : decode jdk_42_method_150_code 86 = .ok (.iconst 0, 1) := by decide +kernel
theorem dj42_150_87 : decode jdk_42_method_150_code 87 = .ok (.iload 4, 2) := by decide +kernel
theorem dj42_150_89 : decode jdk_42_method_150_code 89 = .ok (.iconst 1, 1) := by decide +kernel
theorem dj42_150_90 : decode jdk_42_method_150_code 90 = .ok (.ishl, 1) := by decide +kernel
theorem dj42_150_91 : decode jdk_42_method_150_code 91 = .ok (.invokestatic 54, 3) := by decide +kernel
theorem dj42_150_94 : decode jdk_42_method_150_code 94 = .ok (.putfield 9, 3) := by decide +kernel
theorem dj42_150_97 : decode jdk_42_method_150_code 97 = .ok (.return_, 1) := by decide +kernel
theorem dj68_64_0 : decode jdk_68_method_64_code 0 = .ok (.aload_n 0, 1) := by decide +kernel
theorem dj68_64_1 : decode jdk_68_method_64_code 1 = .ok (.getfield 15, 3) := by decide +kernel
theorem dj68_64_4 : decode jdk_68_method_64_code 4 = .ok (.areturn, 1) := by decide +kernel
theorem dj67_93_0 : decode jdk_67_method_93_code 0 = .ok (.aload_n 0, 1) := by decide +kernel
theorem dj67_93_1 : decode jdk_67_method_93_code 1 = .ok (.invokespecial 343, 3) := by decide +kernel
theorem dj67_93_4 : decode jdk_67_method_93_code 4 = .ok (.ireturn, 1) := by decide +kernel
theorem dj68_6_0 : decode jdk_68_method_6_code 0 = .ok (.aload_n 0, 1) := by decide +kernel
theorem dj68_6_1 : decode jdk_68_method_6_code 1 = .ok (.getfield 79, 3) := by decide +kernel
theorem dj68_6_4 : decode jdk_68_method_6_code 4 = .ok (.ireturn, 1) := by decide +kernel
theorem dj68_68_0 : decode jdk_68_method_68_code 0 = .ok (.getstatic 18, 3) := by decide +kernel
theorem dj68_68_3 : decode jdk_68_method_68_code 3 = .ok (.ifCond .eq 14, 3) := by decide +kernel
theorem dj68_68_6 : decode jdk_68_method_68_code 6 = .ok (.aload_n 0, 1) := by decide +kernel
theorem dj68_68_7 : decode jdk_68_method_68_code 7 = .ok (.getfield 22, 3) := by decide +kernel
theorem dj68_68_10 : decode jdk_68_method_68_code 10 = .ok (.ifCond .ne 7, 3) := by decide +kernel
theorem dj68_68_13 : decode jdk_68_method_68_code 13 = .ok (.iconst 1, 1) := by decide +kernel
theorem dj68_68_14 : decode jdk_68_method_68_code 14 = .ok (.goto 4, 3) := by decide +kernel
theorem dj68_68_17 : decode jdk_68_method_68_code 17 = .ok (.iconst 0, 1) := by decide +kernel
theorem dj68_68_18 : decode jdk_68_method_68_code 18 = .ok (.ireturn, 1) := by decide +kernel
theorem dj65_132_0 : decode jdk_65_method_132_code 0 = .ok (.iload_n 1, 1) := by decide +kernel
theorem dj65_132_1 : decode jdk_65_method_132_code 1 = .ok (.ifCond .ne 9, 3) := by decide +kernel
theorem dj65_132_4 : decode jdk_65_method_132_code 4 = .ok (.iload_n 2, 1) := by decide +kernel
theorem dj65_132_5 : decode jdk_65_method_132_code 5 = .ok (.aload_n 0, 1) := by decide +kernel
theorem dj65_132_6 : decode jdk_65_method_132_code 6 = .ok (.arraylength, 1) := by decide +kernel
theorem dj65_132_7 : decode jdk_65_method_132_code 7 = .ok (.if_icmp .eq 10, 3) := by decide +kernel
theorem dj65_132_10 : decode jdk_65_method_132_code 10 = .ok (.aload_n 0, 1) := by decide +kernel
theorem dj65_132_11 : decode jdk_65_method_132_code 11 = .ok (.iload_n 1, 1) := by decide +kernel
theorem dj65_132_12 : decode jdk_65_method_132_code 12 = .ok (.iload_n 2, 1) := by decide +kernel
theorem dj65_132_13 : decode jdk_65_method_132_code 13 = .ok (.invokestatic 339, 3) := by decide +kernel
theorem dj65_132_16 : decode jdk_65_method_132_code 16 = .ok (.areturn, 1) := by decide +kernel
theorem dj65_132_17 : decode jdk_65_method_132_code 17 = .ok (.aload_n 0, 1) := by decide +kernel
theorem dj65_132_18 : decode jdk_65_method_132_code 18 = .ok (.invokevirtual 310, 3) := by decide +kernel
theorem dj65_132_21 : decode jdk_65_method_132_code 21 = .ok (.checkcast 311, 3) := by decide +kernel
theorem dj65_132_24 : decode jdk_65_method_132_code 24 = .ok (.areturn, 1) := by decide +kernel
theorem dj60_2_0 : decode jdk_60_method_2_code 0 = .ok (.aload_n 0, 1) := by decide +kernel
theorem dj60_2_1 : decode jdk_60_method_2_code 1 = .ok (.aload_n 1, 1) := by decide +kernel
theorem dj60_2_2 : decode jdk_60_method_2_code 2 = .ok (.invokespecial 7, 3) := by decide +kernel
theorem dj60_2_5 : decode jdk_60_method_2_code 5 = .ok (.return_, 1) := by decide +kernel
theorem dj58_2_0 : decode jdk_58_method_2_code 0 = .ok (.aload_n 0, 1) := by decide +kernel
theorem dj58_2_1 : decode jdk_58_method_2_code 1 = .ok (.aload_n 1, 1) := by decide +kernel
theorem dj58_2_2 : decode jdk_58_method_2_code 2 = .ok (.invokespecial 7, 3) := by decide +kernel
theorem dj58_2_5 : decode jdk_58_method_2_code 5 = .ok (.return_, 1) := by decide +kernel
theorem dj59_2_0 : decode jdk_59_method_2_code 0 = .ok (.aload_n 0, 1) := by decide +kernel
theorem dj59_2_1 : decode jdk_59_method_2_code 1 = .ok (.aload_n 1, 1) := by decide +kernel
theorem dj59_2_2 : decode jdk_59_method_2_code 2 = .ok (.invokespecial 7, 3) := by decide +kernel
theorem dj59_2_5 : decode jdk_59_method_2_code 5 = .ok (.return_, 1) := by decide +kernel
theorem dj78_2_0 : decode jdk_78_method_2_code 0 = .ok (.aload_n 0, 1) := by decide +kernel
theorem dj78_2_1 : decode jdk_78_method_2_code 1 = .ok (.invokespecial 1, 3) := by decide +kernel
theorem dj78_2_4 : decode jdk_78_method_2_code 4 = .ok (.aload_n 0, 1) := by decide +kernel
theorem dj78_2_5 : decode jdk_78_method_2_code 5 = .ok (.aload_n 0, 1) := by decide +kernel
theorem dj78_2_6 : decode jdk_78_method_2_code 6 = .ok (.putfield 7, 3) := by decide +kernel
theorem dj78_2_9 : decode jdk_78_method_2_code 9 = .ok (.aload_n 0, 1) := by decide +kernel
theorem dj78_2_10 : decode jdk_78_method_2_code 10 = .ok (.getstatic 13, 3) := by decide +kernel
theorem dj78_2_13 : decode jdk_78_method_2_code 13 = .ok (.putfield 17, 3) := by decide +kernel
theorem dj78_2_16 : decode jdk_78_method_2_code 16 = .ok (.aload_n 0, 1) := by decide +kernel
theorem dj78_2_17 : decode jdk_78_method_2_code 17 = .ok (.getstatic 20, 3) := by decide +kernel
theorem dj78_2_20 : decode jdk_78_method_2_code 20 = .ok (.putfield 24, 3) := by decide +kernel
theorem dj78_2_23 : decode jdk_78_method_2_code 23 = .ok (.aload_n 0, 1) := by decide +kernel
theorem dj78_2_24 : decode jdk_78_method_2_code 24 = .ok (.invokevirtual 27, 3) := by decide +kernel
theorem dj78_2_27 : decode jdk_78_method_2_code 27 = .ok (.pop, 1) := by decide +kernel
theorem dj78_2_28 : decode jdk_78_method_2_code 28 = .ok (.aload_n 0, 1) := by decide +kernel
theorem dj78_2_29 : decode jdk_78_method_2_code 29 = .ok (.aload_n 1, 1) := by decide +kernel
theorem dj78_2_30 : decode jdk_78_method_2_code 30 = .ok (.putfield 31, 3) := by decide +kernel
theorem dj78_2_33 : decode jdk_78_method_2_code 33 = .ok (.return_, 1) := by decide +kernel
theorem dj78_18_0 : decode jdk_78_method_18_code 0 = .ok (.aload_n 0, 1) := by decide +kernel
theorem dj78_18_1 : decode jdk_78_method_18_code 1 = .ok (.getfield 17, 3) := by decide +kernel
theorem dj78_18_4 : decode jdk_78_method_18_code 4 = .ok (.ifnonnull 10, 3) := by decide +kernel
theorem dj78_18_7 : decode jdk_78_method_18_code 7 = .ok (.aload_n 0, 1) := by decide +kernel
theorem dj78_18_8 : decode jdk_78_method_18_code 8 = .ok (.getfield 198, 3) := by decide +kernel
theorem dj78_18_11 : decode jdk_78_method_18_code 11 = .ok (.ifnull 16, 3) := by decide +kernel
theorem dj78_18_14 : decode jdk_78_method_18_code 14 = .ok (.aload_n 0, 1) := by decide +kernel
theorem dj78_18_15 : decode jdk_78_method_18_code 15 = .ok (.iconst 0, 1) := by decide +kernel
theorem dj78_18_16 : decode jdk_78_method_18_code 16 = .ok (.invokevirtual 202, 3) := by decide +kernel
theorem dj78_18_19 : decode jdk_78_method_18_code 19 = .ok (.pop, 1) := by decide +kernel
theorem dj78_18_20 : decode jdk_78_method_18_code 20 = .ok (.aload_n 0, 1) := by decide +kernel
theorem dj78_18_21 : decode jdk_78_method_18_code 21 = .ok (.getstatic 13, 3) := by decide +kernel
theorem dj78_18_24 : decode jdk_78_method_18_code 24 = .ok (.putfield 17, 3) := by decide +kernel
theorem dj78_18_27 : decode jdk_78_method_18_code 27 = .ok (.aload_n 0, 1) := by decide +kernel
theorem dj78_18_28 : decode jdk_78_method_18_code 28 = .ok (.areturn, 1) := by decide +kernel
theorem dj78_1_0 : decode jdk_78_method_1_code 0 = .ok (.aload_n 0, 1) := by decide +kernel
theorem dj78_1_1 : decode jdk_78_method_1_code 1 = .ok (.invokespecial 1, 3) := by decide +kernel
theorem dj78_1_4 : decode jdk_78_method_1_code 4 = .ok (.aload_n 0, 1) := by decide +kernel
theorem dj78_1_5 : decode jdk_78_method_1_code 5 = .ok (.aload_n 0, 1) := by decide +kernel
theorem dj78_1_6 : decode jdk_78_method_1_code 6 = .ok (.putfield 7, 3) := by decide +kernel
theorem dj78_1_9 : decode jdk_78_method_1_code 9 = .ok (.aload_n 0, 1) := by decide +kernel
theorem dj78_1_10 : decode jdk_78_method_1_code 10 = .ok (.getstatic 13, 3) := by decide +kernel
theorem dj78_1_13 : decode jdk_78_method_1_code 13 = .ok (.putfield 17, 3) := by decide +kernel
theorem dj78_1_16 : decode jdk_78_method_1_code 16 = .ok (.aload_n 0, 1) := by decide +kernel
theorem dj78_1_17 : decode jdk_78_method_1_code 17 = .ok (.getstatic 20, 3) := by decide +kernel
theorem dj78_1_20 : decode jdk_78_method_1_code 20 = .ok (.putfield 24, 3) := by decide +kernel
theorem dj78_1_23 : decode jdk_78_method_1_code 23 = .ok (.aload_n 0, 1) := by decide +kernel
theorem dj78_1_24 : decode jdk_78_method_1_code 24 = .ok (.invokevirtual 27, 3) := by decide +kernel
theorem dj78_1_27 : decode jdk_78_method_1_code 27 = .ok (.pop, 1) := by decide +kernel
theorem dj78_1_28 : decode jdk_78_method_1_code 28 = .ok (.return_, 1) := by decide +kernel
theorem dj78_6_0 : decode jdk_78_method_6_code 0 = .ok (.aload_n 0, 1) := by decide +kernel
theorem dj78_6_1 : decode jdk_78_method_6_code 1 = .ok (.getfield 31, 3) := by decide +kernel
theorem dj78_6_4 : decode jdk_78_method_6_code 4 = .ok (.areturn, 1) := by decide +kernel
theorem dj42_66_0 : decode jdk_42_method_66_code 0 = .ok (.aload_n 0, 1) := by decide +kernel
theorem dj42_66_1 : decode jdk_42_method_66_code 1 = .ok (.aload_n 1, 1) := by decide +kernel
theorem dj42_66_2 : decode jdk_42_method_66_code 2 = .ok (.if_acmp .ne 5, 3) := by decide +kernel
theorem dj42_66_5 : decode jdk_42_method_66_code 5 = .ok (.iconst 1, 1) := by decide +kernel
theorem dj42_66_6 : decode jdk_42_method_66_code 6 = .ok (.ireturn, 1) := by decide +kernel
theorem dj42_66_7 : decode jdk_42_method_66_code 7 = .ok (.aload_n 1, 1) := by decide +kernel
theorem dj42_66_8 : decode jdk_42_method_66_code 8 = .ok (.instanceof 10, 3) := by decide +kernel
theorem dj42_66_11 : decode jdk_42_method_66_code 11 = .ok (.ifCond .eq 43, 3) := by decide +kernel
theorem dj42_66_14 : decode jdk_42_method_66_code 14 = .ok (.aload_n 1, 1) := by decide +kernel
theorem dj42_66_15 : decode jdk_42_method_66_code 15 = .ok (.checkcast 10, 3) := by decide +kernel
theorem dj42_66_18 : decode jdk_42_method_66_code 18 = .ok (.astore_n 2, 1) := by decide +kernel
theorem dj42_66_19 : decode jdk_42_method_66_code 19 = .ok (.getstatic 38, 3) := by decide +kernel
theorem dj42_66_22 : decode jdk_42_method_66_code 22 = .ok (.ifCond .eq 14, 3) := by decide +kernel
theorem dj42_66_25 : decode jdk_42_method_66_code 25 = .ok (.aload_n 0, 1) := by decide +kernel
theorem dj42_66_26 : decode jdk_42_method_66_code 26 = .ok (.getfield 15, 3) := by decide +kernel
theorem dj42_66_29 : decode jdk_42_method_66_code 29 = .ok (.aload_n 2, 1) := by decide +kernel
theorem dj42_66_30 : decode jdk_42_method_66_code 30 = .ok (.getfield 15, 3) := by decide +kernel
theorem dj42_66_33 : decode jdk_42_method_66_code 33 = .ok (.if_icmp .ne 21, 3) := by decide +kernel
theorem dj42_66_36 : decode jdk_42_method_66_code 36 = .ok (.aload_n 0, 1) := by decide +kernel
theorem dj42_66_37 : decode jdk_42_method_66_code 37 = .ok (.getfield 9, 3) := by decide +kernel
theorem dj42_66_40 : decode jdk_42_method_66_code 40 = .ok (.aload_n 2, 1) := by decide +kernel
theorem dj42_66_41 : decode jdk_42_method_66_code 41 = .ok (.getfield 9, 3) := by decide +kernel
theorem dj42_66_44 : decode jdk_42_method_66_code 44 = .ok (.invokestatic 541, 3) := by decide +kernel
theorem dj42_66_47 : decode jdk_42_method_66_code 47 = .ok (.ifCond .eq 7, 3) := by decide +kernel
theorem dj42_66_50 : decode jdk_42_method_66_code 50 = .ok (.iconst 1, 1) := by decide +kernel
theorem dj42_66_51 : decode jdk_42_method_66_code 51 = .ok (.goto 4, 3) := by decide +kernel
theorem dj42_66_54 : decode jdk_42_method_66_code 54 = .ok (.iconst 0, 1) := by decide +kernel
theorem dj42_66_55 : decode jdk_42_method_66_code 55 = .ok (.ireturn, 1) := by decide +kernel
theorem dj43_13_0 : decode jdk_43_method_13_code 0 = .ok (.aload_n 0, 1) := by decide +kernel
theorem dj43_13_1 : decode jdk_43_method_13_code 1 = .ok (.arraylength, 1) := by decide +kernel
theorem dj43_13_2 : decode jdk_43_method_13_code 2 = .ok (.aload_n 1, 1) := by decide +kernel
theorem dj43_13_3 : decode jdk_43_method_13_code 3 = .ok (.arraylength, 1) := by decide +kernel
theorem dj43_13_4 : decode jdk_43_method_13_code 4 = .ok (.if_icmp .ne 30, 3) := by decide +kernel
theorem dj43_13_7 : decode jdk_43_method_13_code 7 = .ok (.iconst 0, 1) := by decide +kernel
theorem dj43_13_8 : decode jdk_43_method_13_code 8 = .ok (.istore_n 2, 1) := by decide +kernel
theorem dj43_13_9 : decode jdk_43_method_13_code 9 = .ok (.iload_n 2, 1) := by decide +kernel
theorem dj43_13_10 : decode jdk_43_method_13_code 10 = .ok (.aload_n 0, 1) := by decide +kernel
theorem dj43_13_11 : decode jdk_43_method_13_code 11 = .ok (.arraylength, 1) := by decide +kernel
theorem dj43_13_12 : decode jdk_43_method_13_code 12 = .ok (.if_icmp .ge 20, 3) := by decide +kernel
theorem dj43_13_15 : decode jdk_43_method_13_code 15 = .ok (.aload_n 0, 1) := by decide +kernel
theorem dj43_13_16 : decode jdk_43_method_13_code 16 = .ok (.iload_n 2, 1) := by decide +kernel
theorem dj43_13_17 : decode jdk_43_method_13_code 17 = .ok (.baload, 1) := by decide +kernel
theorem dj43_13_18 : decode jdk_43_method_13_code 18 = .ok (.aload_n 1, 1) := by decide +kernel
theorem dj43_13_19 : decode jdk_43_method_13_code 19 = .ok (.iload_n 2, 1) := by decide +kernel
theorem dj43_13_20 : decode jdk_43_method_13_code 20 = .ok (.baload, 1) := by decide +kernel
theorem dj43_13_21 : decode jdk_43_method_13_code 21 = .ok (.if_icmp .eq 5, 3) := by decide +kernel
theorem dj43_13_24 : decode jdk_43_method_13_code 24 = .ok (.iconst 0, 1) := by decide +kernel
theorem dj43_13_25 : decode jdk_43_method_13_code 25 = .ok (.ireturn, 1) := by decide +kernel
theorem dj43_13_26 : decode jdk_43_method_13_code 26 = .ok (.iinc 2 1, 3) := by decide +kernel
theorem dj43_13_29 : decode jdk_43_method_13_code 29 = .ok (.goto (-20), 3) := by decide +kernel
theorem dj43_13_32 : decode jdk_43_method_13_code 32 = .ok (.iconst 1, 1) := by decide +kernel
theorem dj43_13_33 : decode jdk_43_method_13_code 33 = .ok (.ireturn, 1) := by decide +kernel
theorem dj43_13_34 : decode jdk_43_method_13_code 34 = .ok (.iconst 0, 1) := by decide +kernel
theorem dj43_13_35 : decode jdk_43_method_13_code 35 = .ok (.ireturn, 1) := by decide +kernel
theorem dj78_8_0 : decode jdk_78_method_8_code 0 = .ok (.aload_n 0, 1) := by decide +kernel
theorem dj78_8_1 : decode jdk_78_method_8_code 1 = .ok (.getfield 7, 3) := by decide +kernel
theorem dj78_8_4 : decode jdk_78_method_8_code 4 = .ok (.aload_n 0, 1) := by decide +kernel
theorem dj78_8_5 : decode jdk_78_method_8_code 5 = .ok (.if_acmp .ne 7, 3) := by decide +kernel
theorem dj78_8_8 : decode jdk_78_method_8_code 8 = .ok (.aconst_null, 1) := by decide +kernel
theorem dj78_8_9 : decode jdk_78_method_8_code 9 = .ok (.goto 7, 3) := by decide +kernel
theorem dj78_8_12 : decode jdk_78_method_8_code 12 = .ok (.aload_n 0, 1) := by decide +kernel
theorem dj78_8_13 : decode jdk_78_method_8_code 13 = .ok (.getfield 7, 3) := by decide +kernel
theorem dj78_8_16 : decode jdk_78_method_8_code 16 = .ok (.areturn, 1) := by decide +kernel
theorem pd_lACIrV : parseMethodDescriptor "([CI)V" = some ⟨[(.array .char), .int], none⟩ := by decide +kernel
theorem pd_lIrC : parseMethodDescriptor "(I)C" = some ⟨[.int], some .char⟩ := by decide +kernel
theorem pd_lrZ : parseMethodDescriptor "()Z" = some ⟨[], some .boolean⟩ := by decide +kernel
theorem pd_lABIrC : parseMethodDescriptor "([BI)C" = some ⟨[(.array .byte), .int], some .char⟩ := by decide +kernel
theorem pd_lIIrV : parseMethodDescriptor "(II)V" = some ⟨[.int, .int], none⟩ := by decide +kernel
theorem pd_lIILjavautilfunctionBiFunctionrI : parseMethodDescriptor "(IILjava/util/function/BiFunction;)I" = some ⟨[.int, .int, (.object "java/util/function/BiFunction")], some .int⟩ := by decide +kernel
theorem pd_lACrV : parseMethodDescriptor "([C)V" = some ⟨[(.array .char)], none⟩ := by decide +kernel
theorem pd_lACIILjavalangVoidrV : parseMethodDescriptor "([CIILjava/lang/Void;)V" = some ⟨[(.array .char), .int, .int, (.object "java/lang/Void")], none⟩ := by decide +kernel
theorem pd_lrV : parseMethodDescriptor "()V" = some ⟨[], none⟩ := by decide +kernel
theorem pd_lACIIrAB : parseMethodDescriptor "([CII)[B" = some ⟨[(.array .char), .int, .int], some (.array .byte)⟩ := by decide +kernel
theorem pd_lACIABIIrI : parseMethodDescriptor "([CI[BII)I" = some ⟨[(.array .char), .int, (.array .byte), .int, .int], some .int⟩ := by decide +kernel
theorem pd_lABIrB : parseMethodDescriptor "([BI)B" = some ⟨[(.array .byte), .int], some .byte⟩ := by decide +kernel
theorem pd_lLjavalangStringrLjavalangIllegalStateException : parseMethodDescriptor "(Ljava/lang/String;)Ljava/lang/IllegalStateException;" = some ⟨[(.object "java/lang/String")], some (.object "java/lang/IllegalStateException")⟩ := by decide +kernel
theorem pd_lIrV : parseMethodDescriptor "(I)V" = some ⟨[.int], none⟩ := by decide +kernel
theorem pd_lLjavalangStringrLjavalangStringBuilder : parseMethodDescriptor "(Ljava/lang/String;)Ljava/lang/StringBuilder;" = some ⟨[(.object "java/lang/String")], some (.object "java/lang/StringBuilder")⟩ := by decide +kernel
theorem pd_lLjavalangStringrLjavalangAbstractStringBuilder : parseMethodDescriptor "(Ljava/lang/String;)Ljava/lang/AbstractStringBuilder;" = some ⟨[(.object "java/lang/String")], some (.object "java/lang/AbstractStringBuilder")⟩ := by decide +kernel
theorem pd_lrI : parseMethodDescriptor "()I" = some ⟨[], some .int⟩ := by decide +kernel
theorem pd_lrB : parseMethodDescriptor "()B" = some ⟨[], some .byte⟩ := by decide +kernel
theorem pd_lILjavalangStringrV : parseMethodDescriptor "(ILjava/lang/String;)V" = some ⟨[.int, (.object "java/lang/String")], none⟩ := by decide +kernel
theorem pd_lLjavalangStringrV : parseMethodDescriptor "(Ljava/lang/String;)V" = some ⟨[(.object "java/lang/String")], none⟩ := by decide +kernel
theorem pd_lABIBrV : parseMethodDescriptor "([BIB)V" = some ⟨[(.array .byte), .int, .byte], none⟩ := by decide +kernel
theorem pd_lLjavalangObjectILjavalangObjectIIrV : parseMethodDescriptor "(Ljava/lang/Object;ILjava/lang/Object;II)V" = some ⟨[(.object "java/lang/Object"), .int, (.object "java/lang/Object"), .int, .int], none⟩ := by decide +kernel
theorem pd_lIrI : parseMethodDescriptor "(I)I" = some ⟨[.int], some .int⟩ := by decide +kernel
theorem pd_lIIIrI : parseMethodDescriptor "(III)I" = some ⟨[.int, .int, .int], some .int⟩ := by decide +kernel
theorem pd_lIIrI : parseMethodDescriptor "(II)I" = some ⟨[.int, .int], some .int⟩ := by decide +kernel
theorem pd_lABIrAB : parseMethodDescriptor "([BI)[B" = some ⟨[(.array .byte), .int], some (.array .byte)⟩ := by decide +kernel
theorem pd_lrLjavalangString : parseMethodDescriptor "()Ljava/lang/String;" = some ⟨[], some (.object "java/lang/String")⟩ := by decide +kernel
theorem pd_lLjavalangStringBuilderrV : parseMethodDescriptor "(Ljava/lang/StringBuilder;)V" = some ⟨[(.object "java/lang/StringBuilder")], none⟩ := by decide +kernel
theorem pd_lLjavalangAbstractStringBuilderLjavalangVoidrV : parseMethodDescriptor "(Ljava/lang/AbstractStringBuilder;Ljava/lang/Void;)V" = some ⟨[(.object "java/lang/AbstractStringBuilder"), (.object "java/lang/Void")], none⟩ := by decide +kernel
theorem pd_lrAB : parseMethodDescriptor "()[B" = some ⟨[], some (.array .byte)⟩ := by decide +kernel
theorem pd_lABIIrAB : parseMethodDescriptor "([BII)[B" = some ⟨[(.array .byte), .int, .int], some (.array .byte)⟩ := by decide +kernel
theorem pd_lrLjavalangObject : parseMethodDescriptor "()Ljava/lang/Object;" = some ⟨[], some (.object "java/lang/Object")⟩ := by decide +kernel
theorem pd_lrLjavalangThrowable : parseMethodDescriptor "()Ljava/lang/Throwable;" = some ⟨[], some (.object "java/lang/Throwable")⟩ := by decide +kernel
theorem pd_lIrLjavalangThrowable : parseMethodDescriptor "(I)Ljava/lang/Throwable;" = some ⟨[.int], some (.object "java/lang/Throwable")⟩ := by decide +kernel
theorem pd_lLjavalangObjectrZ : parseMethodDescriptor "(Ljava/lang/Object;)Z" = some ⟨[(.object "java/lang/Object")], some .boolean⟩ := by decide +kernel
theorem pd_lABABrZ : parseMethodDescriptor "([B[B)Z" = some ⟨[(.array .byte), (.array .byte)], some .boolean⟩ := by decide +kernel
open Own
set_option maxHeartbeats 40000000
set_option maxRecDepth 65536
theorem own_new {a0 : Array Value} {Z : State} (hw : ∀ d ∈ tables_1, d.before a0 Z = true) : ∀ d ∈ StrChars.Road.words, d.before a0 Z = true := fun d hd => hw d ((by decide +kernel : ∀ d ∈ StrChars.Road.words, d ∈ tables_1) d hd)
theorem own_len {a0 : Array Value} {Z : State} (hw : ∀ d ∈ tables_1, d.before a0 Z = true) : ∀ d ∈ StrChars.Road.wordsLen, d.before a0 Z = true := fun d hd => hw d ((by decide +kernel : ∀ d ∈ StrChars.Road.wordsLen, d ∈ tables_1) d hd)
theorem own_eq {a0 : Array Value} {Z : State} (hw : ∀ d ∈ tables_1, d.before a0 Z = true) : ∀ d ∈ StrChars.Road.wordsEq, d.before a0 Z = true := fun d hd => hw d ((by decide +kernel : ∀ d ∈ StrChars.Road.wordsEq, d ∈ tables_1) d hd)
theorem own_ch {a0 : Array Value} {Z : State} (hw : ∀ d ∈ tables_1, d.before a0 Z = true) : ∀ d ∈ StrChars.Road.wordsChN, d.before a0 Z = true := fun d hd => hw d ((by decide +kernel : ∀ d ∈ StrChars.Road.wordsChN, d ∈ tables_1) d hd)
/-! new String(new char[0]), walked: the constant "" is loaded twice -/
section New0
variable {l : Launch} {R : Room} {Z : State} {a0 : Array Value} {EL : List (String × Nat)} {h : Heap} {W : Nat}
abbrev yI4 : MethodName := ⟨"java/lang/String", "<init>", "([CIILjava/lang/Void;)V"⟩
abbrev yI1 : MethodName := ⟨"java/lang/String", "<init>", "([C)V"⟩
theorem own_atoms (hw : ∀ d ∈ tables_1, d.before a0 Z = true) : ∀ a ∈ Bundle.stringAtoms, a.before a0 Z = true := fun d hd => hw d ((by decide +kernel : ∀ d ∈ Bundle.stringAtoms, d ∈ tables_1) d hd)
theorem met_I4z (hw : ∀ d ∈ tables_1, d.before a0 Z = true) (hm : ("java/lang/String", 7) ∈ EL) {x b : Addr} {v0 c0 : Value} (hx : Z.heap.size ≤ x) (E : Exa Z h x "java/lang/String") (V : Fld Z h x "java/lang/String" "value" "[B" v0) (C : Fld Z h x "java/lang/String" "coder" "B" c0) :
    MetW [] l yI4 jdk_42_method_149_code 6 none (Rm 1 4 8 12) #[.ref x, .ref b, .int 0, .int 0, .null] Z a0 EL false [x] h (fun v h' => v = none ∧ Keep h h' [x] ∧ Str Z h' x []) := by
  refine MetW.of (plainFor_of_name (by first | (simp [plainName, overriddenIn]; done) | decide +kernel)) fun X hX => ?_
  show Go X _ _ _ _ _ _ _ _ _ _ _ _ _ _ _ _ (mkF X.m 0 #[.val (.ref x), .val (.ref b), .val (.int 0), .val (.int 0), .val .null, .unset] [])
  have ne : RoadKit.slotOf Z "java/lang/String" "coder" "B" ≠ RoadKit.slotOf Z "java/lang/String" "value" "[B" := slot_ne (Or.inr (wy_String_String_coder hw)) (Or.inr (wy_String_String_value hw)) (by decide) (t := .byte) (t' := .array .byte) (by decide) (by decide)
  refine g_aloadN (pc' := 1) dj42_149_0 rfl rfl rfl ?_
  refine g_objinit (pc' := 4) dj42_149_1 rfl (wl_String_1 hw) (wm_Object_init_lrV hw) (wb_Object_init_lrV hw) rfl rfl rfl ?_
  refine g_iloadN (pc' := 5) dj42_149_4 rfl rfl ?_
  refine g_ifne (pc' := 8) (pc2 := 27) dj42_149_5 rfl (by decide) rfl (fun c5 => ?_) (fun c5 => absurd rfl c5)
  refine g_aloadN (pc' := 9) dj42_149_8 rfl rfl rfl ?_
  refine g_lit (pc' := 11) rfl [] 0 dj42_149_9 rfl (wt_String_7 hw) (own_atoms hw) hm ⟨by decide, rfl⟩ (by decide) (by decide) (by decide) rfl rfl rfl rfl rfl fun h9 a9 E9 T9 n9 => ?_
  have hxa9 : x ≠ a9 := n9 x (List.mem_cons_self ..)
  obtain ⟨t, kb, N2, vs, V9, C9, A9, hcod, -, -⟩ := T9.lat (fun c hc => nomatch hc)
  refine g_getfield (pc' := 14) dj42_149_11 rfl (wf_String_9 hw) V9 ?_
  refine g_putfield (pc' := 17) dj42_149_14 rfl (wf_String_9 hw) (V.ext E9) (E.ext E9) (Or.inr ⟨wy_String_String_value hw, rfl, rfl⟩) (wn_String hw) (ty := .array .byte) (by decide) rfl rfl hx (List.mem_cons_self ..) fun h14 W14 => ?_
  refine g_aloadN (pc' := 18) dj42_149_17 rfl rfl rfl ?_
  refine g_lit (pc' := 20) rfl [] 0 dj42_149_18 rfl (wt_String_7 hw) (own_atoms hw) hm ⟨by decide, rfl⟩ (by decide) (by decide) (by decide) rfl rfl rfl rfl rfl fun h18 a18 E18 T18 n18 => ?_
  obtain ⟨t', kb', N2', vs', V18, C18, A18, -, -, -⟩ := T18.lat (fun c hc => nomatch hc)
  refine g_getfield (pc' := 23) dj42_149_20 rfl (wf_String_15 hw) C18 ?_
  refine g_putfield (pc' := 26) dj42_149_23 rfl (wf_String_15 hw) (((C.ext E9).other W14 (Or.inr ne)).ext E18) (((E.ext E9).wr W14).ext E18) (Or.inr ⟨wy_String_String_coder hw, rfl, rfl⟩) (wn_String hw) (ty := .byte) (by decide) rfl rfl hx (List.mem_cons_self ..) fun h23 W23 => ?_
  have hxt : x ≠ t := (E.ext E9).neArv A9 (wn_String hw)
  have Ex : Exa Z h23 x "java/lang/String" := (((E.ext E9).wr W14).ext E18).wr W23
  have Vx : Fld Z h23 x "java/lang/String" "value" "[B" (.ref t) := (((V.ext E9).same W14).ext E18).other W23 (Or.inr ne.symm)
  have Cx : Fld Z h23 x "java/lang/String" "coder" "B" (.int 0) := (((C.ext E9).other W14 (Or.inr ne)).ext E18).same W23
  have Ax : Arv Z h23 t kb .byte N2 vs (.int 0) := (((A9.other W14 hxt.symm).ext E18).other W23 hxt.symm)
  exact g_return dj42_149_26 rfl rfl rfl ⟨rfl, ((((Keep.refl h [x]).ext E9).wr W14 (Or.inl (List.mem_cons_self ..))).ext E18).wr W23 (Or.inl (List.mem_cons_self ..)), Ex, t, kb, 0, N2, vs, Vx, Cx, Ax, hcod, (fun c hc => nomatch hc), Nat.zero_le _⟩
theorem met_I1z (hw : ∀ d ∈ tables_1, d.before a0 Z = true) (hm : ("java/lang/String", 7) ∈ EL) {x b : Addr} {kC : ClassId} {d v0 c0 : Value} {vs : List Value} (hx : Z.heap.size ≤ x) (E : Exa Z h x "java/lang/String") (V : Fld Z h x "java/lang/String" "value" "[B" v0) (C : Fld Z h x "java/lang/String" "coder" "B" c0) (K : Arv Z h b kC .char 0 vs d) :
    MetW [] l yI1 jdk_42_method_3_code 2 none (Rm 2 4 8 29) #[.ref x, .ref b] Z a0 EL false [x] h (fun v h' => v = none ∧ Keep h h' [x] ∧ Str Z h' x []) := by
  refine MetW.of (plainFor_of_name (by first | (simp [plainName, overriddenIn]; done) | decide +kernel)) fun X hX => ?_
  show Go X _ _ _ _ _ _ _ _ _ _ _ _ _ _ _ _ (mkF X.m 0 #[.val (.ref x), .val (.ref b)] [])
  refine g_aloadN (pc' := 1) dj42_3_0 rfl rfl rfl ?_
  refine g_aloadN (pc' := 2) dj42_3_1 rfl rfl rfl ?_
  refine g_iconst (pc' := 3) (w := 0) dj42_3_2 rfl (by decide) ?_
  refine g_aloadN (pc' := 4) dj42_3_3 rfl rfl rfl ?_
  refine g_arraylength (pc' := 5) dj42_3_4 rfl K ?_
  refine g_aconst_null (pc' := 6) dj42_3_5 rfl ?_
  refine g_invokespecial (pc' := 9) [x] [_, _, _, _] dj42_3_6 rfl rfl (wl_String_27 hw) (wm_String_init_lACIILjavalangVoidrV hw) (wb_String_init_lACIILjavalangVoidrV hw) (by decide) (Pay.of_met (met_I4z hw hm (b := b) hx E V C) (wb_String_init_lACIILjavalangVoidrV hw) (wi_String hw) rfl rfl) pd_lACIILjavalangVoidrV rfl rfl rfl rfl rfl (fun _ q => q) fun v6 h6 q6 l6 => ?_
  obtain ⟨rfl, K6, T6⟩ := q6
  exact g_return dj42_3_9 rfl rfl rfl ⟨rfl, K6, T6⟩
theorem pay_new0 (hw : ∀ d ∈ tables_1, d.before a0 Z = true) (hm : ("java/lang/String", 7) ∈ EL) {x b : Addr} {kC : ClassId} {d v0 c0 : Value} {vs : List Value} (hx : Z.heap.size ≤ x) (E : Exa Z h x "java/lang/String") (V : Fld Z h x "java/lang/String" "value" "[B" v0) (C : Fld Z h x "java/lang/String" "coder" "B" c0) (K : Arv Z h b kC .char 0 vs d) (hf : Nat.ble 3 R.frames = true) (hl : Nat.ble (W + 42) R.locals = true) :
    Pay l R yI1 W #[.ref x, .ref b] Z a0 EL false [x] h 4 8 (fun v h' => v = none ∧ Keep h h' [x] ∧ Str Z h' x []) := Pay.of_met (met_I1z hw hm hx E V C K) (wb_String_init_lACrV hw) (wi_String hw) hf (by exact hl)
end New0
/-! StringBuilder over Latin-1 text: its constructor, append(String), toString, walked -/
section SBs
variable {l : Launch} {R : Room} {Z : State} {a0 : Array Value} {EL : List (String × Nat)} {nw : Bool} {h : Heap} {W : Nat} {z : Int32}
abbrev ASB : String := "java/lang/AbstractStringBuilder"
abbrev SBN : String := "java/lang/StringBuilder"
abbrev l8 (c : Int32) : Int32 := StrChars.lo8 c
abbrev bys (cs : List Int32) : List Value := cs.map fun c => Value.int (StrChars.lo8 c)
/-- at b a StringBuilder that holds cs, in the array t of cap bytes -/
def SBd (Z : State) (h : Heap) (b t : Addr) (cs : List Int32) (cap : Nat) : Prop :=
  Exa Z h b SBN ∧ Fld Z h b ASB "value" "[B" (.ref t) ∧ Fld Z h b ASB "coder" "B" (.int 0) ∧ Fld Z h b ASB "count" "I" (.int (Int32.ofNat cs.length)) ∧ ∃ (kb : ClassId) (vs : List Value), Z.vm.findClass "[B" = some kb ∧ Arv Z h t kb .byte (Int32.ofNat cap) vs (.int 0) ∧ vs.length = cap ∧ vs.take cs.length = bys cs ∧ cs.length ≤ cap ∧ cap ≤ 4000
theorem SBd.ext {h' : Heap} {b t : Addr} {cs : List Int32} {cap : Nat} (S : SBd Z h b t cs cap) (E : Ext h h') : SBd Z h' b t cs cap := by
  obtain ⟨h1, h2, h3, h4, kb, vs, hc, h5, r⟩ := S
  exact ⟨h1.ext E, h2.ext E, h3.ext E, h4.ext E, kb, vs, hc, h5.ext E, r⟩
abbrev yASBi : MethodName := ⟨"java/lang/AbstractStringBuilder", "<init>", "(I)V"⟩
abbrev ySBi : MethodName := ⟨"java/lang/StringBuilder", "<init>", "()V"⟩
abbrev yCod : MethodName := ⟨"java/lang/String", "coder", "()B"⟩
abbrev yInf : MethodName := ⟨"java/lang/AbstractStringBuilder", "inflateIfNeededFor", "(Ljava/lang/String;)V"⟩
abbrev yGBy : MethodName := ⟨"java/lang/String", "getBytes", "([BIB)V"⟩
abbrev yPSA : MethodName := ⟨"java/lang/AbstractStringBuilder", "putStringAt", "(ILjava/lang/String;)V"⟩
theorem sb_ne1 (hw : ∀ d ∈ tables_1, d.before a0 Z = true) : RoadKit.slotOf Z ASB "coder" "B" ≠ RoadKit.slotOf Z ASB "value" "[B" := slot_ne (Or.inl (wy_StringBuilder_AbstractStringBuilder_coder hw)) (Or.inl (wy_StringBuilder_AbstractStringBuilder_value hw)) (by decide) (t := .byte) (t' := .array .byte) (by decide) (by decide)
theorem sb_ne2 (hw : ∀ d ∈ tables_1, d.before a0 Z = true) : RoadKit.slotOf Z ASB "count" "I" ≠ RoadKit.slotOf Z ASB "value" "[B" := slot_ne (Or.inl (wy_StringBuilder_AbstractStringBuilder_count hw)) (Or.inl (wy_StringBuilder_AbstractStringBuilder_value hw)) (by decide) (t := .int) (t' := .array .byte) (by decide) (by decide)
theorem sb_ne3 (hw : ∀ d ∈ tables_1, d.before a0 Z = true) : RoadKit.slotOf Z ASB "count" "I" ≠ RoadKit.slotOf Z ASB "coder" "B" := slot_ne (Or.inl (wy_StringBuilder_AbstractStringBuilder_count hw)) (Or.inl (wy_StringBuilder_AbstractStringBuilder_coder hw)) (by decide) (t := .int) (t' := .byte) (by decide) (by decide)
theorem met_ASBi (hw : ∀ d ∈ tables_1, d.before a0 Z = true) (S : Sta Z Z.heap "java/lang/String" "COMPACT_STRINGS" "Z" (.int z)) (hz : ¬ z = 0) {b : Addr} {v0 c0 : Value} (hb : Z.heap.size ≤ b) (E : Exa Z h b SBN) (Fv : Fld Z h b ASB "value" "[B" v0) (Fc : Fld Z h b ASB "coder" "B" c0) (Fn : Fld Z h b ASB "count" "I" (.int 0)) :
    MetW [] l yASBi jdk_68_method_2_code 2 none (Rm 1 1 16 12) #[.ref b, .int 16] Z a0 EL nw [b] h (fun v h' => v = none ∧ Keep h h' [b] ∧ ∃ t, h.size ≤ t ∧ t < h'.size ∧ SBd Z h' b t [] 16) := by
  refine MetW.of (by first | exact plainFor_of_name (by first | (simp [plainName, overriddenIn]; done) | decide +kernel) | decide +kernel) fun X hX => Go.old fun EZ => ?_
  show Go X _ _ _ _ _ _ _ _ _ _ _ _ _ _ _ _ (mkF X.m 0 #[.val (.ref b), .val (.int 16)] [])
  refine g_aloadN (pc' := 1) dj68_2_0 rfl rfl rfl ?_
  refine g_objinit (pc' := 4) dj68_2_1 rfl (wl_AbstractStringBuilder_3 hw) (wm_Object_init_lrV hw) (wb_Object_init_lrV hw) rfl rfl rfl ?_
  refine g_getstatic (pc' := 7) dj68_2_4 rfl (wf_AbstractStringBuilder_18 hw) (S) ?_
  refine g_ifeq (pc' := 10) (pc2 := 25) dj68_2_7 rfl (by decide) rfl (fun c7 => ?_) (fun c7 => False.elim (hz c7))
  refine g_aloadN (pc' := 11) dj68_2_10 rfl rfl rfl ?_
  refine g_iloadN (pc' := 12) dj68_2_11 rfl rfl ?_
  refine g_newarrayX (pc' := 14) (cap := 16) dj68_2_12 rfl (wa_byte hw) (by decide) (by decide) rfl rfl rfl fun h12 a12 k12 e12 E12 c12 A12 => ?_
  refine g_putfield (pc' := 17) dj68_2_14 rfl (wf_AbstractStringBuilder_15 hw) (Fv.ext E12) (E.ext E12) (Or.inl (wy_StringBuilder_AbstractStringBuilder_value hw)) (wn_StringBuilder hw) (ty := (.array .byte)) (by decide) rfl rfl (hb) (by simp) fun h14 W14 => ?_
  refine g_aloadN (pc' := 18) dj68_2_17 rfl rfl rfl ?_
  refine g_iconst (pc' := 19) (w := 0) dj68_2_18 rfl (by decide) ?_
  refine g_putfield (pc' := 22) dj68_2_19 rfl (wf_AbstractStringBuilder_22 hw) ((Fc.ext E12).other W14 (Or.inr (sb_ne1 hw))) ((E.ext E12).wr W14) (Or.inl (wy_StringBuilder_AbstractStringBuilder_coder hw)) (wn_StringBuilder hw) (ty := .byte) (by decide) rfl rfl (hb) (by simp) fun h19 W19 => ?_
  refine g_goto (pc' := 38) dj68_2_22 (by decide) rfl ?_
  have hne : a12 ≠ b := Nat.ne_of_gt (by rw [e12]; exact E.lt)
  have A : Arv Z h19 a12 k12 .byte 16 (List.replicate 16 (Value.int 0)) (.int 0) := (Arv.other (Arv.other A12 W14 hne) W19 hne)
  refine g_return dj68_2_38 rfl rfl rfl ⟨rfl, (((Keep.refl h [b]).ext E12).wr W14 (Or.inl (List.mem_cons_self ..))).wr W19 (Or.inl (List.mem_cons_self ..)), a12, Nat.le_of_eq e12.symm, A.lt, ((E.ext E12).wr W14).wr W19, ((Fv.ext E12).same W14).other W19 (Or.inr (sb_ne1 hw).symm), ((Fc.ext E12).other W14 (Or.inr (sb_ne1 hw))).same W19, ((Fn.ext E12).other W14 (Or.inr (sb_ne2 hw))).other W19 (Or.inr (sb_ne3 hw)), k12, _, c12, A, rfl, rfl, Nat.zero_le _, by decide⟩
theorem met_SBi (hw : ∀ d ∈ tables_1, d.before a0 Z = true) (S : Sta Z Z.heap "java/lang/String" "COMPACT_STRINGS" "Z" (.int z)) (hz : ¬ z = 0) {b : Addr} {v0 c0 : Value} (hb : Z.heap.size ≤ b) (E : Exa Z h b SBN) (Fv : Fld Z h b ASB "value" "[B" v0) (Fc : Fld Z h b ASB "coder" "B" c0) (Fn : Fld Z h b ASB "count" "I" (.int 0)) :
    MetW [] l ySBi jdk_67_method_1_code 1 none (Rm 2 1 16 30) #[.ref b] Z a0 EL nw [b] h (fun v h' => v = none ∧ Keep h h' [b] ∧ ∃ t, h.size ≤ t ∧ t < h'.size ∧ SBd Z h' b t [] 16) := by
  refine MetW.of (by first | exact plainFor_of_name (by first | (simp [plainName, overriddenIn]; done) | decide +kernel) | decide +kernel) fun X hX => Go.old fun EZ => ?_
  show Go X _ _ _ _ _ _ _ _ _ _ _ _ _ _ _ _ (mkF X.m 0 #[.val (.ref b)] [])
  refine g_aloadN (pc' := 1) dj67_1_0 rfl rfl rfl ?_
  refine g_bipush (pc' := 3) (w := 16) dj67_1_1 rfl (by decide) ?_
  refine g_invokespecial (pc' := 6) [b] [_] dj67_1_3 rfl rfl (wl_StringBuilder_1 hw) (wm_AbstractStringBuilder_init_lIrV hw) (wb_AbstractStringBuilder_init_lIrV hw) (by decide) (Pay.of_met (met_ASBi hw S hz hb E Fv Fc Fn) (wb_AbstractStringBuilder_init_lIrV hw) (wi_AbstractStringBuilder hw) rfl rfl) pd_lIrV rfl rfl rfl rfl rfl (fun _ q => q) fun v3 h3 q3 l3 => ?_
  obtain ⟨rfl, q⟩ := q3
  refine g_return dj67_1_6 rfl rfl rfl (⟨rfl, q⟩)
theorem met_cod (hw : ∀ d ∈ tables_1, d.before a0 Z = true) (S : Sta Z Z.heap "java/lang/String" "COMPACT_STRINGS" "Z" (.int z)) (hz : ¬ z = 0) {x : Addr} {cd : Int32} (hcd : narrow .byte (.int cd) = .int cd) (C : Fld Z h x "java/lang/String" "coder" "B" (.int cd)) : MetW [] l yCod jdk_42_method_152_code 1 (some .byte) (Rm 0 0 0 0) #[.ref x] Z a0 EL nw [] h (fun v h' => v = some (.int cd) ∧ h' = h) := by
  refine MetW.of (by first | exact plainFor_of_name (by first | (simp [plainName, overriddenIn]; done) | decide +kernel) | decide +kernel) fun X hX => Go.old fun EZ => ?_
  show Go X _ _ _ _ _ _ _ _ _ _ _ _ _ _ _ _ (mkF X.m 0 #[.val (.ref x)] [])
  refine g_getstatic (pc' := 3) dj42_152_0 rfl (wf_String_38 hw) (S) ?_
  refine g_ifeq (pc' := 6) (pc2 := 13) dj42_152_3 rfl (by decide) rfl (fun c3 => ?_) (fun c3 => False.elim (hz c3))
  refine g_aloadN (pc' := 7) dj42_152_6 rfl rfl rfl ?_
  refine g_getfield (pc' := 10) dj42_152_7 rfl (wf_String_15 hw) (C) ?_
  refine g_goto (pc' := 14) dj42_152_10 (by decide) rfl ?_
  refine g_ireturn (t := .byte) dj42_152_14 rfl (by simp) (hcd) rfl rfl (⟨rfl, rfl⟩)
theorem met_inf (hw : ∀ d ∈ tables_1, d.before a0 Z = true) (S : Sta Z Z.heap "java/lang/String" "COMPACT_STRINGS" "Z" (.int z)) (hz : ¬ z = 0) {b x : Addr} {cd : Int32} (hcd : narrow .byte (.int cd) = .int cd) (Fc : Fld Z h b ASB "coder" "B" (.int cd)) (E : Exa Z h x "java/lang/String") (C : Fld Z h x "java/lang/String" "coder" "B" (.int cd)) :
    MetW [] l yInf jdk_68_method_71_code 2 none (Rm 1 0 0 13) #[.ref b, .ref x] Z a0 EL nw [] h (fun v h' => v = none ∧ h' = h) := by
  refine MetW.of (by first | exact plainFor_of_name (by first | (simp [plainName, overriddenIn]; done) | decide +kernel) | decide +kernel) fun X hX => Go.old fun EZ => ?_
  show Go X _ _ _ _ _ _ _ _ _ _ _ _ _ _ _ _ (mkF X.m 0 #[.val (.ref b), .val (.ref x)] [])
  refine g_getstatic (pc' := 3) dj68_71_0 rfl (wf_AbstractStringBuilder_18 hw) (S) ?_
  refine g_ifeq (pc' := 6) (pc2 := 21) dj68_71_3 rfl (by decide) rfl (fun c3 => ?_) (fun c3 => False.elim (hz c3))
  refine g_aloadN (pc' := 7) dj68_71_6 rfl rfl rfl ?_
  refine g_getfield (pc' := 10) dj68_71_7 rfl (wf_AbstractStringBuilder_22 hw) (Fc) ?_
  refine g_aloadN (pc' := 11) dj68_71_10 rfl rfl rfl ?_
  refine g_invokevirtual (pc' := 14) [] [] dj68_71_11 rfl (wl_AbstractStringBuilder_40 hw) (wd_String_coder_lrB hw) (wv_String_String_coder_lrB hw) (wm_String_coder_lrB hw) (by decide) (E) (Pay.of_met (met_cod hw S hz hcd C) (wb_String_coder_lrB hw) (wi_String hw) rfl rfl) pd_lrB rfl rfl rfl rfl rfl (fun _ q => nomatch q) fun v11 h11 q11 l11 => ?_
  obtain ⟨rfl, rfl⟩ := q11
  refine g_icmpeq (pc' := 17) (pc2 := 21) dj68_71_14 rfl (by decide) rfl (fun c14 => False.elim (c14 rfl)) (fun c14 => ?_)
  refine g_return dj68_71_21 rfl rfl rfl (⟨rfl, rfl⟩)
theorem shl0 (x : Int32) : x <<< ((0 : Int32) &&& 31) = x := by
  apply Int32.toBitVec_inj.mp
  rw [Int32.toBitVec_shiftLeft]
  have : (((0 : Int32) &&& 31).toBitVec.smod 32) = 0#32 := by decide
  rw [this]
  simp
theorem own_us {ds : List Int32} {vs : List Value} {d : Value} (hv : vs = bys ds) : ((List.range ds.length).map fun i => vs.getD (0 + i) d) = bys ds := by
  subst hv
  apply List.ext_getElem
  · simp
  · intro i h1 h2
    simp at h1 h2
    simp [List.getD_eq_getElem?_getD, h1]
theorem met_GBy (hw : ∀ d ∈ tables_1, d.before a0 Z = true) (S : Sta Z Z.heap "java/lang/String" "COMPACT_STRINGS" "Z" (.int z)) (hz : ¬ z = 0) {x dst : Addr} {kb : ClassId} {vd : List Value} {cap off : Nat} {ds : List Int32} (T : Str Z h x ds) (hds : ∀ c ∈ ds, ¬ (255 : Int32) < c) (hdst : Z.heap.size ≤ dst) (B : Arv Z h dst kb .byte (Int32.ofNat cap) vd (.int 0)) (hcap : cap ≤ 4000) (hvd : vd.length = cap) (hoff : off + ds.length ≤ cap) :
    MetW [] l yGBy jdk_42_method_147_code 4 none (Rm 1 0 0 40) #[.ref x, .ref dst, .int (Int32.ofNat off), .int 0] Z a0 EL nw [dst] h (fun v h' => v = none ∧ Keep h h' [dst] ∧ Arv Z h' dst kb .byte (Int32.ofNat cap) (vd.take off ++ bys ds ++ vd.drop (off + ds.length)) (.int 0)) := by
  obtain ⟨t, kx, N2, vs, V, C, A, hcod, -, hl⟩ := T.lat hds
  obtain ⟨rfl, rfl⟩ : N2 = Int32.ofNat ds.length ∧ vs = bys ds := by
    rcases hcod with ⟨-, q1, q2, -⟩ | ⟨q, -⟩
    · exact ⟨q1, q2⟩
    · exact absurd q (by decide)
  refine MetW.of (by first | exact plainFor_of_name (by first | (simp [plainName, overriddenIn]; done) | decide +kernel) | decide +kernel) fun X hX => Go.old fun EZ => ?_
  show Go X _ _ _ _ _ _ _ _ _ _ _ _ _ _ _ _ (mkF X.m 0 #[.val (.ref x), .val (.ref dst), .val (.int (Int32.ofNat off)), .val (.int 0)] [])
  refine g_aloadN (pc' := 1) dj42_147_0 rfl rfl rfl ?_
  refine g_invokevirtual (pc' := 4) [] [] dj42_147_1 rfl (wl_String_335 hw) (wd_String_coder_lrB hw) (wv_String_String_coder_lrB hw) (wm_String_coder_lrB hw) (by decide) (T.exa) (Pay.of_met (met_cod hw S hz rfl C) (wb_String_coder_lrB hw) (wi_String hw) rfl rfl) pd_lrB rfl rfl rfl rfl rfl (fun _ q => nomatch q) fun v1 h1 q1 l1 => ?_
  obtain ⟨rfl, rfl⟩ := q1
  refine g_iloadN (pc' := 5) dj42_147_4 rfl rfl ?_
  refine g_icmpne (pc' := 8) (pc2 := 28) dj42_147_5 rfl (by decide) rfl (fun c5 => ?_) (fun c5 => False.elim (c5 rfl))
  refine g_aloadN (pc' := 9) dj42_147_8 rfl rfl rfl ?_
  refine g_getfield (pc' := 12) dj42_147_9 rfl (wf_String_9 hw) (V) ?_
  refine g_iconst (pc' := 13) (w := 0) dj42_147_12 rfl (by decide) ?_
  refine g_aloadN (pc' := 14) dj42_147_13 rfl rfl rfl ?_
  refine g_iloadN (pc' := 15) dj42_147_14 rfl rfl ?_
  refine g_iloadN (pc' := 16) dj42_147_15 rfl rfl ?_
  refine g_ishl (pc' := 17) dj42_147_16 rfl ?_
  rw [shl0]
  refine g_aloadN (pc' := 18) dj42_147_17 rfl rfl rfl ?_
  refine g_getfield (pc' := 21) dj42_147_18 rfl (wf_String_9 hw) (V) ?_
  refine g_arraylength (pc' := 22) dj42_147_21 rfl (A) ?_
  refine g_arraycopy (pc' := 25) dj42_147_22 rfl (wl_String_212 hw) (wn_System_arraycopy_lLjavalangObjectILjavalangObjectIIrV hw) (ws_System_arraycopy_lLjavalangObjectILjavalangObjectIIrV hw) (wi_System hw) A B (by decide) (ofNat_nn (by omega)) (ofNat_nn (by omega)) (by rw [ofNat_clamp (by omega)]; show 0 + ds.length ≤ _; omega) (by rw [ofNat_clamp (by omega), ofNat_clamp (by omega), ofNat_clamp (by omega)]; omega) rfl (by rw [ofNat_clamp (by omega), ofNat_clamp (by omega)]; omega) hdst (List.mem_cons_self ..) rfl rfl rfl fun h22 K22 A22 => ?_
  rw [ofNat_clamp (a := off) (by omega), ofNat_clamp (a := ds.length) (by omega)] at A22
  have e0 : (0 : Int32).toNatClampNeg = 0 := rfl
  rw [e0, own_us rfl] at A22
  refine g_goto (pc' := 43) dj42_147_25 (by decide) rfl ?_
  refine g_return dj42_147_43 rfl rfl rfl (⟨rfl, K22, A22⟩)
theorem met_PSA (hw : ∀ d ∈ tables_1, d.before a0 Z = true) (S : Sta Z Z.heap "java/lang/String" "COMPACT_STRINGS" "Z" (.int z)) (hz : ¬ z = 0) {b t x : Addr} {kb : ClassId} {vd : List Value} {cap off : Nat} {ds : List Int32} (E : Exa Z h b SBN) (Fv : Fld Z h b ASB "value" "[B" (.ref t)) (Fc : Fld Z h b ASB "coder" "B" (.int 0)) (T : Str Z h x ds) (hds : ∀ c ∈ ds, ¬ (255 : Int32) < c) (ht : Z.heap.size ≤ t) (B : Arv Z h t kb .byte (Int32.ofNat cap) vd (.int 0)) (hcap : cap ≤ 4000) (hvd : vd.length = cap) (hoff : off + ds.length ≤ cap) :
    MetW [] l yPSA jdk_68_method_73_code 3 none (Rm 2 0 0 60) #[.ref b, .int (Int32.ofNat off), .ref x] Z a0 EL nw [t] h (fun v h' => v = none ∧ Keep h h' [t] ∧ Arv Z h' t kb .byte (Int32.ofNat cap) (vd.take off ++ bys ds ++ vd.drop (off + ds.length)) (.int 0)) := by
  obtain ⟨tx, kx, N2, vs, V, C, A, hcod, -, hl⟩ := T.lat hds
  refine MetW.of (by first | exact plainFor_of_name (by first | (simp [plainName, overriddenIn]; done) | decide +kernel) | decide +kernel) fun X hX => Go.old fun EZ => ?_
  show Go X _ _ _ _ _ _ _ _ _ _ _ _ _ _ _ _ (mkF X.m 0 #[.val (.ref b), .val (.int (Int32.ofNat off)), .val (.ref x)] [])
  refine g_aloadN (pc' := 1) dj68_73_0 rfl rfl rfl ?_
  refine g_aloadN (pc' := 2) dj68_73_1 rfl rfl rfl ?_
  refine g_private (pc' := 5) [] [_] dj68_73_2 rfl (wl_AbstractStringBuilder_397 hw) (wq_AbstractStringBuilder_inflateIfNeededFor_lLjavalangStringrV hw) (wv_StringBuilder_AbstractStringBuilder_inflateIfNeededFor_lLjavalangStringrV hw) (wm_AbstractStringBuilder_inflateIfNeededFor_lLjavalangStringrV hw) (by decide) (wb_AbstractStringBuilder_inflateIfNeededFor_lLjavalangStringrV hw) (E) (Pay.of_met (met_inf hw S hz rfl Fc T.exa C) (wb_AbstractStringBuilder_inflateIfNeededFor_lLjavalangStringrV hw) (wi_AbstractStringBuilder hw) rfl rfl) pd_lLjavalangStringrV rfl rfl rfl rfl rfl (fun _ q => nomatch q) fun v2 h2 q2 l2 => ?_
  obtain ⟨rfl, rfl⟩ := q2
  refine g_aloadN (pc' := 6) dj68_73_5 rfl rfl rfl ?_
  refine g_aloadN (pc' := 7) dj68_73_6 rfl rfl rfl ?_
  refine g_getfield (pc' := 10) dj68_73_7 rfl (wf_AbstractStringBuilder_15 hw) (Fv) ?_
  refine g_iloadN (pc' := 11) dj68_73_10 rfl rfl ?_
  refine g_aloadN (pc' := 12) dj68_73_11 rfl rfl rfl ?_
  refine g_getfield (pc' := 15) dj68_73_12 rfl (wf_AbstractStringBuilder_22 hw) (Fc) ?_
  refine g_invokevirtual (pc' := 18) [t] [_, _, _] dj68_73_15 rfl (wl_AbstractStringBuilder_399 hw) (wd_String_getBytes_lABIBrV hw) (wv_String_String_getBytes_lABIBrV hw) (wm_String_getBytes_lABIBrV hw) (by decide) (T.exa) (Pay.of_met (met_GBy hw S hz T hds ht B hcap hvd hoff) (wb_String_getBytes_lABIBrV hw) (wi_String hw) rfl rfl) pd_lABIBrV rfl rfl rfl rfl rfl (fun _ q => q) fun v15 h15 q15 l15 => ?_
  obtain ⟨rfl, K15, A15⟩ := q15
  refine g_return dj68_73_18 rfl rfl rfl (⟨rfl, K15, A15⟩)
theorem shr0 (x : Int32) : x >>> ((0 : Int32) &&& 31) = x := by
  apply Int32.toBitVec_inj.mp
  rw [Int32.toBitVec_shiftRight]
  have : (((0 : Int32) &&& 31).toBitVec.smod 32) = 0#32 := by decide
  rw [this]
  simp
theorem ofNat_sub {a b : Nat} (q : b ≤ a) : Int32.ofNat a - Int32.ofNat b = Int32.ofNat (a - b) := by
  have : a = (a - b) + b := by omega
  rw [this, Int32.ofNat_add]
  simp
theorem ofNat_add2 (a b : Nat) : Int32.ofNat a + Int32.ofNat b = Int32.ofNat (a + b) := (Int32.ofNat_add ..).symm
abbrev yMax : MethodName := ⟨"java/lang/Math", "max", "(II)I"⟩
abbrev yMin : MethodName := ⟨"java/lang/Math", "min", "(II)I"⟩
abbrev yNL : MethodName := ⟨"jdk/internal/util/ArraysSupport", "newLength", "(III)I"⟩
abbrev yNC : MethodName := ⟨"java/lang/AbstractStringBuilder", "newCapacity", "(I)I"⟩
abbrev yCO : MethodName := ⟨"java/util/Arrays", "copyOf", "([BI)[B"⟩
abbrev yECI : MethodName := ⟨"java/lang/AbstractStringBuilder", "ensureCapacityInternal", "(I)V"⟩
abbrev yApS : MethodName := ⟨"java/lang/AbstractStringBuilder", "append", "(Ljava/lang/String;)Ljava/lang/AbstractStringBuilder;"⟩
abbrev ySApS : MethodName := ⟨"java/lang/StringBuilder", "append", "(Ljava/lang/String;)Ljava/lang/StringBuilder;"⟩
theorem met_max (hw : ∀ d ∈ tables_1, d.before a0 Z = true) {a b : Nat} (ha : a < 100000) (hb : b < 100000) : MetW [] l yMax jdk_29_method_65_code 2 (some .int) (Rm 0 0 0 0) #[.int (Int32.ofNat a), .int (Int32.ofNat b)] Z a0 EL nw [] h (fun v h' => v = some (.int (Int32.ofNat (max a b))) ∧ h' = h) := by
  refine MetW.of (by first | exact plainFor_of_name (by first | (simp [plainName, overriddenIn]; done) | decide +kernel) | decide +kernel) fun X hX => Go.old fun EZ => ?_
  show Go X _ _ _ _ _ _ _ _ _ _ _ _ _ _ _ _ (mkF X.m 0 #[.val (.int (Int32.ofNat a)), .val (.int (Int32.ofNat b))] [])
  refine g_iloadN (pc' := 1) dj29_65_0 rfl rfl ?_
  refine g_iloadN (pc' := 2) dj29_65_1 rfl rfl ?_
  refine g_icmplt (pc' := 5) (pc2 := 9) dj29_65_2 rfl (by decide) rfl (fun c2 => ?_) (fun c2 => ?_)
  · refine g_iloadN (pc' := 6) dj29_65_5 rfl rfl ?_
    refine g_goto (pc' := 10) dj29_65_6 (by decide) rfl ?_
    rw [ofNat_lt (by omega) (by omega)] at c2
    refine g_ireturn (t := .int) dj29_65_10 rfl (by simp) rfl rfl rfl (⟨by rw [Nat.max_eq_left (by omega)], rfl⟩)
  · refine g_iloadN (pc' := 10) dj29_65_9 rfl rfl ?_
    rw [ofNat_lt (by omega) (by omega)] at c2
    refine g_ireturn (t := .int) dj29_65_10 rfl (by simp) rfl rfl rfl (⟨by rw [Nat.max_eq_right (by omega)], rfl⟩)
theorem met_min (hw : ∀ d ∈ tables_1, d.before a0 Z = true) {a b : Nat} (ha : a < 100000) (hb : b < 100000) : MetW [] l yMin jdk_29_method_69_code 2 (some .int) (Rm 0 0 0 0) #[.int (Int32.ofNat a), .int (Int32.ofNat b)] Z a0 EL nw [] h (fun v h' => v = some (.int (Int32.ofNat (min a b))) ∧ h' = h) := by
  refine MetW.of (by first | exact plainFor_of_name (by first | (simp [plainName, overriddenIn]; done) | decide +kernel) | decide +kernel) fun X hX => Go.old fun EZ => ?_
  show Go X _ _ _ _ _ _ _ _ _ _ _ _ _ _ _ _ (mkF X.m 0 #[.val (.int (Int32.ofNat a)), .val (.int (Int32.ofNat b))] [])
  refine g_iloadN (pc' := 1) dj29_69_0 rfl rfl ?_
  refine g_iloadN (pc' := 2) dj29_69_1 rfl rfl ?_
  refine g_icmpgt (pc' := 5) (pc2 := 9) dj29_69_2 rfl (by decide) rfl (fun c2 => ?_) (fun c2 => ?_)
  · refine g_iloadN (pc' := 6) dj29_69_5 rfl rfl ?_
    refine g_goto (pc' := 10) dj29_69_6 (by decide) rfl ?_
    rw [ofNat_lt (by omega) (by omega)] at c2
    refine g_ireturn (t := .int) dj29_69_10 rfl (by simp) rfl rfl rfl (⟨by rw [Nat.min_eq_left (by omega)], rfl⟩)
  · refine g_iloadN (pc' := 10) dj29_69_9 rfl rfl ?_
    rw [ofNat_lt (by omega) (by omega)] at c2
    refine g_ireturn (t := .int) dj29_69_10 rfl (by simp) rfl rfl rfl (⟨by rw [Nat.min_eq_right (by omega)], rfl⟩)
theorem us_all {vs : List Value} {n : Nat} {d : Value} (hv : vs.length = n) : ((List.range n).map fun i => vs.getD (0 + i) d) = vs := by
  subst hv
  apply List.ext_getElem
  · simp
  · intro i h1 h2
    simp at h1 h2
    simp [List.getD_eq_getElem?_getD, h2]
theorem sub_le {a c : Nat} (q : a ≤ c) (hc : c < 100000) : ¬ (0 : Int32) < Int32.ofNat a - Int32.ofNat c := by
  rw [Int32.lt_iff_toInt_lt, Int32.toInt_sub, toInt_ofNat (by omega), toInt_ofNat (by omega)]
  have z : (0 : Int32).toInt = 0 := rfl
  rw [z]
  have : ((a : Int) - c).bmod (2 ^ 32) = (a : Int) - c := by rw [Int.bmod_def]; omega
  omega
theorem sub_gt {a c : Nat} (q : c < a) (hc : a < 100000) : (0 : Int32) < Int32.ofNat a - Int32.ofNat c := by
  rw [ofNat_sub (by omega)]
  exact (ofNat_lt (a := 0) (by omega) (by omega)).mpr (by omega)
abbrev capOf (N cap : Nat) : Nat := if N ≤ cap then cap else max N (2 * cap + 2)
theorem met_ECI0 (hw : ∀ d ∈ tables_1, d.before a0 Z = true) {b t : Addr} {cs : List Int32} {cap N : Nat} (B : SBd Z h b t cs cap) (hN : N ≤ cap) : MetW [] l yECI jdk_68_method_9_code 3 none (Rm 0 0 0 0) #[.ref b, .int (Int32.ofNat N)] Z a0 EL nw [] h (fun v h' => v = none ∧ h' = h) := by
  obtain ⟨E, Fv, Fc, Fn, kb, vs, hc, A, hvs, htk, hle, h4⟩ := B
  refine MetW.of (by first | exact plainFor_of_name (by first | (simp [plainName, overriddenIn]; done) | decide +kernel) | decide +kernel) fun X hX => Go.old fun EZ => ?_
  show Go X _ _ _ _ _ _ _ _ _ _ _ _ _ _ _ _ (mkF X.m 0 #[.val (.ref b), .val (.int (Int32.ofNat N)), .unset] [])
  refine g_aloadN (pc' := 1) dj68_9_0 rfl rfl rfl ?_
  refine g_getfield (pc' := 4) dj68_9_1 rfl (wf_AbstractStringBuilder_15 hw) (Fv) ?_
  refine g_arraylength (pc' := 5) dj68_9_4 rfl (A) ?_
  refine g_aloadN (pc' := 6) dj68_9_5 rfl rfl rfl ?_
  refine g_getfield (pc' := 9) dj68_9_6 rfl (wf_AbstractStringBuilder_22 hw) (Fc) ?_
  refine g_ishr (pc' := 10) dj68_9_9 rfl ?_
  rw [shr0]
  refine g_istoreN (pc' := 11) (Ls' := #[_, _, _]) dj68_9_10 rfl rfl ?_
  refine g_iloadN (pc' := 12) dj68_9_11 rfl rfl ?_
  refine g_iloadN (pc' := 13) dj68_9_12 rfl rfl ?_
  refine g_isub (pc' := 14) dj68_9_13 rfl ?_
  refine g_ifle (pc' := 17) (pc2 := 38) dj68_9_14 rfl (by decide) rfl (fun c14 => False.elim (sub_le hN (by omega) c14)) (fun c14 => ?_)
  refine g_return dj68_9_38 rfl rfl rfl (⟨rfl, rfl⟩)
theorem asb_ni (hw : ∀ d ∈ tables_1, d.before a0 Z = true) : NI Z ASB := NI.sel (wv_StringBuilder_AbstractStringBuilder_ensureCapacityInternal_lIrV hw)
theorem nf_ni {y : MethodName} (q : NI Z y.cls) : NF Z y := fun s hZ r0 h0 => by
  obtain ⟨c, k, q1, q2, q3⟩ := q
  have e := findClass_of_methodNamed h0
  rw [hZ.alike.findClass] at e
  cases q1.symm.trans e
  obtain ⟨k', z2, z3⟩ := hZ.alike.2.2 _ _ q2
  exact ⟨k', z2, by rw [← q3, z3]; rfl⟩
theorem str_keepW {b x : Addr} {h' : Heap} {C : String} {nI : Nat} {ds : List Int32} (T : Str Z h x ds) (E : Exa Z h b C) (w : (Jvm.Cond.instantiable C nI).before a0 Z = true) (hC : C ≠ "java/lang/String") (K : Keep h h' [b]) : Str Z h' x ds := by
  obtain ⟨E1, t, kb, cd, N2, vs, V, D, A, r⟩ := T
  have q1 : x ∉ [b] := fun q => by cases List.mem_singleton.mp q; exact E.ne E1 hC rfl
  have q2 : t ∉ [b] := fun q => by cases List.mem_singleton.mp q; exact E.neArv A w rfl
  exact ⟨E1.keep K, t, kb, cd, N2, vs, V.keep K q1, D.keep K q1, A.keep K q2, r⟩
abbrev yGV : MethodName := ⟨"java/lang/AbstractStringBuilder", "getValue", "()[B"⟩
abbrev yAL : MethodName := ⟨"java/lang/AbstractStringBuilder", "length", "()I"⟩
abbrev ySL : MethodName := ⟨"java/lang/StringBuilder", "length", "()I"⟩
abbrev yAI : MethodName := ⟨"java/lang/AbstractStringBuilder", "isLatin1", "()Z"⟩
abbrev yCR : MethodName := ⟨"java/util/Arrays", "copyOfRange", "([BII)[B"⟩
abbrev yIA : MethodName := ⟨"java/lang/String", "<init>", "(Ljava/lang/AbstractStringBuilder;Ljava/lang/Void;)V"⟩
abbrev yIS : MethodName := ⟨"java/lang/String", "<init>", "(Ljava/lang/StringBuilder;)V"⟩
abbrev yTS : MethodName := ⟨"java/lang/StringBuilder", "toString", "()Ljava/lang/String;"⟩
theorem met_GV (hw : ∀ d ∈ tables_1, d.before a0 Z = true) {b t : Addr} (Fv : Fld Z h b ASB "value" "[B" (.ref t)) : MetW [] l yGV jdk_68_method_64_code 1 (some (.array .byte)) (Rm 0 0 0 0) #[.ref b] Z a0 EL nw [] h (fun v h' => v = some (.ref t) ∧ h' = h) := by
  refine MetW.of (by first | exact plainFor_of_name (by first | (simp [plainName, overriddenIn]; done) | decide +kernel) | decide +kernel) fun X hX => Go.old fun EZ => ?_
  show Go X _ _ _ _ _ _ _ _ _ _ _ _ _ _ _ _ (mkF X.m 0 #[.val (.ref b)] [])
  refine g_aloadN (pc' := 1) dj68_64_0 rfl rfl rfl ?_
  refine g_getfield (pc' := 4) dj68_64_1 rfl (wf_AbstractStringBuilder_15 hw) (Fv) ?_
  refine g_areturn dj68_64_4 rfl rfl rfl rfl rfl rfl (⟨rfl, rfl⟩)
theorem met_AL (hw : ∀ d ∈ tables_1, d.before a0 Z = true) {b : Addr} {n : Int32} (Fn : Fld Z h b ASB "count" "I" (.int n)) : MetW [] l yAL jdk_68_method_6_code 1 (some .int) (Rm 0 0 0 0) #[.ref b] Z a0 EL nw [] h (fun v h' => v = some (.int n) ∧ h' = h) := by
  refine MetW.of (by first | exact plainFor_of_name (by first | (simp [plainName, overriddenIn]; done) | decide +kernel) | decide +kernel) fun X hX => Go.old fun EZ => ?_
  show Go X _ _ _ _ _ _ _ _ _ _ _ _ _ _ _ _ (mkF X.m 0 #[.val (.ref b)] [])
  refine g_aloadN (pc' := 1) dj68_6_0 rfl rfl rfl ?_
  refine g_getfield (pc' := 4) dj68_6_1 rfl (wf_AbstractStringBuilder_79 hw) (Fn) ?_
  refine g_ireturn (t := .int) dj68_6_4 rfl (by simp) rfl rfl rfl (⟨rfl, rfl⟩)
theorem met_SL (hw : ∀ d ∈ tables_1, d.before a0 Z = true) {b : Addr} {n : Int32} (E : Exa Z h b SBN) (Fn : Fld Z h b ASB "count" "I" (.int n)) : MetW [] l ySL jdk_67_method_93_code 1 (some .int) (Rm 1 0 0 20) #[.ref b] Z a0 EL nw [] h (fun v h' => v = some (.int n) ∧ h' = h) := by
  refine MetW.of (by first | exact plainFor_of_name (by first | (simp [plainName, overriddenIn]; done) | decide +kernel) | decide +kernel) fun X hX => Go.old fun EZ => ?_
  show Go X _ _ _ _ _ _ _ _ _ _ _ _ _ _ _ _ (mkF X.m 0 #[.val (.ref b)] [])
  refine g_aloadN (pc' := 1) dj67_93_0 rfl rfl rfl ?_
  refine g_super (pc' := 4) [] [] dj67_93_1 rfl (by decide) (wl_StringBuilder_343 hw) (wm_AbstractStringBuilder_length_lrI hw) (wz_StringBuilder_AbstractStringBuilder hw) (asb_ni hw) (Ins.self E) (wb_AbstractStringBuilder_length_lrI hw) (by decide) (Pay.of_met (met_AL hw Fn) (wb_AbstractStringBuilder_length_lrI hw) (wi_AbstractStringBuilder hw) rfl rfl) pd_lrI rfl rfl rfl rfl rfl (fun _ q => nomatch q) fun v1 h1 q1 l1 => ?_
  obtain ⟨rfl, rfl⟩ := q1
  refine g_ireturn (t := .int) dj67_93_4 rfl (by simp) rfl rfl rfl (⟨rfl, rfl⟩)
theorem met_AI (hw : ∀ d ∈ tables_1, d.before a0 Z = true) (S : Sta Z Z.heap "java/lang/String" "COMPACT_STRINGS" "Z" (.int z)) (hz : ¬ z = 0) {b : Addr} {cd : Int32} (Fc : Fld Z h b ASB "coder" "B" (.int cd)) : MetW [] l yAI jdk_68_method_68_code 1 (some .boolean) (Rm 0 0 0 0) #[.ref b] Z a0 EL nw [] h (fun v h' => v = some (.int (if cd = 0 then 1 else 0)) ∧ h' = h) := by
  refine MetW.of (by first | exact plainFor_of_name (by first | (simp [plainName, overriddenIn]; done) | decide +kernel) | decide +kernel) fun X hX => Go.old fun EZ => ?_
  show Go X _ _ _ _ _ _ _ _ _ _ _ _ _ _ _ _ (mkF X.m 0 #[.val (.ref b)] [])
  refine g_getstatic (pc' := 3) dj68_68_0 rfl (wf_AbstractStringBuilder_18 hw) (S) ?_
  refine g_ifeq (pc' := 6) (pc2 := 17) dj68_68_3 rfl (by decide) rfl (fun c3 => ?_) (fun c3 => False.elim (hz c3))
  refine g_aloadN (pc' := 7) dj68_68_6 rfl rfl rfl ?_
  refine g_getfield (pc' := 10) dj68_68_7 rfl (wf_AbstractStringBuilder_22 hw) (Fc) ?_
  refine g_ifne (pc' := 13) (pc2 := 17) dj68_68_10 rfl (by decide) rfl (fun c10 => ?_) (fun c10 => ?_)
  · refine g_iconst (pc' := 14) (w := 1) dj68_68_13 rfl (by decide) ?_
    refine g_goto (pc' := 18) dj68_68_14 (by decide) rfl ?_
    refine g_ireturn (t := .boolean) dj68_68_18 rfl (by simp) rfl rfl rfl (⟨by rw [if_pos (by simpa using c10)], rfl⟩)
  · refine g_iconst (pc' := 18) (w := 0) dj68_68_17 rfl (by decide) ?_
    refine g_ireturn (t := .boolean) dj68_68_18 rfl (by simp) rfl rfl rfl (⟨by rw [if_neg (by simpa using c10)], rfl⟩)
end SBs
/-! StringBuilder that grows: newCapacity, copyOf, append(String) -/
section SBg
variable {l : Launch} {R : Room} {Z : State} {a0 : Array Value} {EL : List (String × Nat)} {nw : Bool} {h : Heap} {W : Nat} {z : Int32}
theorem met_NL (hw : ∀ d ∈ tables_1, d.before a0 Z = true) {c g p : Nat} (hc : c < 20000) (hg : 0 < g) (hg' : g < 20000) (hp : p < 20000) : MetW [] l yNL jdk_48_method_27_code 4 (some .int) (Rm 1 0 0 20) #[.int (Int32.ofNat c), .int (Int32.ofNat g), .int (Int32.ofNat p)] Z a0 EL nw [] h (fun v h' => v = some (.int (Int32.ofNat (c + max g p))) ∧ h' = h) := by
  have hm : max g p < 20000 := Nat.max_lt.mpr ⟨hg', hp⟩
  have hm' : g ≤ max g p := Nat.le_max_left ..
  refine MetW.of (by first | exact plainFor_of_name (by first | (simp [plainName, overriddenIn]; done) | decide +kernel) | decide +kernel) fun X hX => Go.old fun EZ => ?_
  show Go X _ _ _ _ _ _ _ _ _ _ _ _ _ _ _ _ (mkF X.m 0 #[.val (.int (Int32.ofNat c)), .val (.int (Int32.ofNat g)), .val (.int (Int32.ofNat p)), .unset] [])
  refine g_iloadN (pc' := 1) dj48_27_0 rfl rfl ?_
  refine g_iloadN (pc' := 2) dj48_27_1 rfl rfl ?_
  refine g_iloadN (pc' := 3) dj48_27_2 rfl rfl ?_
  refine g_invokestatic (pc' := 6) [] [_, _] dj48_27_3 rfl (wl_ArraysSupport_194 hw) (ws_Math_max_lIIrI hw) (wi_Math hw) (wb_Math_max_lIIrI hw) (by decide) (Pay.of_met (met_max hw (by omega) (by omega)) (wb_Math_max_lIIrI hw) (wi_Math hw) rfl rfl) pd_lIIrI rfl rfl rfl rfl rfl (fun _ q => nomatch q) fun v3 h3 q3 l3 => ?_
  obtain ⟨rfl, rfl⟩ := q3
  refine g_iadd (pc' := 7) dj48_27_6 rfl ?_
  rw [ofNat_add2]
  refine g_istoreN (pc' := 8) (Ls' := #[_, _, _, _]) dj48_27_7 rfl rfl ?_
  refine g_iconst (pc' := 9) (w := 0) dj48_27_8 rfl (by decide) ?_
  refine g_iloadN (pc' := 10) dj48_27_9 rfl rfl ?_
  refine g_icmpge (pc' := 13) (pc2 := 21) dj48_27_10 rfl (by decide) rfl (fun c10 => ?_) (fun c10 => False.elim (c10 ((ofNat_lt (a := 0) (by omega) (by omega)).mpr (by omega))))
  refine g_iloadN (pc' := 14) dj48_27_13 rfl rfl ?_
  refine g_ldcI (pc' := 16) dj48_27_14 rfl (wk_ArraysSupport_200 hw) ?_
  refine g_icmpgt (pc' := 19) (pc2 := 21) dj48_27_16 rfl (by decide) rfl (fun c16 => ?_) (fun c16 => False.elim (absurd ((ofNat_lt (a := 2147483639) (by omega) (by omega)).mp c16) (by omega)))
  refine g_iloadN (pc' := 20) dj48_27_19 rfl rfl ?_
  refine g_ireturn (t := .int) dj48_27_20 rfl (by simp) rfl rfl rfl (⟨rfl, rfl⟩)
theorem met_NC (hw : ∀ d ∈ tables_1, d.before a0 Z = true) {b t : Addr} {kb : ClassId} {vs : List Value} {cap N : Nat} (Fv : Fld Z h b ASB "value" "[B" (.ref t)) (Fc : Fld Z h b ASB "coder" "B" (.int 0)) (A : Arv Z h t kb .byte (Int32.ofNat cap) vs (.int 0)) (hcap : cap ≤ 4000) (hN : cap < N) (hN' : N ≤ 9000) : MetW [] l yNC jdk_68_method_10_code 6 (some .int) (Rm 2 0 0 40) #[.ref b, .int (Int32.ofNat N)] Z a0 EL nw [] h (fun v h' => v = some (.int (Int32.ofNat (max N (2 * cap + 2)))) ∧ h' = h) := by
  have hm : cap + max (N - cap) (cap + 2) = max N (2 * cap + 2) := by omega
  have hm' : max N (2 * cap + 2) ≤ 9000 := Nat.max_le.mpr ⟨hN', by omega⟩
  refine MetW.of (by first | exact plainFor_of_name (by first | (simp [plainName, overriddenIn]; done) | decide +kernel) | decide +kernel) fun X hX => Go.old fun EZ => ?_
  show Go X _ _ _ _ _ _ _ _ _ _ _ _ _ _ _ _ (mkF X.m 0 #[.val (.ref b), .val (.int (Int32.ofNat N)), .unset, .unset, .unset, .unset] [])
  refine g_aloadN (pc' := 1) dj68_10_0 rfl rfl rfl ?_
  refine g_getfield (pc' := 4) dj68_10_1 rfl (wf_AbstractStringBuilder_15 hw) (Fv) ?_
  refine g_arraylength (pc' := 5) dj68_10_4 rfl (A) ?_
  refine g_istoreN (pc' := 6) (Ls' := #[_, _, _, _, _, _]) dj68_10_5 rfl rfl ?_
  refine g_iloadN (pc' := 7) dj68_10_6 rfl rfl ?_
  refine g_aloadN (pc' := 8) dj68_10_7 rfl rfl rfl ?_
  refine g_getfield (pc' := 11) dj68_10_8 rfl (wf_AbstractStringBuilder_22 hw) (Fc) ?_
  refine g_ishl (pc' := 12) dj68_10_11 rfl ?_
  rw [shl0]
  refine g_istoreN (pc' := 13) (Ls' := #[_, _, _, _, _, _]) dj68_10_12 rfl rfl ?_
  refine g_iloadN (pc' := 14) dj68_10_13 rfl rfl ?_
  refine g_iloadN (pc' := 15) dj68_10_14 rfl rfl ?_
  refine g_isub (pc' := 16) dj68_10_15 rfl ?_
  rw [ofNat_sub (by omega)]
  refine g_istore (pc' := 18) (Ls' := #[_, _, _, _, _, _]) dj68_10_16 rfl rfl ?_
  refine g_iloadN (pc' := 19) dj68_10_18 rfl rfl ?_
  refine g_iload (pc' := 21) dj68_10_19 rfl rfl ?_
  refine g_iloadN (pc' := 22) dj68_10_21 rfl rfl ?_
  refine g_iconst (pc' := 23) (w := 2) dj68_10_22 rfl (by decide) ?_
  refine g_aloadN (pc' := 24) dj68_10_23 rfl rfl rfl ?_
  refine g_getfield (pc' := 27) dj68_10_24 rfl (wf_AbstractStringBuilder_22 hw) (Fc) ?_
  refine g_ishl (pc' := 28) dj68_10_27 rfl ?_
  rw [shl0]
  refine g_iadd (pc' := 29) dj68_10_28 rfl ?_
  rw [show Int32.ofNat cap + 2 = Int32.ofNat (cap + 2) from ofNat_add2 cap 2]
  refine g_invokestatic (pc' := 32) [] [_, _, _] dj68_10_29 rfl (wl_AbstractStringBuilder_114 hw) (ws_ArraysSupport_newLength_lIIIrI hw) (wi_ArraysSupport hw) (wb_ArraysSupport_newLength_lIIIrI hw) (by decide) (Pay.of_met (met_NL hw (by omega) (by omega) (by omega) (by omega)) (wb_ArraysSupport_newLength_lIIIrI hw) (wi_ArraysSupport hw) rfl rfl) pd_lIIIrI rfl rfl rfl rfl rfl (fun _ q => nomatch q) fun v29 h29 q29 l29 => ?_
  obtain ⟨rfl, rfl⟩ := q29
  rw [hm]
  refine g_istore (pc' := 34) (Ls' := #[_, _, _, _, _, _]) dj68_10_32 rfl rfl ?_
  refine g_iload (pc' := 36) dj68_10_34 rfl rfl ?_
  refine g_ldcI (pc' := 38) dj68_10_36 rfl (wk_AbstractStringBuilder_39 hw) ?_
  refine g_icmpne (pc' := 41) (pc2 := 51) dj68_10_38 rfl (by decide) rfl (fun c38 => False.elim (absurd ((ofNat_inj (b := 2147483647) (by omega) (by omega)).mp c38) (by omega))) (fun c38 => ?_)
  refine g_iload (pc' := 53) dj68_10_51 rfl rfl ?_
  refine g_aloadN (pc' := 54) dj68_10_53 rfl rfl rfl ?_
  refine g_getfield (pc' := 57) dj68_10_54 rfl (wf_AbstractStringBuilder_22 hw) (Fc) ?_
  refine g_ishr (pc' := 58) dj68_10_57 rfl ?_
  rw [shr0]
  refine g_ireturn (t := .int) dj68_10_58 rfl (by simp) rfl rfl rfl (⟨rfl, rfl⟩)
theorem met_CO (hw : ∀ d ∈ tables_1, d.before a0 Z = true) (EZ : Ext Z.heap h) {t : Addr} {kb : ClassId} {vs : List Value} {cap N : Nat} (A : Arv Z h t kb .byte (Int32.ofNat cap) vs (.int 0)) (hvs : vs.length = cap) (hcap : cap ≤ 4000) (hN : cap < N) (hN' : N ≤ 9000) (hW : N ≤ W) : MetW [] l yCO jdk_65_method_121_code 3 (some (.array .byte)) (Rm 1 1 W 60) #[.ref t, .int (Int32.ofNat N)] Z a0 EL nw [] h (fun v h' => ∃ t' kb', v = some (.ref t') ∧ h.size ≤ t' ∧ t' < h'.size ∧ Ext h h' ∧ Z.vm.findClass "[B" = some kb' ∧ Arv Z h' t' kb' .byte (Int32.ofNat N) (vs ++ List.replicate (N - cap) (.int 0)) (.int 0)) := by
  refine MetW.of (by first | exact plainFor_of_name (by first | (simp [plainName, overriddenIn]; done) | decide +kernel) | decide +kernel) fun X hX => Go.old fun EZ => ?_
  show Go X _ _ _ _ _ _ _ _ _ _ _ _ _ _ _ _ (mkF X.m 0 #[.val (.ref t), .val (.int (Int32.ofNat N)), .unset] [])
  refine g_iloadN (pc' := 1) dj65_121_0 rfl rfl ?_
  refine g_aloadN (pc' := 2) dj65_121_1 rfl rfl rfl ?_
  refine g_arraylength (pc' := 3) dj65_121_2 rfl (A) ?_
  refine g_icmpne (pc' := 6) (pc2 := 14) dj65_121_3 rfl (by decide) rfl (fun c3 => False.elim (absurd ((ofNat_inj (by omega) (by omega)).mp c3) (by omega))) (fun c3 => ?_)
  refine g_iloadN (pc' := 15) dj65_121_14 rfl rfl ?_
  refine g_newarrayX (pc' := 17) (cap := N) dj65_121_15 rfl (wa_byte hw) (ofNat_nn (by omega)) (ofNat_clamp (by omega)) (bl (by omega)) rfl (bl (by show 0 + N ≤ W; omega)) fun h15 a15 k15 e15 E15 c15 A15 => ?_
  refine g_astoreN (pc' := 18) (Ls' := #[_, _, _]) dj65_121_17 rfl rfl rfl ?_
  refine g_aloadN (pc' := 19) dj65_121_18 rfl rfl rfl ?_
  refine g_iconst (pc' := 20) (w := 0) dj65_121_19 rfl (by decide) ?_
  refine g_aloadN (pc' := 21) dj65_121_20 rfl rfl rfl ?_
  refine g_iconst (pc' := 22) (w := 0) dj65_121_21 rfl (by decide) ?_
  refine g_aloadN (pc' := 23) dj65_121_22 rfl rfl rfl ?_
  refine g_arraylength (pc' := 24) dj65_121_23 rfl ((A.ext E15)) ?_
  refine g_iloadN (pc' := 25) dj65_121_24 rfl rfl ?_
  refine g_invokestatic (pc' := 28) [] [_, _] dj65_121_25 rfl (wl_Arrays_304 hw) (ws_Math_min_lIIrI hw) (wi_Math hw) (wb_Math_min_lIIrI hw) (by decide) (Pay.of_met (met_min hw (by omega) (by omega)) (wb_Math_min_lIIrI hw) (wi_Math hw) rfl rfl) pd_lIIrI rfl rfl rfl rfl (bl (by show 0 + N + 0 ≤ W; omega)) (fun _ q => nomatch q) fun v25 h25 q25 l25 => ?_
  obtain ⟨rfl, rfl⟩ := q25
  rw [Nat.min_eq_left (by omega)]
  refine g_arraycopy (pc' := 31) dj65_121_28 rfl (wl_Arrays_150 hw) (wn_System_arraycopy_lLjavalangObjectILjavalangObjectIIrV hw) (ws_System_arraycopy_lLjavalangObjectILjavalangObjectIIrV hw) (wi_System hw) (A.ext E15) A15 (by decide) (by decide) (ofNat_nn (by omega)) (by rw [ofNat_clamp (by omega)]; show 0 + cap ≤ _; omega) (by rw [ofNat_clamp (by omega), ofNat_clamp (by omega)]; show 0 + cap ≤ _; omega) rfl (by rw [ofNat_clamp (by omega)]; show 0 + cap ≤ _; rw [List.length_replicate]; omega) (by rw [e15]; exact EZ.1) (List.mem_cons_self ..) rfl rfl rfl fun h28 K28 A28 => ?_
  have e0 : (0 : Int32).toNatClampNeg = 0 := rfl
  rw [e0, ofNat_clamp (a := cap) (by omega), us_all hvs] at A28
  simp only [List.take_zero, List.nil_append, Nat.zero_add, List.drop_replicate] at A28
  refine g_aloadN (pc' := 32) dj65_121_31 rfl rfl rfl ?_
  refine g_areturn dj65_121_32 rfl rfl rfl rfl rfl (bl (by show 0 + N + 0 ≤ W; omega)) ⟨a15, k15, rfl, Nat.le_of_eq e15.symm, A28.lt, ext_keep E15 K28 (allS (Nat.le_of_eq e15.symm) all0), c15, A28⟩
theorem met_ECI (hw : ∀ d ∈ tables_1, d.before a0 Z = true) (EZ : Ext Z.heap h) {b t : Addr} {cs : List Int32} {cap N : Nat} (hb : Z.heap.size ≤ b) (B : SBd Z h b t cs cap) (hcN : capOf N cap ≤ 4000) (hW : capOf N cap ≤ W) : MetW [] l yECI jdk_68_method_9_code 3 none (Rm 3 1 W 80) #[.ref b, .int (Int32.ofNat N)] Z a0 EL true [b] h (fun v h' => v = none ∧ Keep h h' [b] ∧ ∃ t', (t' = t ∨ h.size ≤ t') ∧ t' < h'.size ∧ SBd Z h' b t' cs (capOf N cap)) := by
  obtain ⟨E, Fv, Fc, Fn, kb, vs, hc, A, hvs, htk, hle, h4⟩ := B
  have hbt : b ≠ t := E.neArv A (wn_StringBuilder hw)
  have hN9 : N ≤ 4000 := by unfold capOf at hcN; split at hcN <;> omega
  refine MetW.of (by first | exact plainFor_of_name (by first | (simp [plainName, overriddenIn]; done) | decide +kernel) | decide +kernel) fun X hX => Go.old fun EZ => ?_
  show Go X _ _ _ _ _ _ _ _ _ _ _ _ _ _ _ _ (mkF X.m 0 #[.val (.ref b), .val (.int (Int32.ofNat N)), .unset] [])
  refine g_aloadN (pc' := 1) dj68_9_0 rfl rfl rfl ?_
  refine g_getfield (pc' := 4) dj68_9_1 rfl (wf_AbstractStringBuilder_15 hw) (Fv) ?_
  refine g_arraylength (pc' := 5) dj68_9_4 rfl (A) ?_
  refine g_aloadN (pc' := 6) dj68_9_5 rfl rfl rfl ?_
  refine g_getfield (pc' := 9) dj68_9_6 rfl (wf_AbstractStringBuilder_22 hw) (Fc) ?_
  refine g_ishr (pc' := 10) dj68_9_9 rfl ?_
  rw [shr0]
  refine g_istoreN (pc' := 11) (Ls' := #[_, _, _]) dj68_9_10 rfl rfl ?_
  refine g_iloadN (pc' := 12) dj68_9_11 rfl rfl ?_
  refine g_iloadN (pc' := 13) dj68_9_12 rfl rfl ?_
  refine g_isub (pc' := 14) dj68_9_13 rfl ?_
  by_cases hN : N ≤ cap
  · have e1 : capOf N cap = cap := if_pos hN
    refine g_ifle (pc' := 17) (pc2 := 38) dj68_9_14 rfl (by decide) rfl (fun c14 => False.elim (sub_le hN (by omega) c14)) (fun c14 => ?_)
    refine g_return dj68_9_38 rfl rfl (bl (Nat.zero_le _)) ⟨rfl, Keep.refl _ _, t, Or.inl rfl, A.lt, ?_⟩
    rw [e1]
    exact ⟨E, Fv, Fc, Fn, kb, vs, hc, A, hvs, htk, hle, h4⟩
  · have e1 : capOf N cap = max N (2 * cap + 2) := if_neg hN
    rw [e1] at hW hcN ⊢
    have hmN : N ≤ max N (2 * cap + 2) := Nat.le_max_left ..
    refine g_ifle (pc' := 17) (pc2 := 38) dj68_9_14 rfl (by decide) rfl (fun c14 => ?_) (fun c14 => False.elim (c14 (sub_gt (by omega) (by omega))))
    refine g_aloadN (pc' := 18) dj68_9_17 rfl rfl rfl ?_
    refine g_aloadN (pc' := 19) dj68_9_18 rfl rfl rfl ?_
    refine g_getfield (pc' := 22) dj68_9_19 rfl (wf_AbstractStringBuilder_15 hw) (Fv) ?_
    refine g_aloadN (pc' := 23) dj68_9_22 rfl rfl rfl ?_
    refine g_iloadN (pc' := 24) dj68_9_23 rfl rfl ?_
    refine g_private (pc' := 27) [] [_] dj68_9_24 rfl (wl_AbstractStringBuilder_104 hw) (wq_AbstractStringBuilder_newCapacity_lIrI hw) (wv_StringBuilder_AbstractStringBuilder_newCapacity_lIrI hw) (wm_AbstractStringBuilder_newCapacity_lIrI hw) (by decide) (wb_AbstractStringBuilder_newCapacity_lIrI hw) (E) (Pay.of_met (met_NC hw Fv Fc A h4 (by omega) (by omega)) (wb_AbstractStringBuilder_newCapacity_lIrI hw) (wi_AbstractStringBuilder hw) rfl rfl) pd_lIrI rfl rfl rfl rfl (bl (Nat.zero_le _)) (fun _ q => nomatch q) fun v24 h24 q24 l24 => ?_
    obtain ⟨rfl, e24⟩ := q24
    have e24 := e24.symm
    subst e24
    refine g_aloadN (pc' := 28) dj68_9_27 rfl rfl rfl ?_
    refine g_getfield (pc' := 31) dj68_9_28 rfl (wf_AbstractStringBuilder_22 hw) (Fc) ?_
    refine g_ishl (pc' := 32) dj68_9_31 rfl ?_
    rw [shl0]
    refine g_staticB [] (pc' := 35) [] [_, _] dj68_9_32 rfl (wl_AbstractStringBuilder_108 hw) (ws_Arrays_copyOf_lABIrAB hw) (wi_Arrays hw) (wb_Arrays_copyOf_lABIrAB hw) (by decide) (Pay.of_met (met_CO (W := W) hw EZ A hvs h4 (by omega) (by omega) hW) (wb_Arrays_copyOf_lABIrAB hw) (wi_Arrays hw) rfl rfl) (fun _ _ q => by obtain ⟨_, _, -, -, -, q, -⟩ := q; exact keep_ext q) (fun _ q => nomatch q) pd_lABIrAB rfl rfl rfl rfl (bl (by show 0 + 0 + W ≤ W; omega)) (fun _ q => nomatch q) fun v32 h32 q32 l32 => ?_
    obtain ⟨t', kb', rfl, t1, t2, E32, c32, A32⟩ := q32
    refine ⟨[t'], fun x hx => by cases List.mem_singleton.mp hx; exact ⟨t1, t2⟩, ?_⟩
    refine g_putfield (pc' := 38) dj68_9_35 rfl (wf_AbstractStringBuilder_15 hw) (Fv.ext E32) (E.ext E32) (Or.inl (wy_StringBuilder_AbstractStringBuilder_value hw)) (wn_StringBuilder hw) (ty := (.array .byte)) (by decide) rfl rfl (hb) (by simp) fun h35 W35 => ?_
    have hbt' : t' ≠ b := Nat.ne_of_gt (Nat.lt_of_lt_of_le E.lt t1)
    refine g_return dj68_9_38 rfl rfl (bl (by show 0 + 0 + W ≤ W; omega)) ⟨rfl, ((Keep.refl h [b]).ext E32).wr W35 (Or.inl (List.mem_cons_self ..)), t', Or.inr t1, (A32.other W35 hbt').lt, (E.ext E32).wr W35, (Fv.ext E32).same W35, (Fc.ext E32).other W35 (Or.inr (sb_ne1 hw)), (Fn.ext E32).other W35 (Or.inr (sb_ne2 hw)), kb', _, c32, A32.other W35 hbt', by rw [List.length_append, List.length_replicate, hvs]; omega, ?_, by omega, hcN⟩
    rw [List.take_append_of_le_length (by omega)]
    exact htk
theorem met_ApS (hw : ∀ d ∈ tables_1, d.before a0 Z = true) (S : Sta Z Z.heap "java/lang/String" "COMPACT_STRINGS" "Z" (.int z)) (hz : ¬ z = 0) (EZ : Ext Z.heap h) {b t x : Addr} {cs ds : List Int32} {cap : Nat} (hb : Z.heap.size ≤ b) (ht : Z.heap.size ≤ t) (B : SBd Z h b t cs cap) (T : Str Z h x ds) (hds : ∀ c ∈ ds, ¬ (255 : Int32) < c) (hcN : capOf (cs.length + ds.length) cap ≤ 4000) (hW : capOf (cs.length + ds.length) cap ≤ W) : MetW [] l yApS jdk_68_method_22_code 3 (some (.object ASB)) (Rm 4 1 W 100) #[.ref b, .ref x] Z a0 EL true [b, t] h (fun v h' => v = some (.ref b) ∧ Keep h h' [b, t] ∧ ∃ t', (t' = t ∨ h.size ≤ t') ∧ t' < h'.size ∧ SBd Z h' b t' (cs ++ ds) (capOf (cs.length + ds.length) cap)) := by
  obtain ⟨E, Fv, Fc, Fn, kb, vs, hc, A, hvs, htk, hle, h4⟩ := id B
  have hNc : cs.length + ds.length ≤ capOf (cs.length + ds.length) cap := by unfold capOf; split <;> omega
  refine MetW.of (by first | exact plainFor_of_name (by first | (simp [plainName, overriddenIn]; done) | decide +kernel) | decide +kernel) fun X hX => Go.old fun EZ => ?_
  show Go X _ _ _ _ _ _ _ _ _ _ _ _ _ _ _ _ (mkF X.m 0 #[.val (.ref b), .val (.ref x), .unset] [])
  refine g_aloadN (pc' := 1) dj68_22_0 rfl rfl rfl ?_
  refine g_ifnonnullY (pc2 := 9) dj68_22_1 (by decide) rfl ?_
  refine g_aloadN (pc' := 10) dj68_22_9 rfl rfl rfl ?_
  refine g_invokevirtualN (pc' := 13) [] [] dj68_22_10 rfl (wl_AbstractStringBuilder_32 hw) (wd_String_length_lrI hw) (wv_String_String_length_lrI hw) (wm_String_length_lrI hw) (by decide) (NF.sel (wv_String_String_length_lrI hw)) (T.exa) (pay_len (own_len hw) (wn_String hw) S hz EZ T rfl rfl) pd_lrI rfl rfl rfl rfl (bl (Nat.zero_le _)) (fun _ q => nomatch q) fun v10 h10 q10 l10 => ?_
  obtain ⟨rfl, e10⟩ := q10
  have e10 := e10.symm
  subst e10
  refine g_istoreN (pc' := 14) (Ls' := #[_, _, _]) dj68_22_13 rfl rfl ?_
  refine g_aloadN (pc' := 15) dj68_22_14 rfl rfl rfl ?_
  refine g_aloadN (pc' := 16) dj68_22_15 rfl rfl rfl ?_
  refine g_getfield (pc' := 19) dj68_22_16 rfl (wf_AbstractStringBuilder_79 hw) (Fn) ?_
  refine g_iloadN (pc' := 20) dj68_22_19 rfl rfl ?_
  refine g_iadd (pc' := 21) dj68_22_20 rfl ?_
  rw [ofNat_add2]
  refine g_privateB [b] (pc' := 24) [b] [_] dj68_22_21 rfl (wl_AbstractStringBuilder_100 hw) (wq_AbstractStringBuilder_ensureCapacityInternal_lIrV hw) (wv_StringBuilder_AbstractStringBuilder_ensureCapacityInternal_lIrV hw) (wm_AbstractStringBuilder_ensureCapacityInternal_lIrV hw) (by decide) (wb_AbstractStringBuilder_ensureCapacityInternal_lIrV hw) (E) (Pay.of_met (met_ECI (W := W) hw EZ hb B hcN hW) (wb_AbstractStringBuilder_ensureCapacityInternal_lIrV hw) (wi_AbstractStringBuilder hw) rfl rfl) (fun _ _ q => q.2.1) (fun _ q => by simp at q ⊢; exact Or.inl q) pd_lIrV rfl rfl rfl rfl (bl (by show 0 + 0 + W ≤ W; omega)) (fun _ q => by simp at q ⊢; exact Or.inl q) fun v21 h21 q21 l21 => ?_
  obtain ⟨rfl, K21, t', ht1, ht2, B21⟩ := q21
  have ht0 : Z.heap.size ≤ t' := ht1.elim (fun q => q ▸ ht) fun q => Nat.le_trans EZ.1 q
  have T21 : Str Z h21 x ds := str_keepW T E (wn_StringBuilder hw) (by decide) K21
  obtain ⟨E', Fv', Fc', Fn', kb', vs', hc', A', hvs', htk', hle', h4'⟩ := id B21
  have hbt' : b ≠ t' := E'.neArv A' (wn_StringBuilder hw)
  refine ⟨if t' = t then [] else [t'], fun x hx => by split at hx <;> simp at hx; subst hx; exact ⟨ht1.resolve_left ‹_›, ht2⟩, ?_⟩
  have hm : t' ∈ (if t' = t then [] else [t']) ++ [b, t] := by split <;> simp [*]
  refine g_aloadN (pc' := 25) dj68_22_24 rfl rfl rfl ?_
  refine g_aloadN (pc' := 26) dj68_22_25 rfl rfl rfl ?_
  refine g_getfield (pc' := 29) dj68_22_26 rfl (wf_AbstractStringBuilder_79 hw) (Fn') ?_
  refine g_aloadN (pc' := 30) dj68_22_29 rfl rfl rfl ?_
  refine g_private (pc' := 33) [t'] [_, _] dj68_22_30 rfl (wl_AbstractStringBuilder_208 hw) (wq_AbstractStringBuilder_putStringAt_lILjavalangStringrV hw) (wv_StringBuilder_AbstractStringBuilder_putStringAt_lILjavalangStringrV hw) (wm_AbstractStringBuilder_putStringAt_lILjavalangStringrV hw) (by decide) (wb_AbstractStringBuilder_putStringAt_lILjavalangStringrV hw) (E') (Pay.of_met (met_PSA hw S hz E' Fv' Fc' T21 hds ht0 A' h4' hvs' (by omega)) (wb_AbstractStringBuilder_putStringAt_lILjavalangStringrV hw) (wi_AbstractStringBuilder hw) rfl rfl) pd_lILjavalangStringrV rfl rfl rfl rfl (bl (by show 0 + 0 + W + 0 ≤ W; omega)) (fun _ q => by cases List.mem_singleton.mp q; exact hm) fun v30 h30 q30 l30 => ?_
  obtain ⟨rfl, K30, A30⟩ := q30
  have nb : b ∉ [t'] := fun q => by cases List.mem_singleton.mp q; exact hbt' rfl
  refine g_aloadN (pc' := 34) dj68_22_33 rfl rfl rfl ?_
  refine g_dup (pc' := 35) dj68_22_34 rfl rfl ?_
  refine g_getfield (pc' := 38) dj68_22_35 rfl (wf_AbstractStringBuilder_79 hw) ((Fn'.keep K30 nb)) ?_
  refine g_iloadN (pc' := 39) dj68_22_38 rfl rfl ?_
  refine g_iadd (pc' := 40) dj68_22_39 rfl ?_
  rw [ofNat_add2]
  refine g_putfield (pc' := 43) dj68_22_40 rfl (wf_AbstractStringBuilder_79 hw) (Fn'.keep K30 nb) (E'.keep K30) (Or.inl (wy_StringBuilder_AbstractStringBuilder_count hw)) (wn_StringBuilder hw) (ty := .int) (by decide) rfl rfl (hb) (by simp) fun h40 W40 => ?_
  refine g_aloadN (pc' := 44) dj68_22_43 rfl rfl rfl ?_
  refine g_areturn dj68_22_44 rfl rfl rfl rfl rfl (bl (by show 0 + 0 + W + 0 ≤ W; omega)) ⟨rfl, ?_, t', ht1, (A30.other W40 hbt'.symm).lt, (E'.keep K30).wr W40, (Fv'.keep K30 nb).other W40 (Or.inr (sb_ne2 hw).symm), (Fc'.keep K30 nb).other W40 (Or.inr (sb_ne3 hw).symm), ?_, kb', _, hc', A30.other W40 hbt'.symm, ?_, ?_, ?_, hcN⟩
  · have K1 : Keep h h21 [b, t] := ⟨K21.1, fun y c q r => K21.2.1 y c q (fun u => r (by simp at u ⊢; exact Or.inl u)), K21.2.2⟩
    exact (K1.trans K30 (fun y hy => by cases List.mem_singleton.mp hy; exact ht1.elim (fun q => Or.inl (by rw [q]; simp)) Or.inr)).wr W40 (Or.inl (by simp))
  · rw [List.length_append]
    exact (Fn'.keep K30 nb).same W40
  · simp only [List.length_append, List.length_take, List.length_drop, List.length_map, hvs']
    omega
  · rw [List.take_append_of_le_length (by simp only [List.length_append, List.length_take, List.length_map, hvs']; omega), List.take_of_length_le (by simp only [List.length_append, List.length_take, List.length_map, hvs']; omega), htk']
    exact (List.map_append ..).symm
  · rw [List.length_append]; exact hNc
theorem met_SApS (hw : ∀ d ∈ tables_1, d.before a0 Z = true) (S : Sta Z Z.heap "java/lang/String" "COMPACT_STRINGS" "Z" (.int z)) (hz : ¬ z = 0) (EZ : Ext Z.heap h) {b t x : Addr} {cs ds : List Int32} {cap : Nat} (hb : Z.heap.size ≤ b) (ht : Z.heap.size ≤ t) (B : SBd Z h b t cs cap) (T : Str Z h x ds) (hds : ∀ c ∈ ds, ¬ (255 : Int32) < c) (hcN : capOf (cs.length + ds.length) cap ≤ 4000) (hW : capOf (cs.length + ds.length) cap ≤ W) : MetW [] l ySApS jdk_67_method_7_code 2 (some (.object SBN)) (Rm 5 1 W 120) #[.ref b, .ref x] Z a0 EL true [b, t] h (fun v h' => v = some (.ref b) ∧ Keep h h' [b, t] ∧ ∃ t', (t' = t ∨ h.size ≤ t') ∧ t' < h'.size ∧ SBd Z h' b t' (cs ++ ds) (capOf (cs.length + ds.length) cap)) := by
  refine MetW.of (by first | exact plainFor_of_name (by first | (simp [plainName, overriddenIn]; done) | decide +kernel) | decide +kernel) fun X hX => Go.old fun EZ => ?_
  show Go X _ _ _ _ _ _ _ _ _ _ _ _ _ _ _ _ (mkF X.m 0 #[.val (.ref b), .val (.ref x)] [])
  refine g_aloadN (pc' := 1) dj67_7_0 rfl rfl rfl ?_
  refine g_aloadN (pc' := 2) dj67_7_1 rfl rfl rfl ?_
  refine g_super (pc' := 5) [b, t] [_] dj67_7_2 rfl (by decide) (wl_StringBuilder_29 hw) (wm_AbstractStringBuilder_append_lLjavalangStringrLjavalangAbstractStringBuilder hw) (wz_StringBuilder_AbstractStringBuilder hw) (asb_ni hw) (Ins.self B.1) (wb_AbstractStringBuilder_append_lLjavalangStringrLjavalangAbstractStringBuilder hw) (by decide) (Pay.of_met (met_ApS (W := W) hw S hz EZ hb ht B T hds hcN hW) (wb_AbstractStringBuilder_append_lLjavalangStringrLjavalangAbstractStringBuilder hw) (wi_AbstractStringBuilder hw) rfl rfl) pd_lLjavalangStringrLjavalangAbstractStringBuilder rfl rfl rfl rfl (bl (by show 0 + W ≤ W; omega)) (fun _ q => q) fun v2 h2 q2 l2 => ?_
  obtain ⟨rfl, K2, t', ht1, ht2, B2⟩ := q2
  refine g_pop (pc' := 6) dj67_7_5 rfl rfl ?_
  refine g_aloadN (pc' := 7) dj67_7_6 rfl rfl rfl ?_
  refine g_areturn dj67_7_7 rfl rfl rfl rfl rfl (bl (by show 0 + W ≤ W; omega)) ⟨rfl, K2, t', ht1, ht2, B2⟩
end SBg
/-! toString over the clone road of copyOfRange -/
section SBt
variable {l : Launch} {R : Room} {Z : State} {a0 : Array Value} {EL : List (String × Nat)} {nw : Bool} {h : Heap} {W : Nat} {z : Int32}
theorem met_CR (hw : ∀ d ∈ tables_1, d.before a0 Z = true) {t : Addr} {kb : ClassId} {cap : Nat} {vs : List Value} (hc : Z.vm.findClass "[B" = some kb) (A : Arv Z h t kb .byte (Int32.ofNat cap) vs (.int 0)) (hcap : cap ≤ 4000) (hW : cap ≤ W) : MetW [] l yCR jdk_65_method_132_code 3 (some (.array .byte)) (Rm 1 1 W 40) #[.ref t, .int 0, .int (Int32.ofNat cap)] Z a0 EL nw [] h (fun v h' => ∃ t', v = some (.ref t') ∧ h.size ≤ t' ∧ t' < h'.size ∧ Ext h h' ∧ Arv Z h' t' kb .byte (Int32.ofNat cap) vs (.int 0)) := by
  refine MetW.of (by first | exact plainFor_of_name (by first | (simp [plainName, overriddenIn]; done) | decide +kernel) | decide +kernel) fun X hX => Go.old fun EZ => ?_
  show Go X _ _ _ _ _ _ _ _ _ _ _ _ _ _ _ _ (mkF X.m 0 #[.val (.ref t), .val (.int 0), .val (.int (Int32.ofNat cap))] [])
  refine g_iloadN (pc' := 1) dj65_132_0 rfl rfl ?_
  refine g_ifne (pc' := 4) (pc2 := 10) dj65_132_1 rfl (by decide) rfl (fun c1 => ?_) (fun c1 => False.elim (c1 rfl))
  refine g_iloadN (pc' := 5) dj65_132_4 rfl rfl ?_
  refine g_aloadN (pc' := 6) dj65_132_5 rfl rfl rfl ?_
  refine g_arraylength (pc' := 7) dj65_132_6 rfl (A) ?_
  refine g_icmpeq (pc' := 10) (pc2 := 17) dj65_132_7 rfl (by decide) rfl (fun c7 => False.elim (c7 rfl)) (fun c7 => ?_)
  refine g_aloadN (pc' := 18) dj65_132_17 rfl rfl rfl ?_
  refine g_clone (pc' := 21) (cap := cap) dj65_132_18 rfl (wl_Arrays_310 hw) (wr_AB_Object_clone hw) (wn_Object_clone_lrLjavalangObject hw) (wm_Object_clone_lrLjavalangObject hw) (wv_AB_AB_clone_lrLjavalangObject hw) (wx_AB_Cloneable hw) A (Arv.exa A hc) rfl rfl rfl (by rw [ofNat_clamp (by omega)]; exact Nat.le_refl _) rfl (bl (by show 0 + cap ≤ W; omega)) fun h18 b e18 E18 A18 B18 => ?_
  refine g_checkcast (pc' := 24) dj65_132_21 rfl (wc_Arrays_311 hw) (Ins.self B18) ?_
  refine g_areturn dj65_132_24 rfl rfl rfl rfl rfl (bl (by show 0 + cap ≤ W; omega)) ⟨b, rfl, Nat.le_of_eq e18.symm, A18.lt, E18, A18⟩
theorem met_IA (hw : ∀ d ∈ tables_1, d.before a0 Z = true) (S : Sta Z Z.heap "java/lang/String" "COMPACT_STRINGS" "Z" (.int z)) (hz : ¬ z = 0) {x b t : Addr} {cs : List Int32} {cap : Nat} {v0 c0 : Value} (hx : Z.heap.size ≤ x) (Ex : Exa Z h x "java/lang/String") (V : Fld Z h x "java/lang/String" "value" "[B" v0) (C : Fld Z h x "java/lang/String" "coder" "B" c0) (B : SBd Z h b t cs cap) (hl : cs.length = cap) (hcs : ∀ c ∈ cs, ¬ c < 0 ∧ ¬ (255 : Int32) < c) (hW : cap ≤ W) :
    MetW [] l yIA jdk_42_method_150_code 5 none (Rm 2 1 W 60) #[.ref x, .ref b, .null] Z a0 EL nw [x] h (fun v h' => v = none ∧ Keep h h' [x] ∧ Str Z h' x cs) := by
  have ne : RoadKit.slotOf Z "java/lang/String" "coder" "B" ≠ RoadKit.slotOf Z "java/lang/String" "value" "[B" := slot_ne (Or.inr (wy_String_String_coder hw)) (Or.inr (wy_String_String_value hw)) (by decide) (t := .byte) (t' := .array .byte) (by decide) (by decide)
  obtain ⟨E, Fv, Fc, Fn, kb, vs, hc, A, hvs, htk, hle, h4⟩ := B
  have hxt : t ≠ x := (Ex.neArv A (wn_String hw)).symm
  have hxb : b ≠ x := E.ne Ex (by decide)
  refine MetW.of (by first | exact plainFor_of_name (by first | (simp [plainName, overriddenIn]; done) | decide +kernel) | decide +kernel) fun X hX => Go.old fun EZ => ?_
  show Go X _ _ _ _ _ _ _ _ _ _ _ _ _ _ _ _ (mkF X.m 0 #[.val (.ref x), .val (.ref b), .val (.null), .unset, .unset] [])
  refine g_aloadN (pc' := 1) dj42_150_0 rfl rfl rfl ?_
  refine g_objinit (pc' := 4) dj42_150_1 rfl (wl_String_1 hw) (wm_Object_init_lrV hw) (wb_Object_init_lrV hw) rfl rfl rfl ?_
  refine g_aloadN (pc' := 5) dj42_150_4 rfl rfl rfl ?_
  refine g_invokevirtualN (pc' := 8) [] [] dj42_150_5 rfl (wl_String_552 hw) (wd_AbstractStringBuilder_getValue_lrAB hw) (wv_StringBuilder_AbstractStringBuilder_getValue_lrAB hw) (wm_AbstractStringBuilder_getValue_lrAB hw) (by decide) (NF.sel (wv_StringBuilder_AbstractStringBuilder_getValue_lrAB hw)) (E) (Pay.of_met (met_GV hw Fv) (wb_AbstractStringBuilder_getValue_lrAB hw) (wi_AbstractStringBuilder hw) rfl rfl) pd_lrAB rfl rfl rfl rfl (bl (Nat.zero_le _)) (fun _ q => nomatch q) fun v5 h5 q5 l5 => ?_
  obtain ⟨rfl, e5⟩ := q5
  have e5 := e5.symm
  subst e5
  refine g_astoreN (pc' := 9) (Ls' := #[_, _, _, _, _]) dj42_150_8 rfl rfl rfl ?_
  refine g_aloadN (pc' := 10) dj42_150_9 rfl rfl rfl ?_
  refine g_invokevirtualN (pc' := 13) [] [] dj42_150_10 rfl (wl_String_549 hw) (wd_AbstractStringBuilder_length_lrI hw) (wv_StringBuilder_AbstractStringBuilder_length_lrI hw) (wm_StringBuilder_length_lrI hw) (by decide) (nf_ni (asb_ni hw)) (E) (Pay.of_met (met_SL hw E Fn) (wb_StringBuilder_length_lrI hw) (wi_StringBuilder hw) rfl rfl) pd_lrI rfl rfl rfl rfl (bl (Nat.zero_le _)) (fun _ q => nomatch q) fun v10 h10 q10 l10 => ?_
  obtain ⟨rfl, e10⟩ := q10
  have e10 := e10.symm
  subst e10
  refine g_istore (pc' := 15) (Ls' := #[_, _, _, _, _]) dj42_150_13 rfl rfl ?_
  refine g_aloadN (pc' := 16) dj42_150_15 rfl rfl rfl ?_
  refine g_invokevirtualN (pc' := 19) [] [] dj42_150_16 rfl (wl_String_1047 hw) (wd_AbstractStringBuilder_isLatin1_lrZ hw) (wv_StringBuilder_AbstractStringBuilder_isLatin1_lrZ hw) (wm_AbstractStringBuilder_isLatin1_lrZ hw) (by decide) (NF.sel (wv_StringBuilder_AbstractStringBuilder_isLatin1_lrZ hw)) (E) (Pay.of_met (met_AI hw S hz Fc) (wb_AbstractStringBuilder_isLatin1_lrZ hw) (wi_AbstractStringBuilder hw) rfl rfl) pd_lrZ rfl rfl rfl rfl (bl (Nat.zero_le _)) (fun _ q => nomatch q) fun v16 h16 q16 l16 => ?_
  obtain ⟨rfl, e16⟩ := q16
  have e16 := e16.symm
  subst e16
  refine g_ifeq (pc' := 22) (pc2 := 41) dj42_150_19 rfl (by decide) rfl (fun c19 => ?_) (fun c19 => False.elim (absurd c19 (by decide)))
  refine g_aloadN (pc' := 23) dj42_150_22 rfl rfl rfl ?_
  refine g_iconst (pc' := 24) (w := 0) dj42_150_23 rfl (by decide) ?_
  refine g_putfield (pc' := 27) dj42_150_24 rfl (wf_String_15 hw) (C) (Ex) (Or.inr ⟨wy_String_String_coder hw, rfl, rfl⟩) (wn_String hw) (ty := .byte) (by decide) rfl rfl (hx) (by simp) fun h24 W24 => ?_
  refine g_aloadN (pc' := 28) dj42_150_27 rfl rfl rfl ?_
  refine g_aloadN (pc' := 29) dj42_150_28 rfl rfl rfl ?_
  refine g_iconst (pc' := 30) (w := 0) dj42_150_29 rfl (by decide) ?_
  refine g_iload (pc' := 32) dj42_150_30 rfl rfl ?_
  rw [hl]
  refine g_invokestatic (pc' := 35) [] [_, _, _] dj42_150_32 rfl (wl_String_54 hw) (ws_Arrays_copyOfRange_lABIIrAB hw) (wi_Arrays hw) (wb_Arrays_copyOfRange_lABIIrAB hw) (by decide) (Pay.of_met (met_CR (W := W) hw hc (A.other W24 hxt) h4 hW) (wb_Arrays_copyOfRange_lABIIrAB hw) (wi_Arrays hw) rfl rfl) pd_lABIIrAB rfl rfl rfl rfl (bl (by show 0 + 0 + 0 + 0 + W ≤ W; omega)) (fun _ q => nomatch q) fun v32 h32 q32 l32 => ?_
  obtain ⟨t', rfl, t1, t2, E32, A32⟩ := q32
  refine g_putfield (pc' := 38) dj42_150_35 rfl (wf_String_9 hw) ((V.other W24 (Or.inr ne.symm)).ext E32) ((Ex.wr W24).ext E32) (Or.inr ⟨wy_String_String_value hw, rfl, rfl⟩) (wn_String hw) (ty := (.array .byte)) (by decide) rfl rfl (hx) (by simp) fun h35 W35 => ?_
  have hxt' : t' ≠ x := (((Ex.wr W24).ext E32).neArv A32 (wn_String hw)).symm
  refine g_goto (pc' := 97) dj42_150_38 (by decide) rfl ?_
  refine g_return dj42_150_97 rfl rfl (bl (by show 0 + 0 + 0 + 0 + W ≤ W; omega)) ⟨rfl, (((Keep.refl h [x]).wr W24 (Or.inl (List.mem_cons_self ..))).ext E32).wr W35 (Or.inl (List.mem_cons_self ..)), ((Ex.wr W24).ext E32).wr W35, t', kb, 0, _, vs, ((V.other W24 (Or.inr ne.symm)).ext E32).same W35, ((C.same W24).ext E32).other W35 (Or.inr ne), A32.other W35 hxt', Or.inl ⟨rfl, by rw [hl], ?_, fun c q => (hcs c q).2⟩, up255 hcs, by omega⟩
  rw [List.take_of_length_le (by omega)] at htk
  exact htk
theorem met_IS (hw : ∀ d ∈ tables_1, d.before a0 Z = true) (S : Sta Z Z.heap "java/lang/String" "COMPACT_STRINGS" "Z" (.int z)) (hz : ¬ z = 0) {x b t : Addr} {cs : List Int32} {cap : Nat} {v0 c0 : Value} (hx : Z.heap.size ≤ x) (Ex : Exa Z h x "java/lang/String") (V : Fld Z h x "java/lang/String" "value" "[B" v0) (C : Fld Z h x "java/lang/String" "coder" "B" c0) (B : SBd Z h b t cs cap) (hl : cs.length = cap) (hcs : ∀ c ∈ cs, ¬ c < 0 ∧ ¬ (255 : Int32) < c) (hW : cap ≤ W) :
    MetW [] l yIS jdk_42_method_53_code 2 none (Rm 3 1 W 80) #[.ref x, .ref b] Z a0 EL nw [x] h (fun v h' => v = none ∧ Keep h h' [x] ∧ Str Z h' x cs) := by
  refine MetW.of (by first | exact plainFor_of_name (by first | (simp [plainName, overriddenIn]; done) | decide +kernel) | decide +kernel) fun X hX => Go.old fun EZ => ?_
  show Go X _ _ _ _ _ _ _ _ _ _ _ _ _ _ _ _ (mkF X.m 0 #[.val (.ref x), .val (.ref b)] [])
  refine g_aloadN (pc' := 1) dj42_53_0 rfl rfl rfl ?_
  refine g_aloadN (pc' := 2) dj42_53_1 rfl rfl rfl ?_
  refine g_aconst_null (pc' := 3) dj42_53_2 rfl ?_
  refine g_invokespecial (pc' := 6) [x] [_, _] dj42_53_3 rfl rfl (wl_String_489 hw) (wm_String_init_lLjavalangAbstractStringBuilderLjavalangVoidrV hw) (wb_String_init_lLjavalangAbstractStringBuilderLjavalangVoidrV hw) (by decide) (Pay.of_met (met_IA (W := W) hw S hz hx Ex V C B hl hcs hW) (wb_String_init_lLjavalangAbstractStringBuilderLjavalangVoidrV hw) (wi_String hw) rfl rfl) pd_lLjavalangAbstractStringBuilderLjavalangVoidrV rfl rfl rfl rfl (bl (by show 0 + W ≤ W; omega)) (fun _ q => q) fun v3 h3 q3 l3 => ?_
  obtain ⟨rfl, q⟩ := q3
  exact g_return dj42_53_6 rfl rfl (bl (by show 0 + W ≤ W; omega)) ⟨rfl, q⟩
theorem met_TS (hw : ∀ d ∈ tables_1, d.before a0 Z = true) (S : Sta Z Z.heap "java/lang/String" "COMPACT_STRINGS" "Z" (.int z)) (hz : ¬ z = 0) (EZ : Ext Z.heap h) {b t : Addr} {cs : List Int32} {cap : Nat} (B : SBd Z h b t cs cap) (hl : cs.length = cap) (hcs : ∀ c ∈ cs, ¬ c < 0 ∧ ¬ (255 : Int32) < c) (hW : cap ≤ W) :
    MetW [] l yTS jdk_67_method_42_code 1 (some (.object "java/lang/String")) (Rm 4 2 (W + 4) 100) #[.ref b] Z a0 EL nw [] h (fun v h' => ∃ x, v = some (.ref x) ∧ h.size ≤ x ∧ x < h'.size ∧ Ext h h' ∧ Str Z h' x cs) := by
  refine MetW.of (by first | exact plainFor_of_name (by first | (simp [plainName, overriddenIn]; done) | decide +kernel) | decide +kernel) fun X hX => Go.old fun EZ => ?_
  show Go X _ _ _ _ _ _ _ _ _ _ _ _ _ _ _ _ (mkF X.m 0 #[.val (.ref b)] [])
  refine g_new (pc' := 3) dj67_42_0 rfl (wc_StringBuilder_18 hw) (wn_String hw) (wi_String hw) rfl (bl (by show 0 + 4 ≤ W + 4; omega)) fun h0 a0' e0 E0 A0 D0 => ?_
  refine g_dup (pc' := 4) dj67_42_3 rfl rfl ?_
  refine g_aloadN (pc' := 5) dj67_42_4 rfl rfl rfl ?_
  refine g_invokespecial (pc' := 8) [a0'] [_] dj67_42_5 rfl rfl (wl_StringBuilder_137 hw) (wm_String_init_lLjavalangStringBuilderrV hw) (wb_String_init_lLjavalangStringBuilderrV hw) (by decide) (Pay.of_met (met_IS (W := W) hw S hz (by rw [e0]; exact EZ.1) A0 (D0 (Or.inr (wy_String_String_value hw)) (ty := .array .byte) (by decide)) (D0 (Or.inr (wy_String_String_coder hw)) (ty := .byte) (by decide)) (B.ext E0) hl hcs hW) (wb_String_init_lLjavalangStringBuilderrV hw) (wi_String hw) rfl rfl) pd_lLjavalangStringBuilderrV rfl rfl rfl rfl (bl (by show 0 + 4 + W ≤ W + 4; omega)) (fun _ q => by cases List.mem_singleton.mp q; simp) fun v5 h5 q5 l5 => ?_
  obtain ⟨rfl, K5, T5⟩ := q5
  refine g_areturn dj67_42_8 rfl rfl rfl rfl rfl (bl (by show 0 + 4 + W ≤ W + 4; omega)) ⟨a0', rfl, Nat.le_of_eq e0.symm, T5.lt, ext_keep E0 K5 (allS (Nat.le_of_eq e0.symm) all0), T5⟩
end SBt
/-! exceptions made by the walk: a stack trace is filled in beneath, so the tables' methods and the frames beneath must be known -/
section ExcW
open Jvm.Free.Exc
variable {X : Cx} {R : Room} {Z : State} {a0 : Array Value} {EL : List (String × Nat)} {nw : Bool} {y : MethodName} {bs : ByteArray} {ml : Nat} {rt : Option FieldType} {Q : Option Value → Heap → Prop} {kc ks : Nat} {sf : List Addr} {h : Heap} {k n : Nat} {pc pc' : Nat} {Ls : Array Slot} {st : List Value}
/-- what such a walk must know of its start -/
def Kn (X : Cx) (Z : State) : Prop := X.s.vm.MethodsKnown ∧ X.s.vm.FramesKnown X.below ∧ Ext Z.heap X.s.heap
def MetK (ws : List Jvm.Cond) (l : Launch) (y : MethodName) (bs : ByteArray) (ml : Nat) (rt : Option FieldType) (rm : Room) (as' : Array Value) (Z : State) (a0 : Array Value) (EL : List (String × Nat)) (nw : Bool) (sf : List Addr) (h : Heap) (Q : Option Value → Heap → Prop) : Prop :=
  MetFree l y (head1 (Jvm.Cond.code y bs ml rt :: ws) rm) (fun a U => a = as' ∧ Z.Warmed39 U.vm ∧ U.heap = h ∧ CHv Z EL U.vm h ∧ Ext Z.heap h ∧ EW Z a0 EL ∧ ∀ x ∈ sf, x < h.size ∧ Safe Z EL U.vm h x) (fun _ _ bl s _ => s.vm.MethodsKnown ∧ s.vm.FramesKnown bl)
    (fun _ U o U' => ∃ v L, o = .returned v ∧ (Q v U'.heap ∧ Fr Z.heap.size L ∧ Ext Z.heap U'.heap) ∧ CHr Z EL U.vm U.heap U'.vm U'.heap ∧ (nw = true → U.WarmedH U'.vm) ∧ ReturnedEndW U o U' L rm.cells rm.slots)
theorem MetK.of {ws : List Jvm.Cond} {l : Launch} {rm : Room} {as' : Array Value} (hpl : plainFor y = true)
    (H : ∀ X : Cx, X.l = l → Kn X Z → Go X rm Z a0 EL nw y bs ml rt Q rm.cells rm.slots sf h 0 0 (entryFrame X.m as' ml)) : MetK ws l y bs ml rt rm as' Z a0 EL nw sf h Q := by
  refine MetFree.of_bodySF hpl hisR ?_
  intro p e s m args below meth c s₁ Bd hml0 hP hK
  obtain ⟨rfl, hZ, rfl, hC, hE, hEL, hs⟩ := hP
  have e0 : s₁.heap = s.heap := by rw [Bd.state]; rfl
  exact H (p, l, e, s, m, args, below, meth, c) rfl ⟨hK.1, hK.2, hE⟩ s₁ ⟨⟨Bd.exec, Bd.bytes, hml0, Bd.returns, (name_of_methodNamed Bd.named Bd.method).1, Bd.notSynchronized, hEL⟩, s.vm, [], Stand.of_body Bd, e0, (State.WarmedH.refl s).since _, hZ, findClass_of_methodNamed Bd.named, CHr.refl hC, Fr.nil _, hE, hs, fun _ => State.WarmedH.refl s⟩
def PayK (l : Launch) (R : Room) (y : MethodName) (W : Nat) (as' : Array Value) (Z : State) (a0 : Array Value) (EL : List (String × Nat)) (nw : Bool) (sf : List Addr) (h : Heap) (kc ks : Nat) (Q : Option Value → Heap → Prop) : Prop :=
  ∀ (p : Program) (e : Env) (below : List Frame) (s : State) (args : Array Value) (len : Nat) (vm0 : Vm), p.tables.exec = Jvm.exec → Ext Z.heap s.heap → vm0.MethodsKnown → vm0.FramesKnown below → Z.Warmed39 vm0 → CHv Z EL vm0 h → Ext Z.heap h → (∀ x ∈ sf, x < h.size ∧ Safe Z EL vm0 h x) → EW Z a0 EL →
    BackS l R p e below (s.setVm vm0) args y len W (fun A a => a = as' ∧ A.U.heap = h ∧ A.cells + kc ≤ R.cells ∧ A.slots + ks ≤ R.slots)
      (fun A _ v B => ∃ L, (Q v B.U.heap ∧ Fr Z.heap.size L ∧ Ext Z.heap B.U.heap) ∧ B.locs = A.locs ++ L ∧ B.cells = A.cells + kc ∧ B.slots = A.slots + ks ∧ CHr Z EL vm0 h B.U.vm B.U.heap ∧ (nw = true → (s.setVm vm0).WarmedH B.U.vm))
theorem PayK.of_met {l : Launch} {rm : Room} {as' : Array Value} {W : Nat} (hM : MetK [] l y bs ml rt rm as' Z a0 EL nw sf h Q) (wc : (Jvm.Cond.code y bs ml rt).before a0 Z = true) (wz : (Jvm.Cond.initialized y.cls).before a0 Z = true) (hf : Nat.ble (rm.frames + 1) R.frames = true) (hl : Nat.ble (W + (ml + 11) + rm.locals) R.locals = true) :
    PayK l R y W as' Z a0 EL nw sf h rm.cells rm.slots Q := fun p e below s args len vm0 _ _ hTK hBelow hZ H hE hs hEL =>
  BackS.of_freeWG (bytes := bs) (maxL := ml) (ret := rt) (E := fun _ first o t L k n => k = rm.cells ∧ n = rm.slots ∧ (∃ v, o = .returned v ∧ Q v t.heap ∧ Fr Z.heap.size L ∧ Ext Z.heap t.heap) ∧ CHr Z EL first.vm first.heap t.vm t.heap ∧ (nw = true → first.WarmedH t.vm)) hM (ble hf) (ble hl)
    (fun m meth c A a Y hp => have hU : Z.Warmed39 A.U.vm := wtrans (s := s.setVm vm0) hZ Y.warmed
      ⟨by show (Jvm.Cond.and _ .tt).before a A.U = true; rw [Cond.before_and, mv hU wc]; rfl, mv hU wc, mv hU wz, hp.2.2.1, hp.2.2.2⟩)
    (fun m meth c A a g mk Y hp => ⟨hp.1, wtrans (s := s.setVm vm0) hZ Y.warmed, hp.2.1, (CHv.at Y hZ hEL H).1, hE, hEL, fun x hx => ⟨(hs x hx).1, (CHv.at Y hZ hEL H).safe (hs x hx).1 (hs x hx).2⟩⟩) (fun m meth c A a g mk Y _ hg => known_frames Y hg hTK hBelow)
    (fun _ _ _ _ ⟨v, L, h1, h2, h3, h5, h4⟩ => ⟨L, _, _, h4, rfl, rfl, ⟨v, h1, h2⟩, h3, h5⟩)
    (fun m meth c A a g mk v t L k n Y hp _ _ ⟨e1, e2, ⟨v', e3, e4⟩, e5, e6⟩ => by
      cases e3; subst e1 e2
      refine ⟨L, e4, rfl, rfl, rfl, (CHv.at Y hZ hEL H).trans ?_, fun q => State.WarmedH.trans Y.warmed (e6 q)⟩
      rw [← hp.2.1]; exact e5)
theorem g_staticK {ix : Nat} {y' : MethodName} {bs' : ByteArray} {ml' : Nat} {rt' : Option FieldType} {as' : Array Value} {kc' ks' : Nat} {Q' : Option Value → Heap → Prop} (Kx : Kn X Z) (sfc : List Addr) (argsL : List Value) {ps : List FieldType} {r : Option FieldType} (hd : decode bs pc = .ok (.invokestatic ix, 3)) (hp : pc + 3 = pc')
    (w1 : (Jvm.Cond.methodLink y.cls ix y').before a0 Z = true) (w2 : (Jvm.Cond.static y').before a0 Z = true) (w3 : (Jvm.Cond.initialized y'.cls).before a0 Z = true) (w4 : (Jvm.Cond.code y' bs' ml' rt').before a0 Z = true) (hy : y'.cls ≠ "java/lang/invoke/MethodHandle" ∧ y'.cls ≠ "java/lang/invoke/VarHandle")
    (P : PayK X.l R y' (st.map fun v => v.category).sum as' Z a0 EL nw sfc h kc' ks' Q') (hpd : parseMethodDescriptor y'.desc = some ⟨ps, r⟩) (hlen : argsL.length = ps.length) (hargs : argsL.toArray = as') (hz : Ls.size = ml) (hk : Nat.ble (k + kc') R.cells = true) (hn : Nat.ble (n + ks') R.slots = true) (hsf : ∀ x ∈ sfc, x ∈ sf)
    (G : ∀ v h', Q' v h' → h.size ≤ h'.size → Go X R Z a0 EL nw y bs ml rt Q kc ks sf h' (k + kc') (n + ks') (mkF X.m pc' Ls (v.toList ++ st))) : Go X R Z a0 EL nw y bs ml rt Q kc ks sf h k n (mkF X.m pc Ls (argsL.reverse ++ st)) := fun T S => by
  subst hp
  obtain ⟨F, vm0, L, X1, eT, hS, hZ, hown, hC, hF, hE, hs, hN⟩ := S
  have hal := hS.1.alike
  obtain ⟨v, vm1, B, -, X2, hS2, hle, hq, stp⟩ := callSS X1 F.1 (y := y') hown (mvT (s := X.s.setVm vm0) hZ w1) (mvT (s := X.s.setVm vm0) hZ w2) (mvT (s := X.s.setVm vm0) hZ w3) (mvT (s := X.s.setVm vm0) hZ w4) hy (P _ _ _ _ _ _ vm0 F.1 Kx.2.2 (Vm.MethodsKnown.alikeC hal Kx.1) (Vm.FramesKnown.alikeC hal Kx.2.1) hZ hC.1 hE (fun x hx => hs x (hsf x hx)) F.2.2.2.2.2.2) (g := mkF X.m pc Ls (argsL.reverse ++ st)) rfl (by rw [F.2.2.1]; exact hz) (argsL := argsL) (rest := st) (lenOf hpd hlen) rfl (by show 2 * 0 + _ ≤ _; omega) (hb F.2.1 hd) (fun _ _ => ⟨hargs, eT, ble hk, ble hn⟩)
  exact (Go.back F eT hS hZ hown hC hF hs X2 hS2 hle hq hN G).back fun t q => stp.trans q
/-- new, and the object is untouched -/
theorem g_newU {C : String} {ix sz : Nat} (hd : decode bs pc = .ok (.new ix, 3)) (hp : pc + 3 = pc') (w : (Jvm.Cond.classLink y.cls ix C).before a0 Z = true) (wi : (Jvm.Cond.instantiable C sz).before a0 Z = true) (wz : (Jvm.Cond.initialized C).before a0 Z = true) (hk : Nat.ble (k + 1) R.cells = true) (hn : Nat.ble (n + sz) R.slots = true)
    (G : ∀ h' a, a = h.size → Ext h h' → Exa Z h' a C → (∀ {O nm d : String} {ty : FieldType}, Laid Z a0 C O nm d → parseFieldDescriptor d = some ty → Fld Z h' a O nm d (defaultValue ty)) → Unt h' a → Go X R Z a0 EL nw y bs ml rt Q kc ks (a :: sf) h' (k + 1) (n + sz) (mkF X.m pc' Ls (.ref a :: st))) : Go X R Z a0 EL nw y bs ml rt Q kc ks sf h k n (mkF X.m pc Ls st) := fun T S => by
  subst hp
  obtain ⟨F, vm0, L, X1, eT, hS, hZ, hown, hC, hF, hE, hs, hN⟩ := S
  obtain ⟨T', h', X2, e2, E2, A2, D2, U2, stp⟩ := newO X1 F.1 (Z := Z) hZ hown w wi wz eT (g := mkF X.m pc Ls st) rfl (hb F.2.1 hd) (ble hk) (ble hn)
  refine (G h' _ rfl E2 A2 D2 U2 T' ?_).back stp
  exact ⟨F, vm0, _, X2, e2, ⟨hS.1, hS.2.mono E2.1⟩, hZ, hown, hC.trans (CHr.ext E2 hC.1), hF, ext_trans hE E2, fun x hx => by
    rcases List.mem_cons.mp hx with rfl | hx
    · exact ⟨A2.lt, Safe.ext E2 hC.1 (Safe.new (Nat.le_refl _))⟩
    · exact ⟨Nat.lt_of_lt_of_le (hs x hx).1 E2.1, Safe.ext E2 hC.1 (hs x hx).2⟩, hN⟩
/-- the constructor X(String) of a Throwable that only passes its argument on -/
theorem g_exc1 {ic nI : Nat} {rc : String} {links : List Link} {a : Addr} {msg : Value} (Kx : Kn X Z) (hl : X.l.stackTraces = true) (hd : decode bs pc = .ok (.invokespecial ic, 3)) (hp : pc + 3 = pc') (hok : linksOk 1 links = true)
    (w1 : (Jvm.Cond.methodLink y.cls ic (ctor 1 (headName links))).before a0 Z = true) (w2 : (Jvm.Cond.instanceMethod (ctor 1 (headName links))).before a0 Z = true) (wT : (chainTab 1 rc links).before a0 Z = true) (wi : (Jvm.Cond.instantiable rc nI).before a0 Z = true) (r : ∀ d ∈ twoRefs, d.before a0 Z = true)
    (E : Exa Z h a rc) (N : Unt h a) (B : Fld Z h a tN "backtrace" obD .null) (B2 : Fld Z h a tN "detailMessage" msgD .null) (hmsg : msg.isRef = true) (ha : Z.heap.size ≤ a) (hm : a ∈ sf) (hz : Ls.size = ml) (hf : Nat.ble (4 + links.length) R.frames = true) (hlo : Nat.ble ((st.map fun v => v.category).sum + (56 + 14 * links.length)) R.locals = true) (hk : Nat.ble (k + 1) R.cells = true) (hn : Nat.ble (n + 2752) R.slots = true)
    (G : ∀ h', Keep h h' [a] → Exa Z h' a rc → Unt h' a → Fld Z h' a tN "detailMessage" msgD msg → Fld Z h' a tN "cause" thD (.ref a) → Go X R Z a0 EL nw y bs ml rt Q kc ks sf h' (k + 1) (n + 2752) (mkF X.m pc' Ls st)) : Go X R Z a0 EL nw y bs ml rt Q kc ks sf h k n (mkF X.m pc Ls (msg :: .ref a :: st)) := fun T S => by
  subst hp
  obtain ⟨F, vm0, L, X1, eT, hS, hZ, hown, hC, hF, hE, hs, hN⟩ := S
  have hal := hS.1.alike
  obtain ⟨T', h', X2, e2, K, E', N', M', C', -, stp⟩ := excL1 X1 F.1 hl (Z := Z) (a0 := a0) hZ hown hok w1 w2 wT wi r (ThS.ext Kx.2.2 ThS.start) (ThS.ext hE ThS.start) (Vm.MethodsKnown.alikeC hal Kx.1) (Vm.FramesKnown.alikeC hal Kx.2.1) eT E N B B2 hmsg (g := mkF X.m pc Ls (msg :: .ref a :: st)) rfl (by rw [F.2.2.1]; exact hz) rfl (hb F.2.1 hd) (ble hf) (by show 2 * 0 + _ + _ ≤ _; have := ble hlo; omega) (ble hk) (ble hn)
  have KK := keep_of_kp K
  refine (G h' KK E' N' M' C' T' ?_).back stp
  exact Spot.next F X2 e2 hS hZ hown hC (CHr.keep KK (fun x hx => by cases List.mem_singleton.mp hx; exact (hs a hm).2) hC.1) (Fr.six hF ha) (ext_keep hE KK fun x hx => by cases List.mem_singleton.mp hx; exact ha) hs hN
/-- a call of a method that the named class inherits -/
theorem g_virtualUp {ix : Nat} {C owner : String} {y' z' : MethodName} {as' : Array Value} {kc' ks' : Nat} {Q' : Option Value → Heap → Prop} (sfc : List Addr) {a : Addr} (argsL : List Value) {ps : List FieldType} {r : Option FieldType} (hd : decode bs pc = .ok (.invokevirtual ix, 3)) (hp : pc + 3 = pc')
    (w1 : (Jvm.Cond.methodLink y.cls ix y').before a0 Z = true) (w0 : (Jvm.Cond.sameMethod y'.cls owner y'.name y'.desc).before a0 Z = true) (w2 : (Jvm.Cond.declares ⟨owner, y'.name, y'.desc⟩).before a0 Z = true) (ho : owner ≠ "java/lang/invoke/MethodHandle" ∧ owner ≠ "java/lang/invoke/VarHandle") (w3 : (Jvm.Cond.selects C y' z').before a0 Z = true) (w4 : (Jvm.Cond.instanceMethod z').before a0 Z = true)
    (E : Exa Z h a C) (P : Pay X.l R z' (st.map fun v => v.category).sum as' Z a0 EL nw sfc h kc' ks' Q') (hpd : parseMethodDescriptor y'.desc = some ⟨ps, r⟩) (hlen : argsL.length = ps.length) (hargs : (Value.ref a :: argsL).toArray = as') (hz : Ls.size = ml) (hk : Nat.ble (k + kc') R.cells = true) (hn : Nat.ble (n + ks') R.slots = true) (hsf : ∀ x ∈ sfc, x ∈ sf)
    (G : ∀ v h', Q' v h' → h.size ≤ h'.size → Go X R Z a0 EL nw y bs ml rt Q kc ks sf h' (k + kc') (n + ks') (mkF X.m pc' Ls (v.toList ++ st))) : Go X R Z a0 EL nw y bs ml rt Q kc ks sf h k n (mkF X.m pc Ls (argsL.reverse ++ .ref a :: st)) := fun T S => by
  subst hp
  obtain ⟨F, vm0, L, X1, eT, hS, hZ, hown, hC, hF, hE, hs, hN⟩ := S
  obtain ⟨cq, kq, qa, qb, qc⟩ := isOf (s := X.s.setVm vm0) hZ eT E
  obtain ⟨v, vm1, B, -, X2, hS2, hle, hq, stp⟩ := X1.virtualBackUpS F.1 (x := y') (y := z') hown (mvT (s := X.s.setVm vm0) hZ w1) (mvT (s := X.s.setVm vm0) hZ w0) (mvT (s := X.s.setVm vm0) hZ w2) ho (mvT (s := X.s.setVm vm0) hZ w3) (mvT (s := X.s.setVm vm0) hZ w4) (P _ _ _ _ _ _ vm0 hZ hC.1 hE (fun x hx => hs x (hsf x hx)) F.2.2.2.2.2.2) qa qc (g := mkF X.m pc Ls (argsL.reverse ++ .ref a :: st)) rfl (by rw [F.2.2.1]; exact hz) (Steps.refl _) (argsL := argsL) (rest := st) (lenOf hpd hlen) rfl (by show 2 * 0 + _ ≤ _; omega) (hb F.2.1 hd) (fun _ _ => ⟨hargs, eT, ble hk, ble hn⟩)
  exact (Go.back F eT hS hZ hown hC hF hs X2 hS2 hle hq hN G).back fun t q => stp.trans q
theorem g_specialK {ix : Nat} {y' : MethodName} {bs' : ByteArray} {ml' : Nat} {as' : Array Value} {kc' ks' : Nat} {Q' : Option Value → Heap → Prop} (Kx : Kn X Z) (sfc : List Addr) {a : Addr} (argsL : List Value) {ps : List FieldType} {r : Option FieldType} (hd : decode bs pc = .ok (.invokespecial ix, 3)) (hp : pc + 3 = pc') (hi : y'.name = "<init>")
    (w1 : (Jvm.Cond.methodLink y.cls ix y').before a0 Z = true) (w2 : (Jvm.Cond.instanceMethod y').before a0 Z = true) (w4 : (Jvm.Cond.code y' bs' ml' none).before a0 Z = true) (hy : y'.cls ≠ "java/lang/invoke/MethodHandle" ∧ y'.cls ≠ "java/lang/invoke/VarHandle")
    (P : PayK X.l R y' (st.map fun v => v.category).sum as' Z a0 EL nw sfc h kc' ks' Q') (hpd : parseMethodDescriptor y'.desc = some ⟨ps, r⟩) (hlen : argsL.length = ps.length) (hargs : (Value.ref a :: argsL).toArray = as') (hz : Ls.size = ml) (hk : Nat.ble (k + kc') R.cells = true) (hn : Nat.ble (n + ks') R.slots = true) (hsf : ∀ x ∈ sfc, x ∈ sf)
    (G : ∀ v h', Q' v h' → h.size ≤ h'.size → Go X R Z a0 EL nw y bs ml rt Q kc ks sf h' (k + kc') (n + ks') (mkF X.m pc' Ls (v.toList ++ st))) : Go X R Z a0 EL nw y bs ml rt Q kc ks sf h k n (mkF X.m pc Ls (argsL.reverse ++ .ref a :: st)) := fun T S => by
  subst hp
  obtain ⟨F, vm0, L, X1, eT, hS, hZ, hown, hC, hF, hE, hs, hN⟩ := S
  have hal := hS.1.alike
  obtain ⟨v, vm1, B, -, X2, hS2, hle, hq, stp⟩ := X1.specialBackS F.1 (y := y') hi hown (mvT (s := X.s.setVm vm0) hZ w1) (mvT (s := X.s.setVm vm0) hZ w2) (mvT (s := X.s.setVm vm0) hZ w4) hy (P _ _ _ _ _ _ vm0 F.1 Kx.2.2 (Vm.MethodsKnown.alikeC hal Kx.1) (Vm.FramesKnown.alikeC hal Kx.2.1) hZ hC.1 hE (fun x hx => hs x (hsf x hx)) F.2.2.2.2.2.2) (g := mkF X.m pc Ls (argsL.reverse ++ .ref a :: st)) rfl (by rw [F.2.2.1]; exact hz) (Steps.refl _) (a := a) (argsL := argsL) (rest := st) (lenOf hpd hlen) rfl (by show 2 * 0 + _ ≤ _; omega) (hb F.2.1 hd) (fun _ _ => ⟨hargs, eT, ble hk, ble hn⟩)
  exact (Go.back F eT hS hZ hown hC hF hs X2 hS2 hle hq hN G).back fun t q => stp.trans q
theorem g_virtualK {ix : Nat} {C : String} {y' z' : MethodName} {as' : Array Value} {kc' ks' : Nat} {Q' : Option Value → Heap → Prop} (Kx : Kn X Z) (sfc : List Addr) {a : Addr} (argsL : List Value) {ps : List FieldType} {r : Option FieldType} (hd : decode bs pc = .ok (.invokevirtual ix, 3)) (hp : pc + 3 = pc')
    (w1 : (Jvm.Cond.methodLink y.cls ix y').before a0 Z = true) (w2 : (Jvm.Cond.declares y').before a0 Z = true) (w3 : (Jvm.Cond.selects C y' z').before a0 Z = true) (w4 : (Jvm.Cond.instanceMethod z').before a0 Z = true) (hy : y'.cls ≠ "java/lang/invoke/MethodHandle" ∧ y'.cls ≠ "java/lang/invoke/VarHandle")
    (hnf : NF Z y') (E : Exa Z h a C) (P : PayK X.l R z' (st.map fun v => v.category).sum as' Z a0 EL nw sfc h kc' ks' Q') (hpd : parseMethodDescriptor y'.desc = some ⟨ps, r⟩) (hlen : argsL.length = ps.length) (hargs : (Value.ref a :: argsL).toArray = as') (hz : Ls.size = ml) (hk : Nat.ble (k + kc') R.cells = true) (hn : Nat.ble (n + ks') R.slots = true) (hsf : ∀ x ∈ sfc, x ∈ sf)
    (G : ∀ v h', Q' v h' → h.size ≤ h'.size → Go X R Z a0 EL nw y bs ml rt Q kc ks sf h' (k + kc') (n + ks') (mkF X.m pc' Ls (v.toList ++ st))) : Go X R Z a0 EL nw y bs ml rt Q kc ks sf h k n (mkF X.m pc Ls (argsL.reverse ++ .ref a :: st)) := fun T S => by
  subst hp
  obtain ⟨F, vm0, L, X1, eT, hS, hZ, hown, hC, hF, hE, hs, hN⟩ := S
  have hal := hS.1.alike
  obtain ⟨cq, kq, qa, qb, qc⟩ := isOf (s := X.s.setVm vm0) hZ eT E
  obtain ⟨v, vm1, B, -, X2, hS2, hle, hq, stp⟩ := X1.virtualBackS F.1 (y := y') (z := z') hown (mvT (s := X.s.setVm vm0) hZ w1) (mvT (s := X.s.setVm vm0) hZ w2) (hnf (X.s.setVm vm0) hZ) (mvT (s := X.s.setVm vm0) hZ w3) (mvT (s := X.s.setVm vm0) hZ w4) hy (P _ _ _ _ _ _ vm0 F.1 Kx.2.2 (Vm.MethodsKnown.alikeC hal Kx.1) (Vm.FramesKnown.alikeC hal Kx.2.1) hZ hC.1 hE (fun x hx => hs x (hsf x hx)) F.2.2.2.2.2.2) qa qc (g := mkF X.m pc Ls (argsL.reverse ++ .ref a :: st)) rfl (by rw [F.2.2.1]; exact hz) (Steps.refl _) (argsL := argsL) (rest := st) (lenOf hpd hlen) rfl (by show 2 * 0 + _ ≤ _; omega) (hb F.2.1 hd) (fun _ _ => ⟨hargs, eT, ble hk, ble hn⟩)
  exact (Go.back F eT hS hZ hown hC hF hs X2 hS2 hle hq hN G).back fun t q => stp.trans q
end ExcW
/-! java.lang.Throwable's tables, for a receiver class rc whose own words tell of suppressedExceptions -/
section Thr
open Jvm.Free.Exc Jvm.Bundle Jvm.LibCode.Throwable Jvm.Free.Str
variable {args : Array Value} {s : State} {pl : Platform}
/-- the words asked, beside the receiver's -/
def thrW (rc : String) : List Jvm.Cond := [
  .initialized tN, .superclass tN "java/lang/Object", .instanceMethod tFill, .codeSync tFill Fill.code 1 (some (.object tN)), .instanceMethod tFill0, .native tFill0,
  .instanceMethod tInit0, .code tInit0 Init0.code 1 none, .instanceMethod oInit, .code oInit ⟨#[0xb1]⟩ 1 none, .methodLink tN 1 oInit, .methodLink tN 27 tFill, .methodLink tN 202 tFill0,
  .fieldLink tN 7 tN "cause" thD, .fieldLink tN 17 tN "stackTrace" steD, .fieldLink tN 24 tN "suppressedExceptions" listD, .fieldLink tN 13 tN "UNASSIGNED_STACK" steD, .laysStatic tN "UNASSIGNED_STACK" steD,
  .fieldLink tN 20 tN "SUPPRESSED_SENTINEL" listD, .laysStatic tN "SUPPRESSED_SENTINEL" listD, .fieldLink tN 198 tN "backtrace" obD, .selects rc tFill0 tFill0, .selects rc tFill tFill, .declares tFill,
  .lays rc tN "cause" thD, .lays rc tN "stackTrace" steD, .lays rc tN "suppressedExceptions" listD, .lays rc tN "detailMessage" msgD, .lays rc tN "backtrace" obD, .lays rc tN "depth" "I", .soleField tN "backtrace", .soleField tN "depth", .arrayOver (.object "java/lang/Object")]
theorem thrW_in : ∀ d ∈ thrW "java/lang/IllegalStateException", d ∈ tables_1 := by decide +kernel
/-- what is known of Throwable in s, by the names of its parts -/
theorem thr_of {rc : String} {cX : ClassId} {kX : Class} (hX : s.vm.findClass rc = some cX) (hkX : s.vm.classes[cX]? = some kX) (howns : pl.frameOwnsMonitors = true) (hfin : pl.finalization = false) (hpl : pl.magicAccessors = ({} : Platform).magicAccessors) (W : ∀ c ∈ thrW rc, c.before args s = true) :
    ∃ T : ThrowableC, T.Links pl s ∧ s.vm.findClass tN = some T.cT ∧ s.methodNamed? tFill = some T.fill ∧ s.methodNamed? tFill0 = some T.fill0 ∧ s.fieldFound? tN "stackTrace" steD = some (T.cT, T.kT, T.i17, T.fStack) ∧ s.fieldFound? tN "UNASSIGNED_STACK" steD = some (T.cT, T.kT, T.i13, T.fUnassigned) ∧ T.fStack.type = .array (.object "java/lang/StackTraceElement") := by
  have w : ∀ c, c ∈ thrW rc → c.holds args s none s [] = true := fun c q => W c q
  obtain ⟨⟨cT, i0⟩, meth0, hn0, hm0, hnat0, hcode0, hlocks0, hsig0⟩ := Cond.native_spec (w (.native tFill0) (by simp [thrW]))
  have hc : s.vm.findClass tN = some cT := findClass_of_methodNamed hn0
  obtain ⟨k, hk, hname⟩ := Vm.findClass_spec hc
  obtain ⟨_, k1, _, _, hk1, _, _, hord, _, hni⟩ := Cond.superclass_spec hc (w (.superclass tN "java/lang/Object") (by simp [thrW]))
  cases hk.symm.trans hk1
  obtain ⟨iF, methF, hnF, hmF, hatF, hstF, habF, -, -⟩ := Cond.ownMethod (x := tFill) hc hk (w (.instanceMethod tFill) (by simp [thrW]))
  obtain ⟨methF', cF, hmF', hcF, hbF, hlF, hrF, hlkF, -, hsigF⟩ := Cond.codeSync_spec hnF (w (.codeSync tFill Fill.code 1 (some (.object tN))) (by simp [thrW]))
  cases hmF.symm.trans hmF'
  obtain ⟨i0', meth0', hn0', hm0', hat0, hst0, hab0, hnm0, hds0⟩ := Cond.ownMethod (x := tFill0) hc hk (w (.instanceMethod tFill0) (by simp [thrW]))
  have e3 : i0 = i0' := by have := Option.some.inj (hn0.symm.trans hn0'); simpa using this
  subst e3
  cases hm0.symm.trans hm0'
  obtain ⟨iZ, methZ, hnZ, hmZ, hatZ, -, -, -, -⟩ := Cond.ownMethod (x := tInit0) hc hk (w (.instanceMethod tInit0) (by simp [thrW]))
  obtain ⟨methZ', cZ, hmZ', hcZ, hbZ, hlZ, -, hlkZ, -, -⟩ := Cond.code_spec hnZ (w (.code tInit0 Init0.code 1 none) (by simp [thrW]))
  cases hmZ.symm.trans hmZ'
  obtain ⟨mO, methO, hnO, hmO, hstO, habO⟩ := Cond.instanceMethod_spec (w (.instanceMethod oInit) (by simp [thrW]))
  obtain ⟨methO', cO, hmO', hcO, hbO, hlO, -, hlkO, -, hsigO⟩ := Cond.code_spec hnO (w (.code oInit ⟨#[0xb1]⟩ 1 none) (by simp [thrW]))
  cases hmO.symm.trans hmO'
  obtain ⟨kO, hkO, hnameO⟩ := Vm.findClass_spec (findClass_of_methodNamed hnO)
  obtain ⟨hnmO, hdsO⟩ := name_of_methodNamed hnO hmO
  obtain ⟨ci1, n1, cf, hl1, hr1, hcf, hp1⟩ := Cond.linkedMethod hc hk hnO (w (.methodLink tN 1 oInit) (by simp [thrW])) pl hpl
  obtain ⟨ci27, n27, cf2, hl27, hr27, hcf2, hp27⟩ := Cond.linkedMethod hc hk hnF (w (.methodLink tN 27 tFill) (by simp [thrW])) pl hpl
  cases hcf.symm.trans hcf2
  obtain ⟨ci202, n202, cf3, hl202, hr202, hcf3, hp202⟩ := Cond.linkedMethod hc hk hn0 (w (.methodLink tN 202 tFill0) (by simp [thrW])) pl hpl
  cases hcf.symm.trans hcf3
  have yC := w (.lays rc tN "cause" thD) (by simp [thrW])
  have yS := w (.lays rc tN "stackTrace" steD) (by simp [thrW])
  have yP := w (.lays rc tN "suppressedExceptions" listD) (by simp [thrW])
  have yM := w (.lays rc tN "detailMessage" msgD) (by simp [thrW])
  obtain ⟨ci7, i7, f7, hk7, hg7, ha7, hs7, hf7, hn7, ht7, hff7⟩ := Cond.ownField (t := .object tN) hc hk (by decide +kernel) (w (.fieldLink tN 7 tN "cause" thD) (by simp [thrW])) yC pl hpl
  obtain ⟨ci17, i17, f17, hk17, hg17, ha17, hs17, hf17, hn17, ht17, hff17⟩ := Cond.ownField (t := .array (.object "java/lang/StackTraceElement")) hc hk (by decide +kernel) (w (.fieldLink tN 17 tN "stackTrace" steD) (by simp [thrW])) yS pl hpl
  obtain ⟨ci24, i24, f24, hk24, hg24, ha24, hs24, hf24, hn24, ht24, hff24⟩ := Cond.ownField (t := .object "java/util/List") hc hk (by decide +kernel) (w (.fieldLink tN 24 tN "suppressedExceptions" listD) (by simp [thrW])) yP pl hpl
  obtain ⟨ci13, i13, f13, aS, cellS, hk13, hg13, ha13, hs13, -, -, hsta, hcellS, hissS, -, -, hff13⟩ := Cond.ownStatic (t := .array (.object "java/lang/StackTraceElement")) hc hk (by decide +kernel) (w (.fieldLink tN 13 tN "UNASSIGNED_STACK" steD) (by simp [thrW])) (w (.laysStatic tN "UNASSIGNED_STACK" steD) (by simp [thrW])) pl hpl
  obtain ⟨ci20, i20, f20, _, _, hk20, hg20, ha20, hs20, -, -, -, -, -, -, -, hff20⟩ := Cond.ownStatic (t := .object "java/util/List") hc hk (by decide +kernel) (w (.fieldLink tN 20 tN "SUPPRESSED_SENTINEL" listD) (by simp [thrW])) (w (.laysStatic tN "SUPPRESSED_SENTINEL" listD) (by simp [thrW])) pl hpl
  obtain ⟨_, _, cM, kM, iM, fM, _, _, hffM, hsM, hfM, _⟩ := Cond.lays_spec yM
  obtain ⟨tyS, dS, hdS, hdnS⟩ := Cond.laysAt hX hkX hff17 yS
  obtain ⟨tyP, dP, hdP, hdnP⟩ := Cond.laysAt hX hkX hff24 yP
  have apart : f17.slot ≠ f24.slot := Cond.laysApart hdS hdP hdnS hdnP (by rw [hn17, hn24]; decide)
  have pF : methF.sig.parameters = [] := by
    have : (parseMethodDescriptor tFill.desc).map (·.parameters) = some [] := by decide +kernel
    rw [hsigF] at this; simpa using this
  have p0 : meth0.sig.parameters = [.int] := by
    have : (parseMethodDescriptor tFill0.desc).map (·.parameters) = some [.int] := by decide +kernel
    rw [hsig0] at this; simpa using this
  have pO : methO.sig.parameters.length = 0 := by
    have : (parseMethodDescriptor oInit.desc).map (·.parameters) = some [] := by decide +kernel
    rw [hsigO] at this
    have : methO.sig.parameters = [] := by simpa using this
    rw [this]; rfl
  let T : ThrowableC := { cT := cT, kT := k, cO := cT, aS := aS, fillIdx := iF, fill0Idx := i0, initSIdx := iZ, obj := mO, kObj := kO, methFill := methF, methFill0 := meth0, methInitS := methZ, methObj := methO, codeFill := cF, codeInitS := cZ, codeObj := cO, fBack := f7, fDepth := f7, fStack := f17, fCause := f7, fSupp := f24, fMsg := fM, fUnassigned := f13, fSentinel := f20, cfT := cf, ci1 := ci1, n1 := n1, ci27 := ci27, n27 := n27, ci202 := ci202, n202 := n202, ci7 := ci7, i7 := i7, ci13 := ci13, i13 := i13, ci17 := ci17, i17 := i17, ci20 := ci20, i20 := i20, ci24 := ci24, i24 := i24 }
  refine ⟨T, ?_, hc, hnF, hn0, hff17, hff13, ht17⟩
  exact ⟨howns, hfin, hk, hname, Vm.findClass_boot hc hk, hni, Cond.initialized_spec hc hk (w (.initialized tN) (by simp [thrW])), hsta, hatF, hcF, hbF, hlF, hlkF, hstF, habF, hrF, pF, hat0, hnm0, hds0, p0, hst0, hnat0, hcode0, hlocks0, hab0, hs17, hf17, hs13, hkO, hnameO, hmO, hnmO, hstO, habO, by rw [hdsO]; exact lookupSpecial_of_named hnO hmO hstO, pO, hcO, hbO, hlkO, hs7, hf7, hs20, hs24, hf24, hsM, hfM, apart, hcf, hl1, hr1, hp1, hl27, hr27, hp27, hl202, hr202, hp202, hk7, hg7, ha7, hk13, hg13, ha13, hk17, hg17, ha17, hk20, hg20, ha20, hk24, hg24, ha24⟩
theorem thrW_ok {rc : String} : (thrW rc).all xOk = true := rfl
/-- fillInStackTrace(), called on an object that the walk has made -/
theorem pay_fill {l : Launch} {R : Room} {Z : State} {a0 : Array Value} {EL : List (String × Nat)} {nw : Bool} {h : Heap} {Wd nI : Nat} {rc : String} (hw : ∀ d ∈ thrW rc, d.before a0 Z = true) (wi : (Jvm.Cond.instantiable rc nI).before a0 Z = true) (hl : l.stackTraces = true) {ea : Addr} {u : Value} (SU : Sta Z Z.heap tN "UNASSIGNED_STACK" steD u) (ru : u.isRef = true) (hu : u ≠ .null) (hx : Z.heap.size ≤ ea) (E : Exa Z h ea rc) (N : Unt h ea) (B : Fld Z h ea tN "backtrace" obD .null) (Fs : Fld Z h ea tN "stackTrace" steD u) (hf : Nat.ble 3 R.frames = true) (hlo : Nat.ble (Wd + 42) R.locals = true) :
    PayK l R tFill Wd #[.ref ea] Z a0 EL nw [ea] h 1 2752 (fun v h' => v = some (.ref ea) ∧ Keep h h' [ea] ∧ Unt h' ea ∧ ∀ (nd : String × String) (w : Value), nd ∈ [("cause", thD), ("detailMessage", msgD)] → Fld Z h ea tN nd.1 nd.2 w → Fld Z h' ea tN nd.1 nd.2 w) := by
  intro p e below s0 args len vm0 hexec hE0 hTK hBelow hZ H hE hs hEL m meth c A g ig mk a X1 hg hsize hdg hW hn hp
  have htr : e.platform.stackTraces = true := by rw [X1.admits.platform]; exact hl
  have hpl : e.platform.magicAccessors = ({} : Platform).magicAccessors := by rw [X1.admits.platform]
  have W : ∀ c ∈ thrW rc, c.before args (s0.setVm vm0) = true := fun c hc => mvX (s := s0.setVm vm0) (ThS.ext hE0 ThS.start) hZ (List.all_eq_true.mp thrW_ok c hc) (hw c hc)
  have w : ∀ c, c ∈ thrW rc → c.holds args (s0.setVm vm0) none (s0.setVm vm0) [] = true := fun c q => W c q
  have hal : Z.vm.Alike vm0 := hZ.alike
  obtain ⟨cell, kc, c1, c2, c3, -, c5⟩ := E
  obtain ⟨cell2, u1, u2, u3⟩ := N
  cases c1.symm.trans u1
  obtain ⟨k4, k2, i1, i2, i3, -⟩ := Cond.instantiable_spec wi
  cases c2.symm.trans i1
  cases c3.symm.trans i2
  obtain ⟨kX, q1, q2⟩ := hal.2.2 _ _ c3
  have hX : (s0.setVm vm0).vm.findClass rc = some cell.cls := by show vm0.findClass rc = _; rw [hal.findClass]; exact c2
  have hord : kX.kind = .ordinary := by rw [q2]; exact i3
  have hsz : cell.slots.size = kX.instanceTypes.size := by rw [q2]; exact c5 i3
  obtain ⟨T, L, hfound, hfill, hfill0, hst, hun, hty⟩ := thr_of hX q1 (by rw [X1.admits.platform]) (by rw [X1.admits.platform]) hpl W
  have fnd : ∀ {nm d : String} {cf : ClassId} {k : Class} {i : Nat} {f : Field} {c' : ClassId} {k' : Class} {i' : Nat} {f' : Field}, Z.fieldFound? tN nm d = some (cf, k, i, f) → (s0.setVm vm0).fieldFound? tN nm d = some (c', k', i', f') → f = f' := fun q r => by
    obtain ⟨k9, q9, -⟩ := State.fieldFound?_setVm (s := Z) hal q
    cases (show (s0.setVm vm0).fieldFound? tN _ _ = _ from q9).symm.trans r
    rfl
  have hsel0 : selectMethod e.platform vm0 cell.cls T.fill0 = .method T.fill0 := by
    obtain ⟨e2, r2, m2, x1, x2, x3, x4, -⟩ := Cond.selects_spec (w (.selects rc tFill0 tFill0) (by simp [thrW]))
    cases Option.some.inj (x1.symm.trans hX)
    cases Option.some.inj (x2.symm.trans (State.methodFound?_of_named hfill0 (by decide)))
    cases Option.some.inj (x3.symm.trans hfill0)
    rw [Launch.admits_selectMethod X1.admits]; exact x4
  obtain ⟨sc, si, sk, sfd, sst, cellS, s1, s2, s3, s4, s5, s6, s7⟩ := SU
  obtain ⟨k9, q9, hek⟩ := State.fieldFound?_setVm (s := Z) hal s1
  cases (show (s0.setVm vm0).fieldFound? tN _ _ = _ from q9).symm.trans hun
  have haS : T.aS = sst := by have := L.statics; rw [hek] at this; exact Option.some.inj (this.symm.trans s4)
  have hS : h[T.aS]? = some cellS := by rw [haS]; exact hE.2 _ _ s5
  have hneS : T.aS ≠ ea := by rw [haS]; exact Nat.ne_of_lt (Nat.lt_of_lt_of_le (Array.getElem?_eq_some_iff.mp s5).1 hx)
  have hknS : cellS.vm ≠ .unknown := fun q => by rw [q] at s6; cases s6
  obtain ⟨cellf, f1, f2, f3, ff, y1, y2, -, -, -, -, y7⟩ := Fs
  cases c1.symm.trans y1
  have eff := fnd y2 hst
  subst eff
  obtain ⟨cellb, b1, b2, b3, bf, z1, z2, -, -, -, -, z7⟩ := B
  cases c1.symm.trans z1
  obtain ⟨ci198, i198, fB, hk198, hg198, ha198, hsB, -, hnB, htB, hffB⟩ := Cond.ownField (t := .object "java/lang/Object") hfound L.cls (by decide +kernel) (w (.fieldLink tN 198 tN "backtrace" obD) (by simp [thrW])) (w (.lays rc tN "backtrace" obD) (by simp [thrW])) e.platform hpl
  have ebf := fnd z2 hffB
  subst ebf
  obtain ⟨-, -, cD, kD, iD, fD, -, -, hffD, hstD, -⟩ := Cond.lays_spec (w (.lays rc tN "depth" "I") (by simp [thrW]))
  cases Option.some.inj ((Cond.lays_declared (w (.lays rc tN "depth" "I") (by simp [thrW])) hffD).symm.trans hfound)
  obtain ⟨hkD, hatD⟩ := State.fieldFound?_spec hffD
  cases Option.some.inj (hkD.symm.trans L.cls)
  obtain ⟨hnD, htD⟩ := State.fieldFound?_type hffD (t := .int) (by decide +kernel)
  have hfb := Cond.soleField_find hfound L.cls (w (.soleField tN "backtrace") (by simp [thrW])) ha198 hnB hsB
  have hfd := Cond.soleField_find hfound L.cls (w (.soleField tN "depth") (by simp [thrW])) hatD hnD hstD
  obtain ⟨comp, cO, kO, -, -, hkO, hkindO, hO⟩ := Cond.arrayOver_spec (W (.arrayOver (.object "java/lang/Object")) (by simp [thrW]))
  obtain ⟨tyS, dS, hdS, hdnS⟩ := Cond.laysAt hX q1 hst (w (.lays rc tN "stackTrace" steD) (by simp [thrW]))
  obtain ⟨tyB, dB, hdB, hdnB⟩ := Cond.laysAt hX q1 hffB (w (.lays rc tN "backtrace" obD) (by simp [thrW]))
  obtain ⟨tyD, dD, hdD, hdnD⟩ := Cond.laysAt hX q1 hffD (w (.lays rc tN "depth" "I") (by simp [thrW]))
  have tk : ∀ {f : Field} {v : Value}, kX.instanceTypes[f.slot]? = some f.type → fits f.type v = true → Jvm.Takes (s0.setVm vm0) cell f v := fun {f v} h1 h2 => by
    obtain ⟨r1, r2⟩ := Takes.of_laid (s := s0.setVm vm0) (v := v) q1 hord h1 h2
    exact ⟨by rw [hsz]; simpa using r1, by rw [u2]; exact r2⟩
  obtain ⟨v, B', X2, ⟨hv, vm', lines, hlines, hW', hU, hL, hcc, hss⟩, stp⟩ := Jvm.Free.Str.fillPays (l := l) (R := R) (len := len) (W := Wd) (sargs := args) (s := s0.setVm vm0) hexec htr T L hfill (u0 := ⟨u, ru⟩) hu (self := ea) (cell := cell) (cellS := cellS) (fun k q => by rw [u2] at q; cases q) (fun q => by rw [u2] at q; cases q) (by rw [u3]) (by rw [u3]) y7 hsel0 hneS hknS s7 (tk tyS (by rw [hty]; exact fits_refV_array _ ⟨u, ru⟩)) ⟨⟨ci198, i198, bf⟩, ⟨hk198, hg198, ha198, hsB⟩, z7⟩ hTK hBelow hfound hO hkO hkindO hfb hfd (fun b => tk tyB (by rw [htB]; rfl)) (fun n => tk tyD (by rw [htD]; rfl)) (ble hf) (ble hlo) m meth c A g ig mk a X1 hg hsize hdg hW hn ⟨hp.1, hp.2.2.1, hp.2.2.2, by rw [hp.2.1]; exact c1, by rw [hp.2.1]; exact hS⟩
  generalize hC : (filledOn T.toThrowableT bf fD cell ⟨u, ru⟩ A.U.heap.size lines.length.toInt32) = C at hU
  have htc : (traceHolder cO lines).slots.size ≤ 2752 := traceHolder_size_le cO hlines
  generalize traceHolder cO lines = tc at hU hss htc
  have eh : B'.U.heap = (h.push tc).setIfInBounds ea C := by rw [hU, ← hp.2.1]; rfl
  have lt : ea < h.size := (Array.getElem?_eq_some_iff.mp c1).1
  have eE : B'.U.heap[ea]? = some C := by rw [eh, Array.getElem?_setIfInBounds_self, if_pos (by rw [Array.size_push]; exact Nat.lt_succ_of_lt lt)]
  have Ccls : C.cls = cell.cls := by rw [← hC]; rfl
  have Cvm : C.vm = cell.vm := by rw [← hC]; rfl
  have Cmon : C.monitor = cell.monitor := by rw [← hC]; rfl
  have Csz : C.slots.size = cell.slots.size := by rw [← hC]; simp [filledOn, Cell.setSlot]
  have Coth : ∀ i, i ≠ bf.slot → i ≠ fD.slot → i ≠ T.fStack.slot → C.slots[i]? = cell.slots[i]? := fun i h1 h2 h3 => by
    rw [← hC]; simp [filledOn, Cell.setSlot, Array.getElem?_setIfInBounds, Ne.symm h1, Ne.symm h2, Ne.symm h3]
  have oth : ∀ (x : Addr) (cx : Cell), h[x]? = some cx → x ≠ ea → B'.U.heap[x]? = some cx := fun x cx q ne => by
    rw [eh, Array.getElem?_setIfInBounds_ne (Ne.symm ne), Array.getElem?_push_lt (Array.getElem?_eq_some_iff.mp q).1]
    exact (Array.getElem?_eq_getElem _).symm.trans q
  have K : Keep h B'.U.heap [ea] := ⟨by rw [eh]; simp, fun x cx q ne => oth x cx q (fun z => ne (List.mem_singleton.mpr z)), fun x cx q => by
    by_cases z : x = ea
    · subst z
      cases c1.symm.trans q
      exact ⟨C, eE, Ccls, Cvm, Csz⟩
    · exact ⟨cx, oth x cx q z, rfl, rfl, rfl⟩⟩
  have fk : ∀ (nd : String × String) (w : Value), nd ∈ [("cause", thD), ("detailMessage", msgD)] → Fld Z h ea tN nd.1 nd.2 w → Fld Z B'.U.heap ea tN nd.1 nd.2 w := fun nd wv hnd F => by
    obtain ⟨cl, g1, g2, g3, gf, r1, r2, r3, r4, r5, r6, r7⟩ := F
    cases c1.symm.trans r1
    have hlay : (Jvm.Cond.lays rc tN nd.1 nd.2) ∈ thrW rc := by
      simp only [List.mem_cons, List.not_mem_nil, or_false] at hnd
      rcases hnd with rfl | rfl <;> simp [thrW]
    obtain ⟨k9, q9, -⟩ := State.fieldFound?_setVm (s := Z) hal r2
    have q9 : (s0.setVm vm0).fieldFound? tN nd.1 nd.2 = _ := q9
    obtain ⟨tyF, dF, hdF, hdnF⟩ := Cond.laysAt hX q1 q9 (w _ hlay)
    have nmF : gf.name = nd.1 := by
      simp only [List.mem_cons, List.not_mem_nil, or_false] at hnd
      rcases hnd with rfl | rfl
      · exact (State.fieldFound?_type q9 (t := .object tN) (by decide +kernel)).1
      · exact (State.fieldFound?_type q9 (t := .object "java/lang/String") (by decide +kernel)).1
    have nmS : T.fStack.name = "stackTrace" := (State.fieldFound?_type hst (t := .array (.object "java/lang/StackTraceElement")) (by decide +kernel)).1
    have hn3 : nd.1 ≠ "backtrace" ∧ nd.1 ≠ "depth" ∧ nd.1 ≠ "stackTrace" := by
      simp only [List.mem_cons, List.not_mem_nil, or_false] at hnd
      rcases hnd with rfl | rfl <;> decide
    have n1 := Cond.laysApart hdF hdB hdnF hdnB (by rw [nmF, hnB]; exact hn3.1)
    have n2 := Cond.laysApart hdF hdD hdnF hdnD (by rw [nmF, hnD]; exact hn3.2.1)
    have n3 := Cond.laysApart hdF hdS hdnF hdnS (by rw [nmF, nmS]; exact hn3.2.2)
    exact ⟨C, g1, g2, g3, gf, eE, r2, r3, by rw [Cvm]; exact r4, by rw [Cvm]; exact r5, by rw [Ccls]; exact r6, by rw [Coth _ n1 n2 n3]; exact r7⟩
  have hC2 : CHr Z EL vm0 h vm0 B'.U.heap := CHr.keep K (fun x q => by cases List.mem_singleton.mp q; exact (hs ea (List.mem_singleton.mpr rfl)).2) H
  have hsz2 : A.U.heap.size ≤ B'.U.heap.size := by rw [hp.2.1]; exact K.1
  have U2 : Unt B'.U.heap ea := ⟨C, eE, by rw [Cvm]; exact u2, by rw [Cmon]; exact u3⟩
  have X3 := X2.mono (cells' := A.cells + 1) (slots' := A.slots + 2752) (by rw [hcc]; exact Nat.le_refl _) (by rw [hss]; exact Nat.add_le_add_left htc _)
  refine ⟨v, ⟨B'.U, B'.locs, A.cells + 1, A.slots + 2752⟩, X3.retabled X2.warmed.wide, X2.warmed.since _, hsz2, ⟨_, ⟨⟨hv, K, U2, fk⟩, fun y hy => ?_, ext_keep hE K fun x q => by cases List.mem_singleton.mp q; exact hx⟩, hL, rfl, rfl, hC2.trans (CHv.at X2 hZ hEL hC2.1), fun _ => X2.warmed⟩, stp⟩
  simp only [List.mem_cons, List.not_mem_nil, or_false] at hy
  rcases hy with rfl | rfl | rfl <;> exact hx
end Thr
/-! IllegalStateException.<init>(String), walked down to Throwable's -/
section Ise
open Jvm.Free.Exc Jvm.Bundle Jvm.LibCode.Throwable Jvm.Free.Str
variable {l : Launch} {R : Room} {Z : State} {a0 : Array Value} {EL : List (String × Nat)} {nw : Bool} {h : Heap} {W : Nat}
abbrev ISE : String := "java/lang/IllegalStateException"
/-- Throwable's two statics -/
def ThrSta (Z : State) : Prop := ∃ u q, Sta Z Z.heap tN "UNASSIGNED_STACK" steD u ∧ u.isRef = true ∧ u ≠ .null ∧ Sta Z Z.heap tN "SUPPRESSED_SENTINEL" listD q ∧ q.isRef = true
/-- the object ahead of its constructor -/
def IseP (Z : State) (h : Heap) (ea : Addr) : Prop := Z.heap.size ≤ ea ∧ Exa Z h ea ISE ∧ Unt h ea ∧ Fld Z h ea tN "backtrace" obD .null ∧ ∃ v1 v2 v3 v4, Fld Z h ea tN "cause" thD v1 ∧ Fld Z h ea tN "stackTrace" steD v2 ∧ Fld Z h ea tN "suppressedExceptions" listD v3 ∧ Fld Z h ea tN "detailMessage" msgD v4
abbrev IseQ (Z : State) (h : Heap) (ea m : Addr) : Option Value → Heap → Prop := fun v h' => v = none ∧ Keep h h' [ea] ∧ Unt h' ea ∧ Fld Z h' ea tN "detailMessage" msgD (.ref m) ∧ Fld Z h' ea tN "cause" thD (.ref ea)
abbrev yTI : MethodName := ⟨"java/lang/Throwable", "<init>", "(Ljava/lang/String;)V"⟩
abbrev yEI : MethodName := ⟨"java/lang/Exception", "<init>", "(Ljava/lang/String;)V"⟩
abbrev yRI : MethodName := ⟨"java/lang/RuntimeException", "<init>", "(Ljava/lang/String;)V"⟩
abbrev yII : MethodName := ⟨"java/lang/IllegalStateException", "<init>", "(Ljava/lang/String;)V"⟩
theorem met_TI (hw : ∀ d ∈ tables_1, d.before a0 Z = true) (hl : l.stackTraces = true) (r : ThrSta Z) {ea m : Addr} (P : IseP Z h ea) :
    MetK [] l yTI jdk_78_method_2_code 2 none (Rm 3 1 2752 42) #[.ref ea, .ref m] Z a0 EL nw [ea] h (IseQ Z h ea m) := by
  obtain ⟨u, p, Su, ru, nu, Sp, rp⟩ := r
  obtain ⟨hx, E, N, B, v1, v2, v3, v4, Fc, Fs, Fp, Fm⟩ := P
  have wC := wy_IllegalStateException_Throwable_cause hw
  have wS := wy_IllegalStateException_Throwable_stackTrace hw
  have wP := wy_IllegalStateException_Throwable_suppressedExceptions hw
  have wM := wy_IllegalStateException_Throwable_detailMessage hw
  have wB := wy_IllegalStateException_Throwable_backtrace hw
  have pC : parseFieldDescriptor thD = some (.object "java/lang/Throwable") := by decide
  have pS : parseFieldDescriptor steD = some (.array (.object "java/lang/StackTraceElement")) := by decide
  have pP : parseFieldDescriptor listD = some (.object "java/util/List") := by decide
  have pM : parseFieldDescriptor msgD = some (.object "java/lang/String") := by decide
  have pB : parseFieldDescriptor obD = some (.object "java/lang/Object") := by decide
  have sc := slot_ne (Or.inl wS) (Or.inl wC) (by decide) pS pC
  have pc := slot_ne (Or.inl wP) (Or.inl wC) (by decide) pP pC
  have mc := slot_ne (Or.inl wM) (Or.inl wC) (by decide) pM pC
  have bc := slot_ne (Or.inl wB) (Or.inl wC) (by decide) pB pC
  have ps := slot_ne (Or.inl wP) (Or.inl wS) (by decide) pP pS
  have ms := slot_ne (Or.inl wM) (Or.inl wS) (by decide) pM pS
  have bs := slot_ne (Or.inl wB) (Or.inl wS) (by decide) pB pS
  have mp := slot_ne (Or.inl wM) (Or.inl wP) (by decide) pM pP
  have bp := slot_ne (Or.inl wB) (Or.inl wP) (by decide) pB pP
  refine MetK.of (by first | exact plainFor_of_name (by first | (simp [plainName, overriddenIn]; done) | decide +kernel) | decide +kernel) fun X hX Kx => Go.old fun EZ => ?_
  show Go X _ _ _ _ _ _ _ _ _ _ _ _ _ _ _ _ (mkF X.m 0 #[.val (.ref ea), .val (.ref m)] [])
  refine g_aloadN (pc' := 1) dj78_2_0 rfl rfl rfl ?_
  refine g_objinit (pc' := 4) dj78_2_1 rfl (wl_Throwable_1 hw) (wm_Object_init_lrV hw) (wb_Object_init_lrV hw) rfl rfl rfl ?_
  refine g_aloadN (pc' := 5) dj78_2_4 rfl rfl rfl ?_
  refine g_aloadN (pc' := 6) dj78_2_5 rfl rfl rfl ?_
  refine g_putfield (pc' := 9) dj78_2_6 rfl (wf_Throwable_7 hw) (Fc) (E) (Or.inl (wy_IllegalStateException_Throwable_cause hw)) (wn_IllegalStateException hw) (ty := (.object "java/lang/Throwable")) (by decide) rfl rfl (hx) (by simp) fun h6 W6 => ?_
  refine g_aloadN (pc' := 10) dj78_2_9 rfl rfl rfl ?_
  refine g_getstatic (pc' := 13) dj78_2_10 rfl (wf_Throwable_13 hw) (Su) ?_
  refine g_putfield (pc' := 16) dj78_2_13 rfl (wf_Throwable_17 hw) (Fs.other W6 (Or.inr sc)) (E.wr W6) (Or.inl (wy_IllegalStateException_Throwable_stackTrace hw)) (wn_IllegalStateException hw) (ty := (.array (.object "java/lang/StackTraceElement"))) (by decide) rfl (fits_refV_array _ ⟨u, ru⟩) (hx) (by simp) fun h13 W13 => ?_
  refine g_aloadN (pc' := 17) dj78_2_16 rfl rfl rfl ?_
  refine g_getstatic (pc' := 20) dj78_2_17 rfl (wf_Throwable_20 hw) (Sp) ?_
  refine g_putfield (pc' := 23) dj78_2_20 rfl (wf_Throwable_24 hw) ((Fp.other W6 (Or.inr pc)).other W13 (Or.inr ps)) ((E.wr W6).wr W13) (Or.inl (wy_IllegalStateException_Throwable_suppressedExceptions hw)) (wn_IllegalStateException hw) (ty := (.object "java/util/List")) (by decide) rfl (fits_refV_object _ ⟨p, rp⟩) (hx) (by simp) fun h20 W20 => ?_
  refine g_aloadN (pc' := 24) dj78_2_23 rfl rfl rfl ?_
  have E20 := ((E.wr W6).wr W13).wr W20
  have N20 := Unt.wr W20 (Unt.wr W13 (Unt.wr W6 N))
  have B20 := ((B.other W6 (Or.inr bc)).other W13 (Or.inr bs)).other W20 (Or.inr bp)
  have C20 := ((Fc.same W6).other W13 (Or.inr sc.symm)).other W20 (Or.inr pc.symm)
  have S20 := ((Fs.other W6 (Or.inr sc)).same W13).other W20 (Or.inr ps.symm)
  have M20 := ((Fm.other W6 (Or.inr mc)).other W13 (Or.inr ms)).other W20 (Or.inr mp)
  have K20 := (((Keep.refl h [ea]).wr W6 (Or.inl (List.mem_cons_self ..))).wr W13 (Or.inl (List.mem_cons_self ..))).wr W20 (Or.inl (List.mem_cons_self ..))
  refine g_virtualK (pc' := 27) (C := ISE) Kx [ea] [] dj78_2_24 rfl (wl_Throwable_27 hw) (wd_Throwable_fillInStackTrace_lrLjavalangThrowable hw) (wv_IllegalStateException_Throwable_fillInStackTrace_lrLjavalangThrowable hw) (wm_Throwable_fillInStackTrace_lrLjavalangThrowable hw) (by decide) (NF.sel (wv_IllegalStateException_Throwable_fillInStackTrace_lrLjavalangThrowable hw)) E20 (pay_fill (rc := ISE) (fun d q => hw d (thrW_in d q)) (wn_IllegalStateException hw) (by rw [hX]; exact hl) Su ru nu hx E20 N20 B20 S20 rfl rfl) pd_lrLjavalangThrowable rfl rfl rfl rfl rfl (fun _ q => q) fun v24 h24 q24 l24 => ?_
  obtain ⟨rfl, K24, N24, fk⟩ := q24
  have M24 := fk ("detailMessage", msgD) _ (by simp) M20
  have C24 := fk ("cause", thD) _ (by simp) C20
  refine g_pop (pc' := 28) dj78_2_27 rfl rfl ?_
  refine g_aloadN (pc' := 29) dj78_2_28 rfl rfl rfl ?_
  refine g_aloadN (pc' := 30) dj78_2_29 rfl rfl rfl ?_
  refine g_putfield (pc' := 33) dj78_2_30 rfl (wf_Throwable_31 hw) (M24) (E20.keep K24) (Or.inl (wy_IllegalStateException_Throwable_detailMessage hw)) (wn_IllegalStateException hw) (ty := (.object "java/lang/String")) (by decide) rfl rfl (hx) (by simp) fun h30 W30 => ?_
  refine g_return dj78_2_33 rfl rfl rfl ⟨rfl, (K20.trans K24 (fun _ q => Or.inl q)).wr W30 (Or.inl (List.mem_cons_self ..)), Unt.wr W30 N24, M24.same W30, C24.other W30 (Or.inr mc.symm)⟩
theorem met_EI (hw : ∀ d ∈ tables_1, d.before a0 Z = true) (hl : l.stackTraces = true) (r : ThrSta Z) {ea m : Addr} (P : IseP Z h ea) :
    MetK [] l yEI jdk_59_method_2_code 2 none (Rm 4 1 2752 55) #[.ref ea, .ref m] Z a0 EL nw [ea] h (IseQ Z h ea m) := by
  refine MetK.of (by first | exact plainFor_of_name (by first | (simp [plainName, overriddenIn]; done) | decide +kernel) | decide +kernel) fun X hX Kx => Go.old fun EZ => ?_
  show Go X _ _ _ _ _ _ _ _ _ _ _ _ _ _ _ _ (mkF X.m 0 #[.val (.ref ea), .val (.ref m)] [])
  refine g_aloadN (pc' := 1) dj59_2_0 rfl rfl rfl ?_
  refine g_aloadN (pc' := 2) dj59_2_1 rfl rfl rfl ?_
  refine g_specialK (pc' := 5) Kx [ea] [_] dj59_2_2 rfl rfl (wl_Exception_7 hw) (wm_Throwable_init_lLjavalangStringrV hw) (wb_Throwable_init_lLjavalangStringrV hw) (by decide) (PayK.of_met (met_TI hw (by rw [hX]; exact hl) r P) (wb_Throwable_init_lLjavalangStringrV hw) (wi_Throwable hw) rfl rfl) pd_lLjavalangStringrV rfl rfl rfl rfl rfl (fun _ q => q) fun v2 h2 q2 l2 => ?_
  obtain ⟨rfl, q⟩ := q2
  refine g_return dj59_2_5 rfl rfl rfl (⟨rfl, q⟩)
theorem met_RI (hw : ∀ d ∈ tables_1, d.before a0 Z = true) (hl : l.stackTraces = true) (r : ThrSta Z) {ea m : Addr} (P : IseP Z h ea) :
    MetK [] l yRI jdk_58_method_2_code 2 none (Rm 5 1 2752 68) #[.ref ea, .ref m] Z a0 EL nw [ea] h (IseQ Z h ea m) := by
  refine MetK.of (by first | exact plainFor_of_name (by first | (simp [plainName, overriddenIn]; done) | decide +kernel) | decide +kernel) fun X hX Kx => Go.old fun EZ => ?_
  show Go X _ _ _ _ _ _ _ _ _ _ _ _ _ _ _ _ (mkF X.m 0 #[.val (.ref ea), .val (.ref m)] [])
  refine g_aloadN (pc' := 1) dj58_2_0 rfl rfl rfl ?_
  refine g_aloadN (pc' := 2) dj58_2_1 rfl rfl rfl ?_
  refine g_specialK (pc' := 5) Kx [ea] [_] dj58_2_2 rfl rfl (wl_RuntimeException_7 hw) (wm_Exception_init_lLjavalangStringrV hw) (wb_Exception_init_lLjavalangStringrV hw) (by decide) (PayK.of_met (met_EI hw (by rw [hX]; exact hl) r P) (wb_Exception_init_lLjavalangStringrV hw) (wi_Exception hw) rfl rfl) pd_lLjavalangStringrV rfl rfl rfl rfl rfl (fun _ q => q) fun v2 h2 q2 l2 => ?_
  obtain ⟨rfl, q⟩ := q2
  refine g_return dj58_2_5 rfl rfl rfl (⟨rfl, q⟩)
theorem met_ISE (hw : ∀ d ∈ tables_1, d.before a0 Z = true) (hl : l.stackTraces = true) (r : ThrSta Z) {ea m : Addr} (P : IseP Z h ea) :
    MetK [] l yII jdk_60_method_2_code 2 none (Rm 6 1 2752 100) #[.ref ea, .ref m] Z a0 EL nw [ea] h (IseQ Z h ea m) := by
  refine MetK.of (by first | exact plainFor_of_name (by first | (simp [plainName, overriddenIn]; done) | decide +kernel) | decide +kernel) fun X hX Kx => Go.old fun EZ => ?_
  show Go X _ _ _ _ _ _ _ _ _ _ _ _ _ _ _ _ (mkF X.m 0 #[.val (.ref ea), .val (.ref m)] [])
  refine g_aloadN (pc' := 1) dj60_2_0 rfl rfl rfl ?_
  refine g_aloadN (pc' := 2) dj60_2_1 rfl rfl rfl ?_
  refine g_specialK (pc' := 5) Kx [ea] [_] dj60_2_2 rfl rfl (wl_IllegalStateException_7 hw) (wm_RuntimeException_init_lLjavalangStringrV hw) (wb_RuntimeException_init_lLjavalangStringrV hw) (by decide) (PayK.of_met (met_RI hw (by rw [hX]; exact hl) r P) (wb_RuntimeException_init_lLjavalangStringrV hw) (wi_RuntimeException hw) rfl rfl) pd_lLjavalangStringrV rfl rfl rfl rfl rfl (fun _ q => q) fun v2 h2 q2 l2 => ?_
  obtain ⟨rfl, q⟩ := q2
  refine g_return dj60_2_5 rfl rfl rfl (⟨rfl, q⟩)
end Ise
/-! putSuffix: the suffix's chars laid into an array, one by one -/
section Put
variable {X : Cx} {l : Launch} {R : Room} {Z : State} {a0 : Array Value} {EL : List (String × Nat)} {nw : Bool} {h : Heap} {z : Int32}
abbrev suf : List Int32 := [58, 32, 116, 104, 101, 32, 100, 101, 102, 105, 110, 105, 116, 105, 111, 110, 115, 32, 97, 114, 101, 32, 102, 105, 120, 101, 100, 32, 111, 110, 99, 101, 32, 116, 104, 101, 32, 102, 97, 99, 116, 111, 114, 121, 32, 112, 111, 115, 116, 45, 112, 114, 111, 99, 101, 115, 115, 111, 114, 115, 32, 104, 97, 118, 101, 32, 114, 117, 110]
theorem suf255 : ∀ c ∈ suf, ¬ c < 0 ∧ ¬ (255 : Int32) < c := by decide
theorem suf8 : ∀ c ∈ suf, ¬ (255 : Int32) < c := fun c q => (suf255 c q).2
theorem sufc {j : Nat} (hj : j < 69) : nar .char (suf.getD j 0) = suf.getD j 0 := by
  have : suf.getD j 0 ∈ suf := by
    rw [List.getD_eq_getElem?_getD, List.getElem?_eq_getElem (show j < suf.length from hj)]
    exact List.getElem_mem _
  exact nar8 (suf255 _ this)
theorem arv_ty {a b : Addr} {k1 k2 : ClassId} {t1 t2 : FieldType} {z1 z2 : Int32} {v1 v2 : List Value} {d1 d2 : Value} (A : Arv Z h a k1 t1 z1 v1 d1) (B : Arv Z h b k2 t2 z2 v2 d2) (q : t1 ≠ t2) : a ≠ b := fun e => by
  subst e
  obtain ⟨c1, ⟨q1, ⟨-, ka, q3, co, q4⟩, -⟩, -⟩ := A
  obtain ⟨c2, ⟨r1, ⟨-, kb, r3, cp, r4⟩, -⟩, -⟩ := B
  cases q1.symm.trans r1
  cases q3.symm.trans r3
  rw [q4] at r4
  cases r4
  exact q rfl
theorem str_keepC {b x : Addr} {h' : Heap} {kc : ClassId} {zc : Int32} {vc : List Value} {dc : Value} {nI : Nat} {ds : List Int32} (T : Str Z h x ds) (A : Arv Z h b kc .char zc vc dc) (w : (Jvm.Cond.instantiable "java/lang/String" nI).before a0 Z = true) (K : Keep h h' [b]) : Str Z h' x ds := by
  obtain ⟨E1, t, kb, cd, N2, vs, V, D, A1, r⟩ := T
  have q1 : x ∉ [b] := fun q => by cases List.mem_singleton.mp q; exact E1.neArv A w rfl
  have q2 : t ∉ [b] := fun q => by cases List.mem_singleton.mp q; exact arv_ty A1 A (by decide) rfl
  exact ⟨E1.keep K, t, kb, cd, N2, vs, V.keep K q1, D.keep K q1, A1.keep K q2, r⟩
abbrev putL (pre : List Value) (j : Nat) : List Value := pre ++ (suf.take j).map Value.int ++ List.replicate (69 - j) (.int 0)
theorem put_set {pre : List Value} {j : Nat} (hj : j < 69) : (putL pre j).set (pre.length + j) (.int (suf.getD j 0)) = putL pre (j + 1) := by
  have e1 : (pre ++ (suf.take j).map Value.int).length = pre.length + j := by simp [List.length_take]; omega
  have e2 : List.replicate (69 - j) (Value.int 0) = Value.int 0 :: List.replicate (69 - (j + 1)) (.int 0) := by rw [show 69 - j = (69 - (j + 1)) + 1 by omega]; rfl
  have e3 : (suf.take (j + 1)).map Value.int = (suf.take j).map Value.int ++ [.int (suf.getD j 0)] := by
    rw [List.take_succ_eq_append_getElem (show j < suf.length from hj), List.map_append, List.getD_eq_getElem?_getD, List.getElem?_eq_getElem (show j < suf.length from hj)]
    rfl
  unfold putL
  rw [e2, ← e1, List.set_append_right _ _ (Nat.le_refl _), Nat.sub_self, List.set_cons_zero, e3]
  simp
theorem put_len {pre : List Value} {j : Nat} (hj : j ≤ 69) : (putL pre j).length = pre.length + 69 := by
  have : suf.length = 69 := rfl
  simp only [putL, List.length_append, List.length_map, List.length_take, List.length_replicate, this]; omega
/-- where the walk of putSuffix stands, j chars laid -/
def PutI (Z : State) (h0 h : Heap) (arr x : Addr) (kc : ClassId) (pre : List Value) (j : Nat) : Prop :=
  Ext Z.heap h ∧ Keep h0 h [arr] ∧ Str Z h x suf ∧ Arv Z h arr kc .char (Int32.ofNat (69 + pre.length)) (putL pre j) (.int 0) ∧ Z.heap.size ≤ arr ∧ pre.length ≤ 3
theorem g_put {y : MethodName} {bs : ByteArray} {ml : Nat} {rt : Option FieldType} {Q : Option Value → Heap → Prop} {kc ks k n pc pc' : Nat} {sf : List Addr} {Ls : Array Slot} {st : List Value} {h0 : Heap} {arr x : Addr} {kC : ClassId} {pre : List Value} {j nI : Nat} (w : (Jvm.Cond.instantiable "java/lang/String" nI).before a0 Z = true) (hj : j < 69) (hd : decode bs pc = .ok (.castore, 1)) (hp : pc + 1 = pc') (I : PutI Z h0 h arr x kC pre j) (G : ∀ h', PutI Z h0 h' arr x kC pre (j + 1) → Go X R Z a0 EL nw y bs ml rt Q kc ks sf h' k n (mkF X.m pc' Ls st)) : Go X R Z a0 EL nw y bs ml rt Q kc ks sf h k n (mkF X.m pc Ls (.int (suf.getD j 0) :: .int (Int32.ofNat (pre.length + j)) :: .ref arr :: st)) := by
  obtain ⟨I1, I2, I3, I4, I5, I6⟩ := I
  refine g_castoreX (pc' := pc') (i := pre.length + j) hd hp (sufc hj) I4 I5 ⟨ofNat_nn (by omega), (ofNat_lt (by omega) (by omega)).mpr (by omega)⟩ (ofNat_clamp (by omega)) (by rw [put_len (by omega)]; omega) fun h' K A => G h' ?_
  rw [put_set hj] at A
  exact ⟨ext_keep I1 K (allS I5 all0), I2.trans K (fun y hy => Or.inl hy), str_keepC I3 I4 w K, A, I5, I6⟩
abbrev yPut : MethodName := ⟨"wirefold/DefinitionsFixedPinLaw", "putSuffix", "([CI)V"⟩
theorem met_put (hw : ∀ d ∈ tables_1, d.before a0 Z = true) (S : Sta Z Z.heap "java/lang/String" "COMPACT_STRINGS" "Z" (.int z)) (hz : ¬ z = 0) {fm : Value} (F : Sta Z Z.heap "jdk/internal/util/Preconditions" "SIOOBE_FORMATTER" "Ljava/util/function/BiFunction;" fm) (rf : fm.isRef = true) (EZ : Ext Z.heap h) {arr : Addr} {kC : ClassId} {pre : List Value} {q : Nat} (hq : pre.length = q) (hp3 : q ≤ 3) (ha : Z.heap.size ≤ arr) (A : Arv Z h arr kC .char (Int32.ofNat (69 + q)) (pre ++ List.replicate 69 (.int 0)) (.int 0)) : MetW [] l yPut method_3_code 3 none (Rm 5 2 280 90) #[.ref arr, .int (Int32.ofNat q)] Z a0 consts_1 false [] h (fun v h' => v = none ∧ Keep h h' [arr] ∧ Arv Z h' arr kC .char (Int32.ofNat (69 + q)) (pre ++ suf.map Value.int) (.int 0)) := by
  subst hq
  refine MetW.of (by first | exact plainFor_of_name (by first | (simp [plainName, overriddenIn]; done) | decide +kernel) | decide +kernel) fun X hX => Go.old fun EZ => ?_
  show Go X _ _ _ _ _ _ _ _ _ _ _ _ _ _ _ _ (mkF X.m 0 #[.val (.ref arr), .val (.int (Int32.ofNat pre.length)), .unset] [])
  refine g_lit (pc' := 2) rfl [58, 32, 116, 104, 101, 32, 100, 101, 102, 105, 110, 105, 116, 105, 111, 110, 115, 32, 97, 114, 101, 32, 102, 105, 120, 101, 100, 32, 111, 110, 99, 101, 32, 116, 104, 101, 32, 102, 97, 99, 116, 111, 114, 121, 32, 112, 111, 115, 116, 45, 112, 114, 111, 99, 101, 115, 115, 111, 114, 115, 32, 104, 97, 118, 101, 32, 114, 117, 110] 276 dm3_0 rfl (wt_DefinitionsFixedPinLaw_38 hw) (own_atoms hw) (by decide) ⟨by decide, by decide⟩ (by decide) (by decide) (by decide) rfl rfl rfl rfl rfl fun h0 a0 E0 T0 n0 => ?_
  refine g_astoreN (pc' := 3) (Ls' := #[_, _, _]) dm3_2 rfl rfl rfl ?_
  have I : PutI Z h h0 arr a0 kC pre 0 := ⟨ext_trans EZ E0, (Keep.refl h _).ext E0, T0, by have := A.ext E0; simpa [putL] using this, ha, hp3⟩
  refine g_aloadN (pc' := 4) dm3_3 rfl rfl rfl ?_
  refine g_iloadN (pc' := 5) dm3_4 rfl rfl ?_
  refine g_aloadN (pc' := 6) dm3_5 rfl rfl rfl ?_
  refine g_iconst (pc' := 7) (w := 0) dm3_6 rfl (by decide) ?_
  refine g_invokevirtualN (pc' := 10) [] [_] dm3_7 rfl (wl_DefinitionsFixedPinLaw_40 hw) (wd_String_charAt_lIrC hw) (wv_String_String_charAt_lIrC hw) (wm_String_charAt_lIrC hw) (by decide) (NF.sel (wv_String_String_charAt_lIrC hw)) (I.2.2.1.exa) (pay_ch (own_ch hw) (wn_String hw) S hz F rf I.1 I.2.2.1 suf8 (i := 0) (by decide) rfl rfl rfl) pd_lIrC rfl rfl rfl rfl rfl (fun _ q => nomatch q) fun v7 h7 q7 l7 => ?_
  obtain ⟨rfl, e7⟩ := q7
  have e7 := e7.symm
  subst e7
  refine g_put (pc' := 11) (j := 0) (wn_String hw) (by decide) dm3_10 rfl I fun h10 I10 => ?_
  refine g_aloadN (pc' := 12) dm3_11 rfl rfl rfl ?_
  refine g_iloadN (pc' := 13) dm3_12 rfl rfl ?_
  refine g_iconst (pc' := 14) (w := 1) dm3_13 rfl (by decide) ?_
  refine g_iadd (pc' := 15) dm3_14 rfl ?_
  rw [show Int32.ofNat pre.length + 1 = Int32.ofNat (pre.length + 1) from ofNat_add2 _ 1]
  refine g_aloadN (pc' := 16) dm3_15 rfl rfl rfl ?_
  refine g_iconst (pc' := 17) (w := 1) dm3_16 rfl (by decide) ?_
  refine g_invokevirtualN (pc' := 20) [] [_] dm3_17 rfl (wl_DefinitionsFixedPinLaw_40 hw) (wd_String_charAt_lIrC hw) (wv_String_String_charAt_lIrC hw) (wm_String_charAt_lIrC hw) (by decide) (NF.sel (wv_String_String_charAt_lIrC hw)) (I10.2.2.1.exa) (pay_ch (own_ch hw) (wn_String hw) S hz F rf I10.1 I10.2.2.1 suf8 (i := 1) (by decide) rfl rfl rfl) pd_lIrC rfl rfl rfl rfl rfl (fun _ q => nomatch q) fun v17 h17 q17 l17 => ?_
  obtain ⟨rfl, e17⟩ := q17
  have e17 := e17.symm
  subst e17
  refine g_put (pc' := 21) (j := 1) (wn_String hw) (by decide) dm3_20 rfl I10 fun h20 I20 => ?_
  refine g_aloadN (pc' := 22) dm3_21 rfl rfl rfl ?_
  refine g_iloadN (pc' := 23) dm3_22 rfl rfl ?_
  refine g_iconst (pc' := 24) (w := 2) dm3_23 rfl (by decide) ?_
  refine g_iadd (pc' := 25) dm3_24 rfl ?_
  rw [show Int32.ofNat pre.length + 2 = Int32.ofNat (pre.length + 2) from ofNat_add2 _ 2]
  refine g_aloadN (pc' := 26) dm3_25 rfl rfl rfl ?_
  refine g_iconst (pc' := 27) (w := 2) dm3_26 rfl (by decide) ?_
  refine g_invokevirtualN (pc' := 30) [] [_] dm3_27 rfl (wl_DefinitionsFixedPinLaw_40 hw) (wd_String_charAt_lIrC hw) (wv_String_String_charAt_lIrC hw) (wm_String_charAt_lIrC hw) (by decide) (NF.sel (wv_String_String_charAt_lIrC hw)) (I20.2.2.1.exa) (pay_ch (own_ch hw) (wn_String hw) S hz F rf I20.1 I20.2.2.1 suf8 (i := 2) (by decide) rfl rfl rfl) pd_lIrC rfl rfl rfl rfl rfl (fun _ q => nomatch q) fun v27 h27 q27 l27 => ?_
  obtain ⟨rfl, e27⟩ := q27
  have e27 := e27.symm
  subst e27
  refine g_put (pc' := 31) (j := 2) (wn_String hw) (by decide) dm3_30 rfl I20 fun h30 I30 => ?_
  refine g_aloadN (pc' := 32) dm3_31 rfl rfl rfl ?_
  refine g_iloadN (pc' := 33) dm3_32 rfl rfl ?_
  refine g_iconst (pc' := 34) (w := 3) dm3_33 rfl (by decide) ?_
  refine g_iadd (pc' := 35) dm3_34 rfl ?_
  rw [show Int32.ofNat pre.length + 3 = Int32.ofNat (pre.length + 3) from ofNat_add2 _ 3]
  refine g_aloadN (pc' := 36) dm3_35 rfl rfl rfl ?_
  refine g_iconst (pc' := 37) (w := 3) dm3_36 rfl (by decide) ?_
  refine g_invokevirtualN (pc' := 40) [] [_] dm3_37 rfl (wl_DefinitionsFixedPinLaw_40 hw) (wd_String_charAt_lIrC hw) (wv_String_String_charAt_lIrC hw) (wm_String_charAt_lIrC hw) (by decide) (NF.sel (wv_String_String_charAt_lIrC hw)) (I30.2.2.1.exa) (pay_ch (own_ch hw) (wn_String hw) S hz F rf I30.1 I30.2.2.1 suf8 (i := 3) (by decide) rfl rfl rfl) pd_lIrC rfl rfl rfl rfl rfl (fun _ q => nomatch q) fun v37 h37 q37 l37 => ?_
  obtain ⟨rfl, e37⟩ := q37
  have e37 := e37.symm
  subst e37
  refine g_put (pc' := 41) (j := 3) (wn_String hw) (by decide) dm3_40 rfl I30 fun h40 I40 => ?_
  refine g_aloadN (pc' := 42) dm3_41 rfl rfl rfl ?_
  refine g_iloadN (pc' := 43) dm3_42 rfl rfl ?_
  refine g_iconst (pc' := 44) (w := 4) dm3_43 rfl (by decide) ?_
  refine g_iadd (pc' := 45) dm3_44 rfl ?_
  rw [show Int32.ofNat pre.length + 4 = Int32.ofNat (pre.length + 4) from ofNat_add2 _ 4]
  refine g_aloadN (pc' := 46) dm3_45 rfl rfl rfl ?_
  refine g_iconst (pc' := 47) (w := 4) dm3_46 rfl (by decide) ?_
  refine g_invokevirtualN (pc' := 50) [] [_] dm3_47 rfl (wl_DefinitionsFixedPinLaw_40 hw) (wd_String_charAt_lIrC hw) (wv_String_String_charAt_lIrC hw) (wm_String_charAt_lIrC hw) (by decide) (NF.sel (wv_String_String_charAt_lIrC hw)) (I40.2.2.1.exa) (pay_ch (own_ch hw) (wn_String hw) S hz F rf I40.1 I40.2.2.1 suf8 (i := 4) (by decide) rfl rfl rfl) pd_lIrC rfl rfl rfl rfl rfl (fun _ q => nomatch q) fun v47 h47 q47 l47 => ?_
  obtain ⟨rfl, e47⟩ := q47
  have e47 := e47.symm
  subst e47
  refine g_put (pc' := 51) (j := 4) (wn_String hw) (by decide) dm3_50 rfl I40 fun h50 I50 => ?_
  refine g_aloadN (pc' := 52) dm3_51 rfl rfl rfl ?_
  refine g_iloadN (pc' := 53) dm3_52 rfl rfl ?_
  refine g_iconst (pc' := 54) (w := 5) dm3_53 rfl (by decide) ?_
  refine g_iadd (pc' := 55) dm3_54 rfl ?_
  rw [show Int32.ofNat pre.length + 5 = Int32.ofNat (pre.length + 5) from ofNat_add2 _ 5]
  refine g_aloadN (pc' := 56) dm3_55 rfl rfl rfl ?_
  refine g_iconst (pc' := 57) (w := 5) dm3_56 rfl (by decide) ?_
  refine g_invokevirtualN (pc' := 60) [] [_] dm3_57 rfl (wl_DefinitionsFixedPinLaw_40 hw) (wd_String_charAt_lIrC hw) (wv_String_String_charAt_lIrC hw) (wm_String_charAt_lIrC hw) (by decide) (NF.sel (wv_String_String_charAt_lIrC hw)) (I50.2.2.1.exa) (pay_ch (own_ch hw) (wn_String hw) S hz F rf I50.1 I50.2.2.1 suf8 (i := 5) (by decide) rfl rfl rfl) pd_lIrC rfl rfl rfl rfl rfl (fun _ q => nomatch q) fun v57 h57 q57 l57 => ?_
  obtain ⟨rfl, e57⟩ := q57
  have e57 := e57.symm
  subst e57
  refine g_put (pc' := 61) (j := 5) (wn_String hw) (by decide) dm3_60 rfl I50 fun h60 I60 => ?_
  refine g_aloadN (pc' := 62) dm3_61 rfl rfl rfl ?_
  refine g_iloadN (pc' := 63) dm3_62 rfl rfl ?_
  refine g_bipush (pc' := 65) (w := 6) dm3_63 rfl (by decide) ?_
  refine g_iadd (pc' := 66) dm3_65 rfl ?_
  rw [show Int32.ofNat pre.length + 6 = Int32.ofNat (pre.length + 6) from ofNat_add2 _ 6]
  refine g_aloadN (pc' := 67) dm3_66 rfl rfl rfl ?_
  refine g_bipush (pc' := 69) (w := 6) dm3_67 rfl (by decide) ?_
  refine g_invokevirtualN (pc' := 72) [] [_] dm3_69 rfl (wl_DefinitionsFixedPinLaw_40 hw) (wd_String_charAt_lIrC hw) (wv_String_String_charAt_lIrC hw) (wm_String_charAt_lIrC hw) (by decide) (NF.sel (wv_String_String_charAt_lIrC hw)) (I60.2.2.1.exa) (pay_ch (own_ch hw) (wn_String hw) S hz F rf I60.1 I60.2.2.1 suf8 (i := 6) (by decide) rfl rfl rfl) pd_lIrC rfl rfl rfl rfl rfl (fun _ q => nomatch q) fun v69 h69 q69 l69 => ?_
  obtain ⟨rfl, e69⟩ := q69
  have e69 := e69.symm
  subst e69
  refine g_put (pc' := 73) (j := 6) (wn_String hw) (by decide) dm3_72 rfl I60 fun h72 I72 => ?_
  refine g_aloadN (pc' := 74) dm3_73 rfl rfl rfl ?_
  refine g_iloadN (pc' := 75) dm3_74 rfl rfl ?_
  refine g_bipush (pc' := 77) (w := 7) dm3_75 rfl (by decide) ?_
  refine g_iadd (pc' := 78) dm3_77 rfl ?_
  rw [show Int32.ofNat pre.length + 7 = Int32.ofNat (pre.length + 7) from ofNat_add2 _ 7]
  refine g_aloadN (pc' := 79) dm3_78 rfl rfl rfl ?_
  refine g_bipush (pc' := 81) (w := 7) dm3_79 rfl (by decide) ?_
  refine g_invokevirtualN (pc' := 84) [] [_] dm3_81 rfl (wl_DefinitionsFixedPinLaw_40 hw) (wd_String_charAt_lIrC hw) (wv_String_String_charAt_lIrC hw) (wm_String_charAt_lIrC hw) (by decide) (NF.sel (wv_String_String_charAt_lIrC hw)) (I72.2.2.1.exa) (pay_ch (own_ch hw) (wn_String hw) S hz F rf I72.1 I72.2.2.1 suf8 (i := 7) (by decide) rfl rfl rfl) pd_lIrC rfl rfl rfl rfl rfl (fun _ q => nomatch q) fun v81 h81 q81 l81 => ?_
  obtain ⟨rfl, e81⟩ := q81
  have e81 := e81.symm
  subst e81
  refine g_put (pc' := 85) (j := 7) (wn_String hw) (by decide) dm3_84 rfl I72 fun h84 I84 => ?_
  refine g_aloadN (pc' := 86) dm3_85 rfl rfl rfl ?_
  refine g_iloadN (pc' := 87) dm3_86 rfl rfl ?_
  refine g_bipush (pc' := 89) (w := 8) dm3_87 rfl (by decide) ?_
  refine g_iadd (pc' := 90) dm3_89 rfl ?_
  rw [show Int32.ofNat pre.length + 8 = Int32.ofNat (pre.length + 8) from ofNat_add2 _ 8]
  refine g_aloadN (pc' := 91) dm3_90 rfl rfl rfl ?_
  refine g_bipush (pc' := 93) (w := 8) dm3_91 rfl (by decide) ?_
  refine g_invokevirtualN (pc' := 96) [] [_] dm3_93 rfl (wl_DefinitionsFixedPinLaw_40 hw) (wd_String_charAt_lIrC hw) (wv_String_String_charAt_lIrC hw) (wm_String_charAt_lIrC hw) (by decide) (NF.sel (wv_String_String_charAt_lIrC hw)) (I84.2.2.1.exa) (pay_ch (own_ch hw) (wn_String hw) S hz F rf I84.1 I84.2.2.1 suf8 (i := 8) (by decide) rfl rfl rfl) pd_lIrC rfl rfl rfl rfl rfl (fun _ q => nomatch q) fun v93 h93 q93 l93 => ?_
  obtain ⟨rfl, e93⟩ := q93
  have e93 := e93.symm
  subst e93
  refine g_put (pc' := 97) (j := 8) (wn_String hw) (by decide) dm3_96 rfl I84 fun h96 I96 => ?_
  refine g_aloadN (pc' := 98) dm3_97 rfl rfl rfl ?_
  refine g_iloadN (pc' := 99) dm3_98 rfl rfl ?_
  refine g_bipush (pc' := 101) (w := 9) dm3_99 rfl (by decide) ?_
  refine g_iadd (pc' := 102) dm3_101 rfl ?_
  rw [show Int32.ofNat pre.length + 9 = Int32.ofNat (pre.length + 9) from ofNat_add2 _ 9]
  refine g_aloadN (pc' := 103) dm3_102 rfl rfl rfl ?_
  refine g_bipush (pc' := 105) (w := 9) dm3_103 rfl (by decide) ?_
  refine g_invokevirtualN (pc' := 108) [] [_] dm3_105 rfl (wl_DefinitionsFixedPinLaw_40 hw) (wd_String_charAt_lIrC hw) (wv_String_String_charAt_lIrC hw) (wm_String_charAt_lIrC hw) (by decide) (NF.sel (wv_String_String_charAt_lIrC hw)) (I96.2.2.1.exa) (pay_ch (own_ch hw) (wn_String hw) S hz F rf I96.1 I96.2.2.1 suf8 (i := 9) (by decide) rfl rfl rfl) pd_lIrC rfl rfl rfl rfl rfl (fun _ q => nomatch q) fun v105 h105 q105 l105 => ?_
  obtain ⟨rfl, e105⟩ := q105
  have e105 := e105.symm
  subst e105
  refine g_put (pc' := 109) (j := 9) (wn_String hw) (by decide) dm3_108 rfl I96 fun h108 I108 => ?_
  refine g_aloadN (pc' := 110) dm3_109 rfl rfl rfl ?_
  refine g_iloadN (pc' := 111) dm3_110 rfl rfl ?_
  refine g_bipush (pc' := 113) (w := 10) dm3_111 rfl (by decide) ?_
  refine g_iadd (pc' := 114) dm3_113 rfl ?_
  rw [show Int32.ofNat pre.length + 10 = Int32.ofNat (pre.length + 10) from ofNat_add2 _ 10]
  refine g_aloadN (pc' := 115) dm3_114 rfl rfl rfl ?_
  refine g_bipush (pc' := 117) (w := 10) dm3_115 rfl (by decide) ?_
  refine g_invokevirtualN (pc' := 120) [] [_] dm3_117 rfl (wl_DefinitionsFixedPinLaw_40 hw) (wd_String_charAt_lIrC hw) (wv_String_String_charAt_lIrC hw) (wm_String_charAt_lIrC hw) (by decide) (NF.sel (wv_String_String_charAt_lIrC hw)) (I108.2.2.1.exa) (pay_ch (own_ch hw) (wn_String hw) S hz F rf I108.1 I108.2.2.1 suf8 (i := 10) (by decide) rfl rfl rfl) pd_lIrC rfl rfl rfl rfl rfl (fun _ q => nomatch q) fun v117 h117 q117 l117 => ?_
  obtain ⟨rfl, e117⟩ := q117
  have e117 := e117.symm
  subst e117
  refine g_put (pc' := 121) (j := 10) (wn_String hw) (by decide) dm3_120 rfl I108 fun h120 I120 => ?_
  refine g_aloadN (pc' := 122) dm3_121 rfl rfl rfl ?_
  refine g_iloadN (pc' := 123) dm3_122 rfl rfl ?_
  refine g_bipush (pc' := 125) (w := 11) dm3_123 rfl (by decide) ?_
  refine g_iadd (pc' := 126) dm3_125 rfl ?_
  rw [show Int32.ofNat pre.length + 11 = Int32.ofNat (pre.length + 11) from ofNat_add2 _ 11]
  refine g_aloadN (pc' := 127) dm3_126 rfl rfl rfl ?_
  refine g_bipush (pc' := 129) (w := 11) dm3_127 rfl (by decide) ?_
  refine g_invokevirtualN (pc' := 132) [] [_] dm3_129 rfl (wl_DefinitionsFixedPinLaw_40 hw) (wd_String_charAt_lIrC hw) (wv_String_String_charAt_lIrC hw) (wm_String_charAt_lIrC hw) (by decide) (NF.sel (wv_String_String_charAt_lIrC hw)) (I120.2.2.1.exa) (pay_ch (own_ch hw) (wn_String hw) S hz F rf I120.1 I120.2.2.1 suf8 (i := 11) (by decide) rfl rfl rfl) pd_lIrC rfl rfl rfl rfl rfl (fun _ q => nomatch q) fun v129 h129 q129 l129 => ?_
  obtain ⟨rfl, e129⟩ := q129
  have e129 := e129.symm
  subst e129
  refine g_put (pc' := 133) (j := 11) (wn_String hw) (by decide) dm3_132 rfl I120 fun h132 I132 => ?_
  refine g_aloadN (pc' := 134) dm3_133 rfl rfl rfl ?_
  refine g_iloadN (pc' := 135) dm3_134 rfl rfl ?_
  refine g_bipush (pc' := 137) (w := 12) dm3_135 rfl (by decide) ?_
  refine g_iadd (pc' := 138) dm3_137 rfl ?_
  rw [show Int32.ofNat pre.length + 12 = Int32.ofNat (pre.length + 12) from ofNat_add2 _ 12]
  refine g_aloadN (pc' := 139) dm3_138 rfl rfl rfl ?_
  refine g_bipush (pc' := 141) (w := 12) dm3_139 rfl (by decide) ?_
  refine g_invokevirtualN (pc' := 144) [] [_] dm3_141 rfl (wl_DefinitionsFixedPinLaw_40 hw) (wd_String_charAt_lIrC hw) (wv_String_String_charAt_lIrC hw) (wm_String_charAt_lIrC hw) (by decide) (NF.sel (wv_String_String_charAt_lIrC hw)) (I132.2.2.1.exa) (pay_ch (own_ch hw) (wn_String hw) S hz F rf I132.1 I132.2.2.1 suf8 (i := 12) (by decide) rfl rfl rfl) pd_lIrC rfl rfl rfl rfl rfl (fun _ q => nomatch q) fun v141 h141 q141 l141 => ?_
  obtain ⟨rfl, e141⟩ := q141
  have e141 := e141.symm
  subst e141
  refine g_put (pc' := 145) (j := 12) (wn_String hw) (by decide) dm3_144 rfl I132 fun h144 I144 => ?_
  refine g_aloadN (pc' := 146) dm3_145 rfl rfl rfl ?_
  refine g_iloadN (pc' := 147) dm3_146 rfl rfl ?_
  refine g_bipush (pc' := 149) (w := 13) dm3_147 rfl (by decide) ?_
  refine g_iadd (pc' := 150) dm3_149 rfl ?_
  rw [show Int32.ofNat pre.length + 13 = Int32.ofNat (pre.length + 13) from ofNat_add2 _ 13]
  refine g_aloadN (pc' := 151) dm3_150 rfl rfl rfl ?_
  refine g_bipush (pc' := 153) (w := 13) dm3_151 rfl (by decide) ?_
  refine g_invokevirtualN (pc' := 156) [] [_] dm3_153 rfl (wl_DefinitionsFixedPinLaw_40 hw) (wd_String_charAt_lIrC hw) (wv_String_String_charAt_lIrC hw) (wm_String_charAt_lIrC hw) (by decide) (NF.sel (wv_String_String_charAt_lIrC hw)) (I144.2.2.1.exa) (pay_ch (own_ch hw) (wn_String hw) S hz F rf I144.1 I144.2.2.1 suf8 (i := 13) (by decide) rfl rfl rfl) pd_lIrC rfl rfl rfl rfl rfl (fun _ q => nomatch q) fun v153 h153 q153 l153 => ?_
  obtain ⟨rfl, e153⟩ := q153
  have e153 := e153.symm
  subst e153
  refine g_put (pc' := 157) (j := 13) (wn_String hw) (by decide) dm3_156 rfl I144 fun h156 I156 => ?_
  refine g_aloadN (pc' := 158) dm3_157 rfl rfl rfl ?_
  refine g_iloadN (pc' := 159) dm3_158 rfl rfl ?_
  refine g_bipush (pc' := 161) (w := 14) dm3_159 rfl (by decide) ?_
  refine g_iadd (pc' := 162) dm3_161 rfl ?_
  rw [show Int32.ofNat pre.length + 14 = Int32.ofNat (pre.length + 14) from ofNat_add2 _ 14]
  refine g_aloadN (pc' := 163) dm3_162 rfl rfl rfl ?_
  refine g_bipush (pc' := 165) (w := 14) dm3_163 rfl (by decide) ?_
  refine g_invokevirtualN (pc' := 168) [] [_] dm3_165 rfl (wl_DefinitionsFixedPinLaw_40 hw) (wd_String_charAt_lIrC hw) (wv_String_String_charAt_lIrC hw) (wm_String_charAt_lIrC hw) (by decide) (NF.sel (wv_String_String_charAt_lIrC hw)) (I156.2.2.1.exa) (pay_ch (own_ch hw) (wn_String hw) S hz F rf I156.1 I156.2.2.1 suf8 (i := 14) (by decide) rfl rfl rfl) pd_lIrC rfl rfl rfl rfl rfl (fun _ q => nomatch q) fun v165 h165 q165 l165 => ?_
  obtain ⟨rfl, e165⟩ := q165
  have e165 := e165.symm
  subst e165
  refine g_put (pc' := 169) (j := 14) (wn_String hw) (by decide) dm3_168 rfl I156 fun h168 I168 => ?_
  refine g_aloadN (pc' := 170) dm3_169 rfl rfl rfl ?_
  refine g_iloadN (pc' := 171) dm3_170 rfl rfl ?_
  refine g_bipush (pc' := 173) (w := 15) dm3_171 rfl (by decide) ?_
  refine g_iadd (pc' := 174) dm3_173 rfl ?_
  rw [show Int32.ofNat pre.length + 15 = Int32.ofNat (pre.length + 15) from ofNat_add2 _ 15]
  refine g_aloadN (pc' := 175) dm3_174 rfl rfl rfl ?_
  refine g_bipush (pc' := 177) (w := 15) dm3_175 rfl (by decide) ?_
  refine g_invokevirtualN (pc' := 180) [] [_] dm3_177 rfl (wl_DefinitionsFixedPinLaw_40 hw) (wd_String_charAt_lIrC hw) (wv_String_String_charAt_lIrC hw) (wm_String_charAt_lIrC hw) (by decide) (NF.sel (wv_String_String_charAt_lIrC hw)) (I168.2.2.1.exa) (pay_ch (own_ch hw) (wn_String hw) S hz F rf I168.1 I168.2.2.1 suf8 (i := 15) (by decide) rfl rfl rfl) pd_lIrC rfl rfl rfl rfl rfl (fun _ q => nomatch q) fun v177 h177 q177 l177 => ?_
  obtain ⟨rfl, e177⟩ := q177
  have e177 := e177.symm
  subst e177
  refine g_put (pc' := 181) (j := 15) (wn_String hw) (by decide) dm3_180 rfl I168 fun h180 I180 => ?_
  refine g_aloadN (pc' := 182) dm3_181 rfl rfl rfl ?_
  refine g_iloadN (pc' := 183) dm3_182 rfl rfl ?_
  refine g_bipush (pc' := 185) (w := 16) dm3_183 rfl (by decide) ?_
  refine g_iadd (pc' := 186) dm3_185 rfl ?_
  rw [show Int32.ofNat pre.length + 16 = Int32.ofNat (pre.length + 16) from ofNat_add2 _ 16]
  refine g_aloadN (pc' := 187) dm3_186 rfl rfl rfl ?_
  refine g_bipush (pc' := 189) (w := 16) dm3_187 rfl (by decide) ?_
  refine g_invokevirtualN (pc' := 192) [] [_] dm3_189 rfl (wl_DefinitionsFixedPinLaw_40 hw) (wd_String_charAt_lIrC hw) (wv_String_String_charAt_lIrC hw) (wm_String_charAt_lIrC hw) (by decide) (NF.sel (wv_String_String_charAt_lIrC hw)) (I180.2.2.1.exa) (pay_ch (own_ch hw) (wn_String hw) S hz F rf I180.1 I180.2.2.1 suf8 (i := 16) (by decide) rfl rfl rfl) pd_lIrC rfl rfl rfl rfl rfl (fun _ q => nomatch q) fun v189 h189 q189 l189 => ?_
  obtain ⟨rfl, e189⟩ := q189
  have e189 := e189.symm
  subst e189
  refine g_put (pc' := 193) (j := 16) (wn_String hw) (by decide) dm3_192 rfl I180 fun h192 I192 => ?_
  refine g_aloadN (pc' := 194) dm3_193 rfl rfl rfl ?_
  refine g_iloadN (pc' := 195) dm3_194 rfl rfl ?_
  refine g_bipush (pc' := 197) (w := 17) dm3_195 rfl (by decide) ?_
  refine g_iadd (pc' := 198) dm3_197 rfl ?_
  rw [show Int32.ofNat pre.length + 17 = Int32.ofNat (pre.length + 17) from ofNat_add2 _ 17]
  refine g_aloadN (pc' := 199) dm3_198 rfl rfl rfl ?_
  refine g_bipush (pc' := 201) (w := 17) dm3_199 rfl (by decide) ?_
  refine g_invokevirtualN (pc' := 204) [] [_] dm3_201 rfl (wl_DefinitionsFixedPinLaw_40 hw) (wd_String_charAt_lIrC hw) (wv_String_String_charAt_lIrC hw) (wm_String_charAt_lIrC hw) (by decide) (NF.sel (wv_String_String_charAt_lIrC hw)) (I192.2.2.1.exa) (pay_ch (own_ch hw) (wn_String hw) S hz F rf I192.1 I192.2.2.1 suf8 (i := 17) (by decide) rfl rfl rfl) pd_lIrC rfl rfl rfl rfl rfl (fun _ q => nomatch q) fun v201 h201 q201 l201 => ?_
  obtain ⟨rfl, e201⟩ := q201
  have e201 := e201.symm
  subst e201
  refine g_put (pc' := 205) (j := 17) (wn_String hw) (by decide) dm3_204 rfl I192 fun h204 I204 => ?_
  refine g_aloadN (pc' := 206) dm3_205 rfl rfl rfl ?_
  refine g_iloadN (pc' := 207) dm3_206 rfl rfl ?_
  refine g_bipush (pc' := 209) (w := 18) dm3_207 rfl (by decide) ?_
  refine g_iadd (pc' := 210) dm3_209 rfl ?_
  rw [show Int32.ofNat pre.length + 18 = Int32.ofNat (pre.length + 18) from ofNat_add2 _ 18]
  refine g_aloadN (pc' := 211) dm3_210 rfl rfl rfl ?_
  refine g_bipush (pc' := 213) (w := 18) dm3_211 rfl (by decide) ?_
  refine g_invokevirtualN (pc' := 216) [] [_] dm3_213 rfl (wl_DefinitionsFixedPinLaw_40 hw) (wd_String_charAt_lIrC hw) (wv_String_String_charAt_lIrC hw) (wm_String_charAt_lIrC hw) (by decide) (NF.sel (wv_String_String_charAt_lIrC hw)) (I204.2.2.1.exa) (pay_ch (own_ch hw) (wn_String hw) S hz F rf I204.1 I204.2.2.1 suf8 (i := 18) (by decide) rfl rfl rfl) pd_lIrC rfl rfl rfl rfl rfl (fun _ q => nomatch q) fun v213 h213 q213 l213 => ?_
  obtain ⟨rfl, e213⟩ := q213
  have e213 := e213.symm
  subst e213
  refine g_put (pc' := 217) (j := 18) (wn_String hw) (by decide) dm3_216 rfl I204 fun h216 I216 => ?_
  refine g_aloadN (pc' := 218) dm3_217 rfl rfl rfl ?_
  refine g_iloadN (pc' := 219) dm3_218 rfl rfl ?_
  refine g_bipush (pc' := 221) (w := 19) dm3_219 rfl (by decide) ?_
  refine g_iadd (pc' := 222) dm3_221 rfl ?_
  rw [show Int32.ofNat pre.length + 19 = Int32.ofNat (pre.length + 19) from ofNat_add2 _ 19]
  refine g_aloadN (pc' := 223) dm3_222 rfl rfl rfl ?_
  refine g_bipush (pc' := 225) (w := 19) dm3_223 rfl (by decide) ?_
  refine g_invokevirtualN (pc' := 228) [] [_] dm3_225 rfl (wl_DefinitionsFixedPinLaw_40 hw) (wd_String_charAt_lIrC hw) (wv_String_String_charAt_lIrC hw) (wm_String_charAt_lIrC hw) (by decide) (NF.sel (wv_String_String_charAt_lIrC hw)) (I216.2.2.1.exa) (pay_ch (own_ch hw) (wn_String hw) S hz F rf I216.1 I216.2.2.1 suf8 (i := 19) (by decide) rfl rfl rfl) pd_lIrC rfl rfl rfl rfl rfl (fun _ q => nomatch q) fun v225 h225 q225 l225 => ?_
  obtain ⟨rfl, e225⟩ := q225
  have e225 := e225.symm
  subst e225
  refine g_put (pc' := 229) (j := 19) (wn_String hw) (by decide) dm3_228 rfl I216 fun h228 I228 => ?_
  refine g_aloadN (pc' := 230) dm3_229 rfl rfl rfl ?_
  refine g_iloadN (pc' := 231) dm3_230 rfl rfl ?_
  refine g_bipush (pc' := 233) (w := 20) dm3_231 rfl (by decide) ?_
  refine g_iadd (pc' := 234) dm3_233 rfl ?_
  rw [show Int32.ofNat pre.length + 20 = Int32.ofNat (pre.length + 20) from ofNat_add2 _ 20]
  refine g_aloadN (pc' := 235) dm3_234 rfl rfl rfl ?_
  refine g_bipush (pc' := 237) (w := 20) dm3_235 rfl (by decide) ?_
  refine g_invokevirtualN (pc' := 240) [] [_] dm3_237 rfl (wl_DefinitionsFixedPinLaw_40 hw) (wd_String_charAt_lIrC hw) (wv_String_String_charAt_lIrC hw) (wm_String_charAt_lIrC hw) (by decide) (NF.sel (wv_String_String_charAt_lIrC hw)) (I228.2.2.1.exa) (pay_ch (own_ch hw) (wn_String hw) S hz F rf I228.1 I228.2.2.1 suf8 (i := 20) (by decide) rfl rfl rfl) pd_lIrC rfl rfl rfl rfl rfl (fun _ q => nomatch q) fun v237 h237 q237 l237 => ?_
  obtain ⟨rfl, e237⟩ := q237
  have e237 := e237.symm
  subst e237
  refine g_put (pc' := 241) (j := 20) (wn_String hw) (by decide) dm3_240 rfl I228 fun h240 I240 => ?_
  refine g_aloadN (pc' := 242) dm3_241 rfl rfl rfl ?_
  refine g_iloadN (pc' := 243) dm3_242 rfl rfl ?_
  refine g_bipush (pc' := 245) (w := 21) dm3_243 rfl (by decide) ?_
  refine g_iadd (pc' := 246) dm3_245 rfl ?_
  rw [show Int32.ofNat pre.length + 21 = Int32.ofNat (pre.length + 21) from ofNat_add2 _ 21]
  refine g_aloadN (pc' := 247) dm3_246 rfl rfl rfl ?_
  refine g_bipush (pc' := 249) (w := 21) dm3_247 rfl (by decide) ?_
  refine g_invokevirtualN (pc' := 252) [] [_] dm3_249 rfl (wl_DefinitionsFixedPinLaw_40 hw) (wd_String_charAt_lIrC hw) (wv_String_String_charAt_lIrC hw) (wm_String_charAt_lIrC hw) (by decide) (NF.sel (wv_String_String_charAt_lIrC hw)) (I240.2.2.1.exa) (pay_ch (own_ch hw) (wn_String hw) S hz F rf I240.1 I240.2.2.1 suf8 (i := 21) (by decide) rfl rfl rfl) pd_lIrC rfl rfl rfl rfl rfl (fun _ q => nomatch q) fun v249 h249 q249 l249 => ?_
  obtain ⟨rfl, e249⟩ := q249
  have e249 := e249.symm
  subst e249
  refine g_put (pc' := 253) (j := 21) (wn_String hw) (by decide) dm3_252 rfl I240 fun h252 I252 => ?_
  refine g_aloadN (pc' := 254) dm3_253 rfl rfl rfl ?_
  refine g_iloadN (pc' := 255) dm3_254 rfl rfl ?_
  refine g_bipush (pc' := 257) (w := 22) dm3_255 rfl (by decide) ?_
  refine g_iadd (pc' := 258) dm3_257 rfl ?_
  rw [show Int32.ofNat pre.length + 22 = Int32.ofNat (pre.length + 22) from ofNat_add2 _ 22]
  refine g_aloadN (pc' := 259) dm3_258 rfl rfl rfl ?_
  refine g_bipush (pc' := 261) (w := 22) dm3_259 rfl (by decide) ?_
  refine g_invokevirtualN (pc' := 264) [] [_] dm3_261 rfl (wl_DefinitionsFixedPinLaw_40 hw) (wd_String_charAt_lIrC hw) (wv_String_String_charAt_lIrC hw) (wm_String_charAt_lIrC hw) (by decide) (NF.sel (wv_String_String_charAt_lIrC hw)) (I252.2.2.1.exa) (pay_ch (own_ch hw) (wn_String hw) S hz F rf I252.1 I252.2.2.1 suf8 (i := 22) (by decide) rfl rfl rfl) pd_lIrC rfl rfl rfl rfl rfl (fun _ q => nomatch q) fun v261 h261 q261 l261 => ?_
  obtain ⟨rfl, e261⟩ := q261
  have e261 := e261.symm
  subst e261
  refine g_put (pc' := 265) (j := 22) (wn_String hw) (by decide) dm3_264 rfl I252 fun h264 I264 => ?_
  refine g_aloadN (pc' := 266) dm3_265 rfl rfl rfl ?_
  refine g_iloadN (pc' := 267) dm3_266 rfl rfl ?_
  refine g_bipush (pc' := 269) (w := 23) dm3_267 rfl (by decide) ?_
  refine g_iadd (pc' := 270) dm3_269 rfl ?_
  rw [show Int32.ofNat pre.length + 23 = Int32.ofNat (pre.length + 23) from ofNat_add2 _ 23]
  refine g_aloadN (pc' := 271) dm3_270 rfl rfl rfl ?_
  refine g_bipush (pc' := 273) (w := 23) dm3_271 rfl (by decide) ?_
  refine g_invokevirtualN (pc' := 276) [] [_] dm3_273 rfl (wl_DefinitionsFixedPinLaw_40 hw) (wd_String_charAt_lIrC hw) (wv_String_String_charAt_lIrC hw) (wm_String_charAt_lIrC hw) (by decide) (NF.sel (wv_String_String_charAt_lIrC hw)) (I264.2.2.1.exa) (pay_ch (own_ch hw) (wn_String hw) S hz F rf I264.1 I264.2.2.1 suf8 (i := 23) (by decide) rfl rfl rfl) pd_lIrC rfl rfl rfl rfl rfl (fun _ q => nomatch q) fun v273 h273 q273 l273 => ?_
  obtain ⟨rfl, e273⟩ := q273
  have e273 := e273.symm
  subst e273
  refine g_put (pc' := 277) (j := 23) (wn_String hw) (by decide) dm3_276 rfl I264 fun h276 I276 => ?_
  refine g_aloadN (pc' := 278) dm3_277 rfl rfl rfl ?_
  refine g_iloadN (pc' := 279) dm3_278 rfl rfl ?_
  refine g_bipush (pc' := 281) (w := 24) dm3_279 rfl (by decide) ?_
  refine g_iadd (pc' := 282) dm3_281 rfl ?_
  rw [show Int32.ofNat pre.length + 24 = Int32.ofNat (pre.length + 24) from ofNat_add2 _ 24]
  refine g_aloadN (pc' := 283) dm3_282 rfl rfl rfl ?_
  refine g_bipush (pc' := 285) (w := 24) dm3_283 rfl (by decide) ?_
  refine g_invokevirtualN (pc' := 288) [] [_] dm3_285 rfl (wl_DefinitionsFixedPinLaw_40 hw) (wd_String_charAt_lIrC hw) (wv_String_String_charAt_lIrC hw) (wm_String_charAt_lIrC hw) (by decide) (NF.sel (wv_String_String_charAt_lIrC hw)) (I276.2.2.1.exa) (pay_ch (own_ch hw) (wn_String hw) S hz F rf I276.1 I276.2.2.1 suf8 (i := 24) (by decide) rfl rfl rfl) pd_lIrC rfl rfl rfl rfl rfl (fun _ q => nomatch q) fun v285 h285 q285 l285 => ?_
  obtain ⟨rfl, e285⟩ := q285
  have e285 := e285.symm
  subst e285
  refine g_put (pc' := 289) (j := 24) (wn_String hw) (by decide) dm3_288 rfl I276 fun h288 I288 => ?_
  refine g_aloadN (pc' := 290) dm3_289 rfl rfl rfl ?_
  refine g_iloadN (pc' := 291) dm3_290 rfl rfl ?_
  refine g_bipush (pc' := 293) (w := 25) dm3_291 rfl (by decide) ?_
  refine g_iadd (pc' := 294) dm3_293 rfl ?_
  rw [show Int32.ofNat pre.length + 25 = Int32.ofNat (pre.length + 25) from ofNat_add2 _ 25]
  refine g_aloadN (pc' := 295) dm3_294 rfl rfl rfl ?_
  refine g_bipush (pc' := 297) (w := 25) dm3_295 rfl (by decide) ?_
  refine g_invokevirtualN (pc' := 300) [] [_] dm3_297 rfl (wl_DefinitionsFixedPinLaw_40 hw) (wd_String_charAt_lIrC hw) (wv_String_String_charAt_lIrC hw) (wm_String_charAt_lIrC hw) (by decide) (NF.sel (wv_String_String_charAt_lIrC hw)) (I288.2.2.1.exa) (pay_ch (own_ch hw) (wn_String hw) S hz F rf I288.1 I288.2.2.1 suf8 (i := 25) (by decide) rfl rfl rfl) pd_lIrC rfl rfl rfl rfl rfl (fun _ q => nomatch q) fun v297 h297 q297 l297 => ?_
  obtain ⟨rfl, e297⟩ := q297
  have e297 := e297.symm
  subst e297
  refine g_put (pc' := 301) (j := 25) (wn_String hw) (by decide) dm3_300 rfl I288 fun h300 I300 => ?_
  refine g_aloadN (pc' := 302) dm3_301 rfl rfl rfl ?_
  refine g_iloadN (pc' := 303) dm3_302 rfl rfl ?_
  refine g_bipush (pc' := 305) (w := 26) dm3_303 rfl (by decide) ?_
  refine g_iadd (pc' := 306) dm3_305 rfl ?_
  rw [show Int32.ofNat pre.length + 26 = Int32.ofNat (pre.length + 26) from ofNat_add2 _ 26]
  refine g_aloadN (pc' := 307) dm3_306 rfl rfl rfl ?_
  refine g_bipush (pc' := 309) (w := 26) dm3_307 rfl (by decide) ?_
  refine g_invokevirtualN (pc' := 312) [] [_] dm3_309 rfl (wl_DefinitionsFixedPinLaw_40 hw) (wd_String_charAt_lIrC hw) (wv_String_String_charAt_lIrC hw) (wm_String_charAt_lIrC hw) (by decide) (NF.sel (wv_String_String_charAt_lIrC hw)) (I300.2.2.1.exa) (pay_ch (own_ch hw) (wn_String hw) S hz F rf I300.1 I300.2.2.1 suf8 (i := 26) (by decide) rfl rfl rfl) pd_lIrC rfl rfl rfl rfl rfl (fun _ q => nomatch q) fun v309 h309 q309 l309 => ?_
  obtain ⟨rfl, e309⟩ := q309
  have e309 := e309.symm
  subst e309
  refine g_put (pc' := 313) (j := 26) (wn_String hw) (by decide) dm3_312 rfl I300 fun h312 I312 => ?_
  refine g_aloadN (pc' := 314) dm3_313 rfl rfl rfl ?_
  refine g_iloadN (pc' := 315) dm3_314 rfl rfl ?_
  refine g_bipush (pc' := 317) (w := 27) dm3_315 rfl (by decide) ?_
  refine g_iadd (pc' := 318) dm3_317 rfl ?_
  rw [show Int32.ofNat pre.length + 27 = Int32.ofNat (pre.length + 27) from ofNat_add2 _ 27]
  refine g_aloadN (pc' := 319) dm3_318 rfl rfl rfl ?_
  refine g_bipush (pc' := 321) (w := 27) dm3_319 rfl (by decide) ?_
  refine g_invokevirtualN (pc' := 324) [] [_] dm3_321 rfl (wl_DefinitionsFixedPinLaw_40 hw) (wd_String_charAt_lIrC hw) (wv_String_String_charAt_lIrC hw) (wm_String_charAt_lIrC hw) (by decide) (NF.sel (wv_String_String_charAt_lIrC hw)) (I312.2.2.1.exa) (pay_ch (own_ch hw) (wn_String hw) S hz F rf I312.1 I312.2.2.1 suf8 (i := 27) (by decide) rfl rfl rfl) pd_lIrC rfl rfl rfl rfl rfl (fun _ q => nomatch q) fun v321 h321 q321 l321 => ?_
  obtain ⟨rfl, e321⟩ := q321
  have e321 := e321.symm
  subst e321
  refine g_put (pc' := 325) (j := 27) (wn_String hw) (by decide) dm3_324 rfl I312 fun h324 I324 => ?_
  refine g_aloadN (pc' := 326) dm3_325 rfl rfl rfl ?_
  refine g_iloadN (pc' := 327) dm3_326 rfl rfl ?_
  refine g_bipush (pc' := 329) (w := 28) dm3_327 rfl (by decide) ?_
  refine g_iadd (pc' := 330) dm3_329 rfl ?_
  rw [show Int32.ofNat pre.length + 28 = Int32.ofNat (pre.length + 28) from ofNat_add2 _ 28]
  refine g_aloadN (pc' := 331) dm3_330 rfl rfl rfl ?_
  refine g_bipush (pc' := 333) (w := 28) dm3_331 rfl (by decide) ?_
  refine g_invokevirtualN (pc' := 336) [] [_] dm3_333 rfl (wl_DefinitionsFixedPinLaw_40 hw) (wd_String_charAt_lIrC hw) (wv_String_String_charAt_lIrC hw) (wm_String_charAt_lIrC hw) (by decide) (NF.sel (wv_String_String_charAt_lIrC hw)) (I324.2.2.1.exa) (pay_ch (own_ch hw) (wn_String hw) S hz F rf I324.1 I324.2.2.1 suf8 (i := 28) (by decide) rfl rfl rfl) pd_lIrC rfl rfl rfl rfl rfl (fun _ q => nomatch q) fun v333 h333 q333 l333 => ?_
  obtain ⟨rfl, e333⟩ := q333
  have e333 := e333.symm
  subst e333
  refine g_put (pc' := 337) (j := 28) (wn_String hw) (by decide) dm3_336 rfl I324 fun h336 I336 => ?_
  refine g_aloadN (pc' := 338) dm3_337 rfl rfl rfl ?_
  refine g_iloadN (pc' := 339) dm3_338 rfl rfl ?_
  refine g_bipush (pc' := 341) (w := 29) dm3_339 rfl (by decide) ?_
  refine g_iadd (pc' := 342) dm3_341 rfl ?_
  rw [show Int32.ofNat pre.length + 29 = Int32.ofNat (pre.length + 29) from ofNat_add2 _ 29]
  refine g_aloadN (pc' := 343) dm3_342 rfl rfl rfl ?_
  refine g_bipush (pc' := 345) (w := 29) dm3_343 rfl (by decide) ?_
  refine g_invokevirtualN (pc' := 348) [] [_] dm3_345 rfl (wl_DefinitionsFixedPinLaw_40 hw) (wd_String_charAt_lIrC hw) (wv_String_String_charAt_lIrC hw) (wm_String_charAt_lIrC hw) (by decide) (NF.sel (wv_String_String_charAt_lIrC hw)) (I336.2.2.1.exa) (pay_ch (own_ch hw) (wn_String hw) S hz F rf I336.1 I336.2.2.1 suf8 (i := 29) (by decide) rfl rfl rfl) pd_lIrC rfl rfl rfl rfl rfl (fun _ q => nomatch q) fun v345 h345 q345 l345 => ?_
  obtain ⟨rfl, e345⟩ := q345
  have e345 := e345.symm
  subst e345
  refine g_put (pc' := 349) (j := 29) (wn_String hw) (by decide) dm3_348 rfl I336 fun h348 I348 => ?_
  refine g_aloadN (pc' := 350) dm3_349 rfl rfl rfl ?_
  refine g_iloadN (pc' := 351) dm3_350 rfl rfl ?_
  refine g_bipush (pc' := 353) (w := 30) dm3_351 rfl (by decide) ?_
  refine g_iadd (pc' := 354) dm3_353 rfl ?_
  rw [show Int32.ofNat pre.length + 30 = Int32.ofNat (pre.length + 30) from ofNat_add2 _ 30]
  refine g_aloadN (pc' := 355) dm3_354 rfl rfl rfl ?_
  refine g_bipush (pc' := 357) (w := 30) dm3_355 rfl (by decide) ?_
  refine g_invokevirtualN (pc' := 360) [] [_] dm3_357 rfl (wl_DefinitionsFixedPinLaw_40 hw) (wd_String_charAt_lIrC hw) (wv_String_String_charAt_lIrC hw) (wm_String_charAt_lIrC hw) (by decide) (NF.sel (wv_String_String_charAt_lIrC hw)) (I348.2.2.1.exa) (pay_ch (own_ch hw) (wn_String hw) S hz F rf I348.1 I348.2.2.1 suf8 (i := 30) (by decide) rfl rfl rfl) pd_lIrC rfl rfl rfl rfl rfl (fun _ q => nomatch q) fun v357 h357 q357 l357 => ?_
  obtain ⟨rfl, e357⟩ := q357
  have e357 := e357.symm
  subst e357
  refine g_put (pc' := 361) (j := 30) (wn_String hw) (by decide) dm3_360 rfl I348 fun h360 I360 => ?_
  refine g_aloadN (pc' := 362) dm3_361 rfl rfl rfl ?_
  refine g_iloadN (pc' := 363) dm3_362 rfl rfl ?_
  refine g_bipush (pc' := 365) (w := 31) dm3_363 rfl (by decide) ?_
  refine g_iadd (pc' := 366) dm3_365 rfl ?_
  rw [show Int32.ofNat pre.length + 31 = Int32.ofNat (pre.length + 31) from ofNat_add2 _ 31]
  refine g_aloadN (pc' := 367) dm3_366 rfl rfl rfl ?_
  refine g_bipush (pc' := 369) (w := 31) dm3_367 rfl (by decide) ?_
  refine g_invokevirtualN (pc' := 372) [] [_] dm3_369 rfl (wl_DefinitionsFixedPinLaw_40 hw) (wd_String_charAt_lIrC hw) (wv_String_String_charAt_lIrC hw) (wm_String_charAt_lIrC hw) (by decide) (NF.sel (wv_String_String_charAt_lIrC hw)) (I360.2.2.1.exa) (pay_ch (own_ch hw) (wn_String hw) S hz F rf I360.1 I360.2.2.1 suf8 (i := 31) (by decide) rfl rfl rfl) pd_lIrC rfl rfl rfl rfl rfl (fun _ q => nomatch q) fun v369 h369 q369 l369 => ?_
  obtain ⟨rfl, e369⟩ := q369
  have e369 := e369.symm
  subst e369
  refine g_put (pc' := 373) (j := 31) (wn_String hw) (by decide) dm3_372 rfl I360 fun h372 I372 => ?_
  refine g_aloadN (pc' := 374) dm3_373 rfl rfl rfl ?_
  refine g_iloadN (pc' := 375) dm3_374 rfl rfl ?_
  refine g_bipush (pc' := 377) (w := 32) dm3_375 rfl (by decide) ?_
  refine g_iadd (pc' := 378) dm3_377 rfl ?_
  rw [show Int32.ofNat pre.length + 32 = Int32.ofNat (pre.length + 32) from ofNat_add2 _ 32]
  refine g_aloadN (pc' := 379) dm3_378 rfl rfl rfl ?_
  refine g_bipush (pc' := 381) (w := 32) dm3_379 rfl (by decide) ?_
  refine g_invokevirtualN (pc' := 384) [] [_] dm3_381 rfl (wl_DefinitionsFixedPinLaw_40 hw) (wd_String_charAt_lIrC hw) (wv_String_String_charAt_lIrC hw) (wm_String_charAt_lIrC hw) (by decide) (NF.sel (wv_String_String_charAt_lIrC hw)) (I372.2.2.1.exa) (pay_ch (own_ch hw) (wn_String hw) S hz F rf I372.1 I372.2.2.1 suf8 (i := 32) (by decide) rfl rfl rfl) pd_lIrC rfl rfl rfl rfl rfl (fun _ q => nomatch q) fun v381 h381 q381 l381 => ?_
  obtain ⟨rfl, e381⟩ := q381
  have e381 := e381.symm
  subst e381
  refine g_put (pc' := 385) (j := 32) (wn_String hw) (by decide) dm3_384 rfl I372 fun h384 I384 => ?_
  refine g_aloadN (pc' := 386) dm3_385 rfl rfl rfl ?_
  refine g_iloadN (pc' := 387) dm3_386 rfl rfl ?_
  refine g_bipush (pc' := 389) (w := 33) dm3_387 rfl (by decide) ?_
  refine g_iadd (pc' := 390) dm3_389 rfl ?_
  rw [show Int32.ofNat pre.length + 33 = Int32.ofNat (pre.length + 33) from ofNat_add2 _ 33]
  refine g_aloadN (pc' := 391) dm3_390 rfl rfl rfl ?_
  refine g_bipush (pc' := 393) (w := 33) dm3_391 rfl (by decide) ?_
  refine g_invokevirtualN (pc' := 396) [] [_] dm3_393 rfl (wl_DefinitionsFixedPinLaw_40 hw) (wd_String_charAt_lIrC hw) (wv_String_String_charAt_lIrC hw) (wm_String_charAt_lIrC hw) (by decide) (NF.sel (wv_String_String_charAt_lIrC hw)) (I384.2.2.1.exa) (pay_ch (own_ch hw) (wn_String hw) S hz F rf I384.1 I384.2.2.1 suf8 (i := 33) (by decide) rfl rfl rfl) pd_lIrC rfl rfl rfl rfl rfl (fun _ q => nomatch q) fun v393 h393 q393 l393 => ?_
  obtain ⟨rfl, e393⟩ := q393
  have e393 := e393.symm
  subst e393
  refine g_put (pc' := 397) (j := 33) (wn_String hw) (by decide) dm3_396 rfl I384 fun h396 I396 => ?_
  refine g_aloadN (pc' := 398) dm3_397 rfl rfl rfl ?_
  refine g_iloadN (pc' := 399) dm3_398 rfl rfl ?_
  refine g_bipush (pc' := 401) (w := 34) dm3_399 rfl (by decide) ?_
  refine g_iadd (pc' := 402) dm3_401 rfl ?_
  rw [show Int32.ofNat pre.length + 34 = Int32.ofNat (pre.length + 34) from ofNat_add2 _ 34]
  refine g_aloadN (pc' := 403) dm3_402 rfl rfl rfl ?_
  refine g_bipush (pc' := 405) (w := 34) dm3_403 rfl (by decide) ?_
  refine g_invokevirtualN (pc' := 408) [] [_] dm3_405 rfl (wl_DefinitionsFixedPinLaw_40 hw) (wd_String_charAt_lIrC hw) (wv_String_String_charAt_lIrC hw) (wm_String_charAt_lIrC hw) (by decide) (NF.sel (wv_String_String_charAt_lIrC hw)) (I396.2.2.1.exa) (pay_ch (own_ch hw) (wn_String hw) S hz F rf I396.1 I396.2.2.1 suf8 (i := 34) (by decide) rfl rfl rfl) pd_lIrC rfl rfl rfl rfl rfl (fun _ q => nomatch q) fun v405 h405 q405 l405 => ?_
  obtain ⟨rfl, e405⟩ := q405
  have e405 := e405.symm
  subst e405
  refine g_put (pc' := 409) (j := 34) (wn_String hw) (by decide) dm3_408 rfl I396 fun h408 I408 => ?_
  refine g_aloadN (pc' := 410) dm3_409 rfl rfl rfl ?_
  refine g_iloadN (pc' := 411) dm3_410 rfl rfl ?_
  refine g_bipush (pc' := 413) (w := 35) dm3_411 rfl (by decide) ?_
  refine g_iadd (pc' := 414) dm3_413 rfl ?_
  rw [show Int32.ofNat pre.length + 35 = Int32.ofNat (pre.length + 35) from ofNat_add2 _ 35]
  refine g_aloadN (pc' := 415) dm3_414 rfl rfl rfl ?_
  refine g_bipush (pc' := 417) (w := 35) dm3_415 rfl (by decide) ?_
  refine g_invokevirtualN (pc' := 420) [] [_] dm3_417 rfl (wl_DefinitionsFixedPinLaw_40 hw) (wd_String_charAt_lIrC hw) (wv_String_String_charAt_lIrC hw) (wm_String_charAt_lIrC hw) (by decide) (NF.sel (wv_String_String_charAt_lIrC hw)) (I408.2.2.1.exa) (pay_ch (own_ch hw) (wn_String hw) S hz F rf I408.1 I408.2.2.1 suf8 (i := 35) (by decide) rfl rfl rfl) pd_lIrC rfl rfl rfl rfl rfl (fun _ q => nomatch q) fun v417 h417 q417 l417 => ?_
  obtain ⟨rfl, e417⟩ := q417
  have e417 := e417.symm
  subst e417
  refine g_put (pc' := 421) (j := 35) (wn_String hw) (by decide) dm3_420 rfl I408 fun h420 I420 => ?_
  refine g_aloadN (pc' := 422) dm3_421 rfl rfl rfl ?_
  refine g_iloadN (pc' := 423) dm3_422 rfl rfl ?_
  refine g_bipush (pc' := 425) (w := 36) dm3_423 rfl (by decide) ?_
  refine g_iadd (pc' := 426) dm3_425 rfl ?_
  rw [show Int32.ofNat pre.length + 36 = Int32.ofNat (pre.length + 36) from ofNat_add2 _ 36]
  refine g_aloadN (pc' := 427) dm3_426 rfl rfl rfl ?_
  refine g_bipush (pc' := 429) (w := 36) dm3_427 rfl (by decide) ?_
  refine g_invokevirtualN (pc' := 432) [] [_] dm3_429 rfl (wl_DefinitionsFixedPinLaw_40 hw) (wd_String_charAt_lIrC hw) (wv_String_String_charAt_lIrC hw) (wm_String_charAt_lIrC hw) (by decide) (NF.sel (wv_String_String_charAt_lIrC hw)) (I420.2.2.1.exa) (pay_ch (own_ch hw) (wn_String hw) S hz F rf I420.1 I420.2.2.1 suf8 (i := 36) (by decide) rfl rfl rfl) pd_lIrC rfl rfl rfl rfl rfl (fun _ q => nomatch q) fun v429 h429 q429 l429 => ?_
  obtain ⟨rfl, e429⟩ := q429
  have e429 := e429.symm
  subst e429
  refine g_put (pc' := 433) (j := 36) (wn_String hw) (by decide) dm3_432 rfl I420 fun h432 I432 => ?_
  refine g_aloadN (pc' := 434) dm3_433 rfl rfl rfl ?_
  refine g_iloadN (pc' := 435) dm3_434 rfl rfl ?_
  refine g_bipush (pc' := 437) (w := 37) dm3_435 rfl (by decide) ?_
  refine g_iadd (pc' := 438) dm3_437 rfl ?_
  rw [show Int32.ofNat pre.length + 37 = Int32.ofNat (pre.length + 37) from ofNat_add2 _ 37]
  refine g_aloadN (pc' := 439) dm3_438 rfl rfl rfl ?_
  refine g_bipush (pc' := 441) (w := 37) dm3_439 rfl (by decide) ?_
  refine g_invokevirtualN (pc' := 444) [] [_] dm3_441 rfl (wl_DefinitionsFixedPinLaw_40 hw) (wd_String_charAt_lIrC hw) (wv_String_String_charAt_lIrC hw) (wm_String_charAt_lIrC hw) (by decide) (NF.sel (wv_String_String_charAt_lIrC hw)) (I432.2.2.1.exa) (pay_ch (own_ch hw) (wn_String hw) S hz F rf I432.1 I432.2.2.1 suf8 (i := 37) (by decide) rfl rfl rfl) pd_lIrC rfl rfl rfl rfl rfl (fun _ q => nomatch q) fun v441 h441 q441 l441 => ?_
  obtain ⟨rfl, e441⟩ := q441
  have e441 := e441.symm
  subst e441
  refine g_put (pc' := 445) (j := 37) (wn_String hw) (by decide) dm3_444 rfl I432 fun h444 I444 => ?_
  refine g_aloadN (pc' := 446) dm3_445 rfl rfl rfl ?_
  refine g_iloadN (pc' := 447) dm3_446 rfl rfl ?_
  refine g_bipush (pc' := 449) (w := 38) dm3_447 rfl (by decide) ?_
  refine g_iadd (pc' := 450) dm3_449 rfl ?_
  rw [show Int32.ofNat pre.length + 38 = Int32.ofNat (pre.length + 38) from ofNat_add2 _ 38]
  refine g_aloadN (pc' := 451) dm3_450 rfl rfl rfl ?_
  refine g_bipush (pc' := 453) (w := 38) dm3_451 rfl (by decide) ?_
  refine g_invokevirtualN (pc' := 456) [] [_] dm3_453 rfl (wl_DefinitionsFixedPinLaw_40 hw) (wd_String_charAt_lIrC hw) (wv_String_String_charAt_lIrC hw) (wm_String_charAt_lIrC hw) (by decide) (NF.sel (wv_String_String_charAt_lIrC hw)) (I444.2.2.1.exa) (pay_ch (own_ch hw) (wn_String hw) S hz F rf I444.1 I444.2.2.1 suf8 (i := 38) (by decide) rfl rfl rfl) pd_lIrC rfl rfl rfl rfl rfl (fun _ q => nomatch q) fun v453 h453 q453 l453 => ?_
  obtain ⟨rfl, e453⟩ := q453
  have e453 := e453.symm
  subst e453
  refine g_put (pc' := 457) (j := 38) (wn_String hw) (by decide) dm3_456 rfl I444 fun h456 I456 => ?_
  refine g_aloadN (pc' := 458) dm3_457 rfl rfl rfl ?_
  refine g_iloadN (pc' := 459) dm3_458 rfl rfl ?_
  refine g_bipush (pc' := 461) (w := 39) dm3_459 rfl (by decide) ?_
  refine g_iadd (pc' := 462) dm3_461 rfl ?_
  rw [show Int32.ofNat pre.length + 39 = Int32.ofNat (pre.length + 39) from ofNat_add2 _ 39]
  refine g_aloadN (pc' := 463) dm3_462 rfl rfl rfl ?_
  refine g_bipush (pc' := 465) (w := 39) dm3_463 rfl (by decide) ?_
  refine g_invokevirtualN (pc' := 468) [] [_] dm3_465 rfl (wl_DefinitionsFixedPinLaw_40 hw) (wd_String_charAt_lIrC hw) (wv_String_String_charAt_lIrC hw) (wm_String_charAt_lIrC hw) (by decide) (NF.sel (wv_String_String_charAt_lIrC hw)) (I456.2.2.1.exa) (pay_ch (own_ch hw) (wn_String hw) S hz F rf I456.1 I456.2.2.1 suf8 (i := 39) (by decide) rfl rfl rfl) pd_lIrC rfl rfl rfl rfl rfl (fun _ q => nomatch q) fun v465 h465 q465 l465 => ?_
  obtain ⟨rfl, e465⟩ := q465
  have e465 := e465.symm
  subst e465
  refine g_put (pc' := 469) (j := 39) (wn_String hw) (by decide) dm3_468 rfl I456 fun h468 I468 => ?_
  refine g_aloadN (pc' := 470) dm3_469 rfl rfl rfl ?_
  refine g_iloadN (pc' := 471) dm3_470 rfl rfl ?_
  refine g_bipush (pc' := 473) (w := 40) dm3_471 rfl (by decide) ?_
  refine g_iadd (pc' := 474) dm3_473 rfl ?_
  rw [show Int32.ofNat pre.length + 40 = Int32.ofNat (pre.length + 40) from ofNat_add2 _ 40]
  refine g_aloadN (pc' := 475) dm3_474 rfl rfl rfl ?_
  refine g_bipush (pc' := 477) (w := 40) dm3_475 rfl (by decide) ?_
  refine g_invokevirtualN (pc' := 480) [] [_] dm3_477 rfl (wl_DefinitionsFixedPinLaw_40 hw) (wd_String_charAt_lIrC hw) (wv_String_String_charAt_lIrC hw) (wm_String_charAt_lIrC hw) (by decide) (NF.sel (wv_String_String_charAt_lIrC hw)) (I468.2.2.1.exa) (pay_ch (own_ch hw) (wn_String hw) S hz F rf I468.1 I468.2.2.1 suf8 (i := 40) (by decide) rfl rfl rfl) pd_lIrC rfl rfl rfl rfl rfl (fun _ q => nomatch q) fun v477 h477 q477 l477 => ?_
  obtain ⟨rfl, e477⟩ := q477
  have e477 := e477.symm
  subst e477
  refine g_put (pc' := 481) (j := 40) (wn_String hw) (by decide) dm3_480 rfl I468 fun h480 I480 => ?_
  refine g_aloadN (pc' := 482) dm3_481 rfl rfl rfl ?_
  refine g_iloadN (pc' := 483) dm3_482 rfl rfl ?_
  refine g_bipush (pc' := 485) (w := 41) dm3_483 rfl (by decide) ?_
  refine g_iadd (pc' := 486) dm3_485 rfl ?_
  rw [show Int32.ofNat pre.length + 41 = Int32.ofNat (pre.length + 41) from ofNat_add2 _ 41]
  refine g_aloadN (pc' := 487) dm3_486 rfl rfl rfl ?_
  refine g_bipush (pc' := 489) (w := 41) dm3_487 rfl (by decide) ?_
  refine g_invokevirtualN (pc' := 492) [] [_] dm3_489 rfl (wl_DefinitionsFixedPinLaw_40 hw) (wd_String_charAt_lIrC hw) (wv_String_String_charAt_lIrC hw) (wm_String_charAt_lIrC hw) (by decide) (NF.sel (wv_String_String_charAt_lIrC hw)) (I480.2.2.1.exa) (pay_ch (own_ch hw) (wn_String hw) S hz F rf I480.1 I480.2.2.1 suf8 (i := 41) (by decide) rfl rfl rfl) pd_lIrC rfl rfl rfl rfl rfl (fun _ q => nomatch q) fun v489 h489 q489 l489 => ?_
  obtain ⟨rfl, e489⟩ := q489
  have e489 := e489.symm
  subst e489
  refine g_put (pc' := 493) (j := 41) (wn_String hw) (by decide) dm3_492 rfl I480 fun h492 I492 => ?_
  refine g_aloadN (pc' := 494) dm3_493 rfl rfl rfl ?_
  refine g_iloadN (pc' := 495) dm3_494 rfl rfl ?_
  refine g_bipush (pc' := 497) (w := 42) dm3_495 rfl (by decide) ?_
  refine g_iadd (pc' := 498) dm3_497 rfl ?_
  rw [show Int32.ofNat pre.length + 42 = Int32.ofNat (pre.length + 42) from ofNat_add2 _ 42]
  refine g_aloadN (pc' := 499) dm3_498 rfl rfl rfl ?_
  refine g_bipush (pc' := 501) (w := 42) dm3_499 rfl (by decide) ?_
  refine g_invokevirtualN (pc' := 504) [] [_] dm3_501 rfl (wl_DefinitionsFixedPinLaw_40 hw) (wd_String_charAt_lIrC hw) (wv_String_String_charAt_lIrC hw) (wm_String_charAt_lIrC hw) (by decide) (NF.sel (wv_String_String_charAt_lIrC hw)) (I492.2.2.1.exa) (pay_ch (own_ch hw) (wn_String hw) S hz F rf I492.1 I492.2.2.1 suf8 (i := 42) (by decide) rfl rfl rfl) pd_lIrC rfl rfl rfl rfl rfl (fun _ q => nomatch q) fun v501 h501 q501 l501 => ?_
  obtain ⟨rfl, e501⟩ := q501
  have e501 := e501.symm
  subst e501
  refine g_put (pc' := 505) (j := 42) (wn_String hw) (by decide) dm3_504 rfl I492 fun h504 I504 => ?_
  refine g_aloadN (pc' := 506) dm3_505 rfl rfl rfl ?_
  refine g_iloadN (pc' := 507) dm3_506 rfl rfl ?_
  refine g_bipush (pc' := 509) (w := 43) dm3_507 rfl (by decide) ?_
  refine g_iadd (pc' := 510) dm3_509 rfl ?_
  rw [show Int32.ofNat pre.length + 43 = Int32.ofNat (pre.length + 43) from ofNat_add2 _ 43]
  refine g_aloadN (pc' := 511) dm3_510 rfl rfl rfl ?_
  refine g_bipush (pc' := 513) (w := 43) dm3_511 rfl (by decide) ?_
  refine g_invokevirtualN (pc' := 516) [] [_] dm3_513 rfl (wl_DefinitionsFixedPinLaw_40 hw) (wd_String_charAt_lIrC hw) (wv_String_String_charAt_lIrC hw) (wm_String_charAt_lIrC hw) (by decide) (NF.sel (wv_String_String_charAt_lIrC hw)) (I504.2.2.1.exa) (pay_ch (own_ch hw) (wn_String hw) S hz F rf I504.1 I504.2.2.1 suf8 (i := 43) (by decide) rfl rfl rfl) pd_lIrC rfl rfl rfl rfl rfl (fun _ q => nomatch q) fun v513 h513 q513 l513 => ?_
  obtain ⟨rfl, e513⟩ := q513
  have e513 := e513.symm
  subst e513
  refine g_put (pc' := 517) (j := 43) (wn_String hw) (by decide) dm3_516 rfl I504 fun h516 I516 => ?_
  refine g_aloadN (pc' := 518) dm3_517 rfl rfl rfl ?_
  refine g_iloadN (pc' := 519) dm3_518 rfl rfl ?_
  refine g_bipush (pc' := 521) (w := 44) dm3_519 rfl (by decide) ?_
  refine g_iadd (pc' := 522) dm3_521 rfl ?_
  rw [show Int32.ofNat pre.length + 44 = Int32.ofNat (pre.length + 44) from ofNat_add2 _ 44]
  refine g_aloadN (pc' := 523) dm3_522 rfl rfl rfl ?_
  refine g_bipush (pc' := 525) (w := 44) dm3_523 rfl (by decide) ?_
  refine g_invokevirtualN (pc' := 528) [] [_] dm3_525 rfl (wl_DefinitionsFixedPinLaw_40 hw) (wd_String_charAt_lIrC hw) (wv_String_String_charAt_lIrC hw) (wm_String_charAt_lIrC hw) (by decide) (NF.sel (wv_String_String_charAt_lIrC hw)) (I516.2.2.1.exa) (pay_ch (own_ch hw) (wn_String hw) S hz F rf I516.1 I516.2.2.1 suf8 (i := 44) (by decide) rfl rfl rfl) pd_lIrC rfl rfl rfl rfl rfl (fun _ q => nomatch q) fun v525 h525 q525 l525 => ?_
  obtain ⟨rfl, e525⟩ := q525
  have e525 := e525.symm
  subst e525
  refine g_put (pc' := 529) (j := 44) (wn_String hw) (by decide) dm3_528 rfl I516 fun h528 I528 => ?_
  refine g_aloadN (pc' := 530) dm3_529 rfl rfl rfl ?_
  refine g_iloadN (pc' := 531) dm3_530 rfl rfl ?_
  refine g_bipush (pc' := 533) (w := 45) dm3_531 rfl (by decide) ?_
  refine g_iadd (pc' := 534) dm3_533 rfl ?_
  rw [show Int32.ofNat pre.length + 45 = Int32.ofNat (pre.length + 45) from ofNat_add2 _ 45]
  refine g_aloadN (pc' := 535) dm3_534 rfl rfl rfl ?_
  refine g_bipush (pc' := 537) (w := 45) dm3_535 rfl (by decide) ?_
  refine g_invokevirtualN (pc' := 540) [] [_] dm3_537 rfl (wl_DefinitionsFixedPinLaw_40 hw) (wd_String_charAt_lIrC hw) (wv_String_String_charAt_lIrC hw) (wm_String_charAt_lIrC hw) (by decide) (NF.sel (wv_String_String_charAt_lIrC hw)) (I528.2.2.1.exa) (pay_ch (own_ch hw) (wn_String hw) S hz F rf I528.1 I528.2.2.1 suf8 (i := 45) (by decide) rfl rfl rfl) pd_lIrC rfl rfl rfl rfl rfl (fun _ q => nomatch q) fun v537 h537 q537 l537 => ?_
  obtain ⟨rfl, e537⟩ := q537
  have e537 := e537.symm
  subst e537
  refine g_put (pc' := 541) (j := 45) (wn_String hw) (by decide) dm3_540 rfl I528 fun h540 I540 => ?_
  refine g_aloadN (pc' := 542) dm3_541 rfl rfl rfl ?_
  refine g_iloadN (pc' := 543) dm3_542 rfl rfl ?_
  refine g_bipush (pc' := 545) (w := 46) dm3_543 rfl (by decide) ?_
  refine g_iadd (pc' := 546) dm3_545 rfl ?_
  rw [show Int32.ofNat pre.length + 46 = Int32.ofNat (pre.length + 46) from ofNat_add2 _ 46]
  refine g_aloadN (pc' := 547) dm3_546 rfl rfl rfl ?_
  refine g_bipush (pc' := 549) (w := 46) dm3_547 rfl (by decide) ?_
  refine g_invokevirtualN (pc' := 552) [] [_] dm3_549 rfl (wl_DefinitionsFixedPinLaw_40 hw) (wd_String_charAt_lIrC hw) (wv_String_String_charAt_lIrC hw) (wm_String_charAt_lIrC hw) (by decide) (NF.sel (wv_String_String_charAt_lIrC hw)) (I540.2.2.1.exa) (pay_ch (own_ch hw) (wn_String hw) S hz F rf I540.1 I540.2.2.1 suf8 (i := 46) (by decide) rfl rfl rfl) pd_lIrC rfl rfl rfl rfl rfl (fun _ q => nomatch q) fun v549 h549 q549 l549 => ?_
  obtain ⟨rfl, e549⟩ := q549
  have e549 := e549.symm
  subst e549
  refine g_put (pc' := 553) (j := 46) (wn_String hw) (by decide) dm3_552 rfl I540 fun h552 I552 => ?_
  refine g_aloadN (pc' := 554) dm3_553 rfl rfl rfl ?_
  refine g_iloadN (pc' := 555) dm3_554 rfl rfl ?_
  refine g_bipush (pc' := 557) (w := 47) dm3_555 rfl (by decide) ?_
  refine g_iadd (pc' := 558) dm3_557 rfl ?_
  rw [show Int32.ofNat pre.length + 47 = Int32.ofNat (pre.length + 47) from ofNat_add2 _ 47]
  refine g_aloadN (pc' := 559) dm3_558 rfl rfl rfl ?_
  refine g_bipush (pc' := 561) (w := 47) dm3_559 rfl (by decide) ?_
  refine g_invokevirtualN (pc' := 564) [] [_] dm3_561 rfl (wl_DefinitionsFixedPinLaw_40 hw) (wd_String_charAt_lIrC hw) (wv_String_String_charAt_lIrC hw) (wm_String_charAt_lIrC hw) (by decide) (NF.sel (wv_String_String_charAt_lIrC hw)) (I552.2.2.1.exa) (pay_ch (own_ch hw) (wn_String hw) S hz F rf I552.1 I552.2.2.1 suf8 (i := 47) (by decide) rfl rfl rfl) pd_lIrC rfl rfl rfl rfl rfl (fun _ q => nomatch q) fun v561 h561 q561 l561 => ?_
  obtain ⟨rfl, e561⟩ := q561
  have e561 := e561.symm
  subst e561
  refine g_put (pc' := 565) (j := 47) (wn_String hw) (by decide) dm3_564 rfl I552 fun h564 I564 => ?_
  refine g_aloadN (pc' := 566) dm3_565 rfl rfl rfl ?_
  refine g_iloadN (pc' := 567) dm3_566 rfl rfl ?_
  refine g_bipush (pc' := 569) (w := 48) dm3_567 rfl (by decide) ?_
  refine g_iadd (pc' := 570) dm3_569 rfl ?_
  rw [show Int32.ofNat pre.length + 48 = Int32.ofNat (pre.length + 48) from ofNat_add2 _ 48]
  refine g_aloadN (pc' := 571) dm3_570 rfl rfl rfl ?_
  refine g_bipush (pc' := 573) (w := 48) dm3_571 rfl (by decide) ?_
  refine g_invokevirtualN (pc' := 576) [] [_] dm3_573 rfl (wl_DefinitionsFixedPinLaw_40 hw) (wd_String_charAt_lIrC hw) (wv_String_String_charAt_lIrC hw) (wm_String_charAt_lIrC hw) (by decide) (NF.sel (wv_String_String_charAt_lIrC hw)) (I564.2.2.1.exa) (pay_ch (own_ch hw) (wn_String hw) S hz F rf I564.1 I564.2.2.1 suf8 (i := 48) (by decide) rfl rfl rfl) pd_lIrC rfl rfl rfl rfl rfl (fun _ q => nomatch q) fun v573 h573 q573 l573 => ?_
  obtain ⟨rfl, e573⟩ := q573
  have e573 := e573.symm
  subst e573
  refine g_put (pc' := 577) (j := 48) (wn_String hw) (by decide) dm3_576 rfl I564 fun h576 I576 => ?_
  refine g_aloadN (pc' := 578) dm3_577 rfl rfl rfl ?_
  refine g_iloadN (pc' := 579) dm3_578 rfl rfl ?_
  refine g_bipush (pc' := 581) (w := 49) dm3_579 rfl (by decide) ?_
  refine g_iadd (pc' := 582) dm3_581 rfl ?_
  rw [show Int32.ofNat pre.length + 49 = Int32.ofNat (pre.length + 49) from ofNat_add2 _ 49]
  refine g_aloadN (pc' := 583) dm3_582 rfl rfl rfl ?_
  refine g_bipush (pc' := 585) (w := 49) dm3_583 rfl (by decide) ?_
  refine g_invokevirtualN (pc' := 588) [] [_] dm3_585 rfl (wl_DefinitionsFixedPinLaw_40 hw) (wd_String_charAt_lIrC hw) (wv_String_String_charAt_lIrC hw) (wm_String_charAt_lIrC hw) (by decide) (NF.sel (wv_String_String_charAt_lIrC hw)) (I576.2.2.1.exa) (pay_ch (own_ch hw) (wn_String hw) S hz F rf I576.1 I576.2.2.1 suf8 (i := 49) (by decide) rfl rfl rfl) pd_lIrC rfl rfl rfl rfl rfl (fun _ q => nomatch q) fun v585 h585 q585 l585 => ?_
  obtain ⟨rfl, e585⟩ := q585
  have e585 := e585.symm
  subst e585
  refine g_put (pc' := 589) (j := 49) (wn_String hw) (by decide) dm3_588 rfl I576 fun h588 I588 => ?_
  refine g_aloadN (pc' := 590) dm3_589 rfl rfl rfl ?_
  refine g_iloadN (pc' := 591) dm3_590 rfl rfl ?_
  refine g_bipush (pc' := 593) (w := 50) dm3_591 rfl (by decide) ?_
  refine g_iadd (pc' := 594) dm3_593 rfl ?_
  rw [show Int32.ofNat pre.length + 50 = Int32.ofNat (pre.length + 50) from ofNat_add2 _ 50]
  refine g_aloadN (pc' := 595) dm3_594 rfl rfl rfl ?_
  refine g_bipush (pc' := 597) (w := 50) dm3_595 rfl (by decide) ?_
  refine g_invokevirtualN (pc' := 600) [] [_] dm3_597 rfl (wl_DefinitionsFixedPinLaw_40 hw) (wd_String_charAt_lIrC hw) (wv_String_String_charAt_lIrC hw) (wm_String_charAt_lIrC hw) (by decide) (NF.sel (wv_String_String_charAt_lIrC hw)) (I588.2.2.1.exa) (pay_ch (own_ch hw) (wn_String hw) S hz F rf I588.1 I588.2.2.1 suf8 (i := 50) (by decide) rfl rfl rfl) pd_lIrC rfl rfl rfl rfl rfl (fun _ q => nomatch q) fun v597 h597 q597 l597 => ?_
  obtain ⟨rfl, e597⟩ := q597
  have e597 := e597.symm
  subst e597
  refine g_put (pc' := 601) (j := 50) (wn_String hw) (by decide) dm3_600 rfl I588 fun h600 I600 => ?_
  refine g_aloadN (pc' := 602) dm3_601 rfl rfl rfl ?_
  refine g_iloadN (pc' := 603) dm3_602 rfl rfl ?_
  refine g_bipush (pc' := 605) (w := 51) dm3_603 rfl (by decide) ?_
  refine g_iadd (pc' := 606) dm3_605 rfl ?_
  rw [show Int32.ofNat pre.length + 51 = Int32.ofNat (pre.length + 51) from ofNat_add2 _ 51]
  refine g_aloadN (pc' := 607) dm3_606 rfl rfl rfl ?_
  refine g_bipush (pc' := 609) (w := 51) dm3_607 rfl (by decide) ?_
  refine g_invokevirtualN (pc' := 612) [] [_] dm3_609 rfl (wl_DefinitionsFixedPinLaw_40 hw) (wd_String_charAt_lIrC hw) (wv_String_String_charAt_lIrC hw) (wm_String_charAt_lIrC hw) (by decide) (NF.sel (wv_String_String_charAt_lIrC hw)) (I600.2.2.1.exa) (pay_ch (own_ch hw) (wn_String hw) S hz F rf I600.1 I600.2.2.1 suf8 (i := 51) (by decide) rfl rfl rfl) pd_lIrC rfl rfl rfl rfl rfl (fun _ q => nomatch q) fun v609 h609 q609 l609 => ?_
  obtain ⟨rfl, e609⟩ := q609
  have e609 := e609.symm
  subst e609
  refine g_put (pc' := 613) (j := 51) (wn_String hw) (by decide) dm3_612 rfl I600 fun h612 I612 => ?_
  refine g_aloadN (pc' := 614) dm3_613 rfl rfl rfl ?_
  refine g_iloadN (pc' := 615) dm3_614 rfl rfl ?_
  refine g_bipush (pc' := 617) (w := 52) dm3_615 rfl (by decide) ?_
  refine g_iadd (pc' := 618) dm3_617 rfl ?_
  rw [show Int32.ofNat pre.length + 52 = Int32.ofNat (pre.length + 52) from ofNat_add2 _ 52]
  refine g_aloadN (pc' := 619) dm3_618 rfl rfl rfl ?_
  refine g_bipush (pc' := 621) (w := 52) dm3_619 rfl (by decide) ?_
  refine g_invokevirtualN (pc' := 624) [] [_] dm3_621 rfl (wl_DefinitionsFixedPinLaw_40 hw) (wd_String_charAt_lIrC hw) (wv_String_String_charAt_lIrC hw) (wm_String_charAt_lIrC hw) (by decide) (NF.sel (wv_String_String_charAt_lIrC hw)) (I612.2.2.1.exa) (pay_ch (own_ch hw) (wn_String hw) S hz F rf I612.1 I612.2.2.1 suf8 (i := 52) (by decide) rfl rfl rfl) pd_lIrC rfl rfl rfl rfl rfl (fun _ q => nomatch q) fun v621 h621 q621 l621 => ?_
  obtain ⟨rfl, e621⟩ := q621
  have e621 := e621.symm
  subst e621
  refine g_put (pc' := 625) (j := 52) (wn_String hw) (by decide) dm3_624 rfl I612 fun h624 I624 => ?_
  refine g_aloadN (pc' := 626) dm3_625 rfl rfl rfl ?_
  refine g_iloadN (pc' := 627) dm3_626 rfl rfl ?_
  refine g_bipush (pc' := 629) (w := 53) dm3_627 rfl (by decide) ?_
  refine g_iadd (pc' := 630) dm3_629 rfl ?_
  rw [show Int32.ofNat pre.length + 53 = Int32.ofNat (pre.length + 53) from ofNat_add2 _ 53]
  refine g_aloadN (pc' := 631) dm3_630 rfl rfl rfl ?_
  refine g_bipush (pc' := 633) (w := 53) dm3_631 rfl (by decide) ?_
  refine g_invokevirtualN (pc' := 636) [] [_] dm3_633 rfl (wl_DefinitionsFixedPinLaw_40 hw) (wd_String_charAt_lIrC hw) (wv_String_String_charAt_lIrC hw) (wm_String_charAt_lIrC hw) (by decide) (NF.sel (wv_String_String_charAt_lIrC hw)) (I624.2.2.1.exa) (pay_ch (own_ch hw) (wn_String hw) S hz F rf I624.1 I624.2.2.1 suf8 (i := 53) (by decide) rfl rfl rfl) pd_lIrC rfl rfl rfl rfl rfl (fun _ q => nomatch q) fun v633 h633 q633 l633 => ?_
  obtain ⟨rfl, e633⟩ := q633
  have e633 := e633.symm
  subst e633
  refine g_put (pc' := 637) (j := 53) (wn_String hw) (by decide) dm3_636 rfl I624 fun h636 I636 => ?_
  refine g_aloadN (pc' := 638) dm3_637 rfl rfl rfl ?_
  refine g_iloadN (pc' := 639) dm3_638 rfl rfl ?_
  refine g_bipush (pc' := 641) (w := 54) dm3_639 rfl (by decide) ?_
  refine g_iadd (pc' := 642) dm3_641 rfl ?_
  rw [show Int32.ofNat pre.length + 54 = Int32.ofNat (pre.length + 54) from ofNat_add2 _ 54]
  refine g_aloadN (pc' := 643) dm3_642 rfl rfl rfl ?_
  refine g_bipush (pc' := 645) (w := 54) dm3_643 rfl (by decide) ?_
  refine g_invokevirtualN (pc' := 648) [] [_] dm3_645 rfl (wl_DefinitionsFixedPinLaw_40 hw) (wd_String_charAt_lIrC hw) (wv_String_String_charAt_lIrC hw) (wm_String_charAt_lIrC hw) (by decide) (NF.sel (wv_String_String_charAt_lIrC hw)) (I636.2.2.1.exa) (pay_ch (own_ch hw) (wn_String hw) S hz F rf I636.1 I636.2.2.1 suf8 (i := 54) (by decide) rfl rfl rfl) pd_lIrC rfl rfl rfl rfl rfl (fun _ q => nomatch q) fun v645 h645 q645 l645 => ?_
  obtain ⟨rfl, e645⟩ := q645
  have e645 := e645.symm
  subst e645
  refine g_put (pc' := 649) (j := 54) (wn_String hw) (by decide) dm3_648 rfl I636 fun h648 I648 => ?_
  refine g_aloadN (pc' := 650) dm3_649 rfl rfl rfl ?_
  refine g_iloadN (pc' := 651) dm3_650 rfl rfl ?_
  refine g_bipush (pc' := 653) (w := 55) dm3_651 rfl (by decide) ?_
  refine g_iadd (pc' := 654) dm3_653 rfl ?_
  rw [show Int32.ofNat pre.length + 55 = Int32.ofNat (pre.length + 55) from ofNat_add2 _ 55]
  refine g_aloadN (pc' := 655) dm3_654 rfl rfl rfl ?_
  refine g_bipush (pc' := 657) (w := 55) dm3_655 rfl (by decide) ?_
  refine g_invokevirtualN (pc' := 660) [] [_] dm3_657 rfl (wl_DefinitionsFixedPinLaw_40 hw) (wd_String_charAt_lIrC hw) (wv_String_String_charAt_lIrC hw) (wm_String_charAt_lIrC hw) (by decide) (NF.sel (wv_String_String_charAt_lIrC hw)) (I648.2.2.1.exa) (pay_ch (own_ch hw) (wn_String hw) S hz F rf I648.1 I648.2.2.1 suf8 (i := 55) (by decide) rfl rfl rfl) pd_lIrC rfl rfl rfl rfl rfl (fun _ q => nomatch q) fun v657 h657 q657 l657 => ?_
  obtain ⟨rfl, e657⟩ := q657
  have e657 := e657.symm
  subst e657
  refine g_put (pc' := 661) (j := 55) (wn_String hw) (by decide) dm3_660 rfl I648 fun h660 I660 => ?_
  refine g_aloadN (pc' := 662) dm3_661 rfl rfl rfl ?_
  refine g_iloadN (pc' := 663) dm3_662 rfl rfl ?_
  refine g_bipush (pc' := 665) (w := 56) dm3_663 rfl (by decide) ?_
  refine g_iadd (pc' := 666) dm3_665 rfl ?_
  rw [show Int32.ofNat pre.length + 56 = Int32.ofNat (pre.length + 56) from ofNat_add2 _ 56]
  refine g_aloadN (pc' := 667) dm3_666 rfl rfl rfl ?_
  refine g_bipush (pc' := 669) (w := 56) dm3_667 rfl (by decide) ?_
  refine g_invokevirtualN (pc' := 672) [] [_] dm3_669 rfl (wl_DefinitionsFixedPinLaw_40 hw) (wd_String_charAt_lIrC hw) (wv_String_String_charAt_lIrC hw) (wm_String_charAt_lIrC hw) (by decide) (NF.sel (wv_String_String_charAt_lIrC hw)) (I660.2.2.1.exa) (pay_ch (own_ch hw) (wn_String hw) S hz F rf I660.1 I660.2.2.1 suf8 (i := 56) (by decide) rfl rfl rfl) pd_lIrC rfl rfl rfl rfl rfl (fun _ q => nomatch q) fun v669 h669 q669 l669 => ?_
  obtain ⟨rfl, e669⟩ := q669
  have e669 := e669.symm
  subst e669
  refine g_put (pc' := 673) (j := 56) (wn_String hw) (by decide) dm3_672 rfl I660 fun h672 I672 => ?_
  refine g_aloadN (pc' := 674) dm3_673 rfl rfl rfl ?_
  refine g_iloadN (pc' := 675) dm3_674 rfl rfl ?_
  refine g_bipush (pc' := 677) (w := 57) dm3_675 rfl (by decide) ?_
  refine g_iadd (pc' := 678) dm3_677 rfl ?_
  rw [show Int32.ofNat pre.length + 57 = Int32.ofNat (pre.length + 57) from ofNat_add2 _ 57]
  refine g_aloadN (pc' := 679) dm3_678 rfl rfl rfl ?_
  refine g_bipush (pc' := 681) (w := 57) dm3_679 rfl (by decide) ?_
  refine g_invokevirtualN (pc' := 684) [] [_] dm3_681 rfl (wl_DefinitionsFixedPinLaw_40 hw) (wd_String_charAt_lIrC hw) (wv_String_String_charAt_lIrC hw) (wm_String_charAt_lIrC hw) (by decide) (NF.sel (wv_String_String_charAt_lIrC hw)) (I672.2.2.1.exa) (pay_ch (own_ch hw) (wn_String hw) S hz F rf I672.1 I672.2.2.1 suf8 (i := 57) (by decide) rfl rfl rfl) pd_lIrC rfl rfl rfl rfl rfl (fun _ q => nomatch q) fun v681 h681 q681 l681 => ?_
  obtain ⟨rfl, e681⟩ := q681
  have e681 := e681.symm
  subst e681
  refine g_put (pc' := 685) (j := 57) (wn_String hw) (by decide) dm3_684 rfl I672 fun h684 I684 => ?_
  refine g_aloadN (pc' := 686) dm3_685 rfl rfl rfl ?_
  refine g_iloadN (pc' := 687) dm3_686 rfl rfl ?_
  refine g_bipush (pc' := 689) (w := 58) dm3_687 rfl (by decide) ?_
  refine g_iadd (pc' := 690) dm3_689 rfl ?_
  rw [show Int32.ofNat pre.length + 58 = Int32.ofNat (pre.length + 58) from ofNat_add2 _ 58]
  refine g_aloadN (pc' := 691) dm3_690 rfl rfl rfl ?_
  refine g_bipush (pc' := 693) (w := 58) dm3_691 rfl (by decide) ?_
  refine g_invokevirtualN (pc' := 696) [] [_] dm3_693 rfl (wl_DefinitionsFixedPinLaw_40 hw) (wd_String_charAt_lIrC hw) (wv_String_String_charAt_lIrC hw) (wm_String_charAt_lIrC hw) (by decide) (NF.sel (wv_String_String_charAt_lIrC hw)) (I684.2.2.1.exa) (pay_ch (own_ch hw) (wn_String hw) S hz F rf I684.1 I684.2.2.1 suf8 (i := 58) (by decide) rfl rfl rfl) pd_lIrC rfl rfl rfl rfl rfl (fun _ q => nomatch q) fun v693 h693 q693 l693 => ?_
  obtain ⟨rfl, e693⟩ := q693
  have e693 := e693.symm
  subst e693
  refine g_put (pc' := 697) (j := 58) (wn_String hw) (by decide) dm3_696 rfl I684 fun h696 I696 => ?_
  refine g_aloadN (pc' := 698) dm3_697 rfl rfl rfl ?_
  refine g_iloadN (pc' := 699) dm3_698 rfl rfl ?_
  refine g_bipush (pc' := 701) (w := 59) dm3_699 rfl (by decide) ?_
  refine g_iadd (pc' := 702) dm3_701 rfl ?_
  rw [show Int32.ofNat pre.length + 59 = Int32.ofNat (pre.length + 59) from ofNat_add2 _ 59]
  refine g_aloadN (pc' := 703) dm3_702 rfl rfl rfl ?_
  refine g_bipush (pc' := 705) (w := 59) dm3_703 rfl (by decide) ?_
  refine g_invokevirtualN (pc' := 708) [] [_] dm3_705 rfl (wl_DefinitionsFixedPinLaw_40 hw) (wd_String_charAt_lIrC hw) (wv_String_String_charAt_lIrC hw) (wm_String_charAt_lIrC hw) (by decide) (NF.sel (wv_String_String_charAt_lIrC hw)) (I696.2.2.1.exa) (pay_ch (own_ch hw) (wn_String hw) S hz F rf I696.1 I696.2.2.1 suf8 (i := 59) (by decide) rfl rfl rfl) pd_lIrC rfl rfl rfl rfl rfl (fun _ q => nomatch q) fun v705 h705 q705 l705 => ?_
  obtain ⟨rfl, e705⟩ := q705
  have e705 := e705.symm
  subst e705
  refine g_put (pc' := 709) (j := 59) (wn_String hw) (by decide) dm3_708 rfl I696 fun h708 I708 => ?_
  refine g_aloadN (pc' := 710) dm3_709 rfl rfl rfl ?_
  refine g_iloadN (pc' := 711) dm3_710 rfl rfl ?_
  refine g_bipush (pc' := 713) (w := 60) dm3_711 rfl (by decide) ?_
  refine g_iadd (pc' := 714) dm3_713 rfl ?_
  rw [show Int32.ofNat pre.length + 60 = Int32.ofNat (pre.length + 60) from ofNat_add2 _ 60]
  refine g_aloadN (pc' := 715) dm3_714 rfl rfl rfl ?_
  refine g_bipush (pc' := 717) (w := 60) dm3_715 rfl (by decide) ?_
  refine g_invokevirtualN (pc' := 720) [] [_] dm3_717 rfl (wl_DefinitionsFixedPinLaw_40 hw) (wd_String_charAt_lIrC hw) (wv_String_String_charAt_lIrC hw) (wm_String_charAt_lIrC hw) (by decide) (NF.sel (wv_String_String_charAt_lIrC hw)) (I708.2.2.1.exa) (pay_ch (own_ch hw) (wn_String hw) S hz F rf I708.1 I708.2.2.1 suf8 (i := 60) (by decide) rfl rfl rfl) pd_lIrC rfl rfl rfl rfl rfl (fun _ q => nomatch q) fun v717 h717 q717 l717 => ?_
  obtain ⟨rfl, e717⟩ := q717
  have e717 := e717.symm
  subst e717
  refine g_put (pc' := 721) (j := 60) (wn_String hw) (by decide) dm3_720 rfl I708 fun h720 I720 => ?_
  refine g_aloadN (pc' := 722) dm3_721 rfl rfl rfl ?_
  refine g_iloadN (pc' := 723) dm3_722 rfl rfl ?_
  refine g_bipush (pc' := 725) (w := 61) dm3_723 rfl (by decide) ?_
  refine g_iadd (pc' := 726) dm3_725 rfl ?_
  rw [show Int32.ofNat pre.length + 61 = Int32.ofNat (pre.length + 61) from ofNat_add2 _ 61]
  refine g_aloadN (pc' := 727) dm3_726 rfl rfl rfl ?_
  refine g_bipush (pc' := 729) (w := 61) dm3_727 rfl (by decide) ?_
  refine g_invokevirtualN (pc' := 732) [] [_] dm3_729 rfl (wl_DefinitionsFixedPinLaw_40 hw) (wd_String_charAt_lIrC hw) (wv_String_String_charAt_lIrC hw) (wm_String_charAt_lIrC hw) (by decide) (NF.sel (wv_String_String_charAt_lIrC hw)) (I720.2.2.1.exa) (pay_ch (own_ch hw) (wn_String hw) S hz F rf I720.1 I720.2.2.1 suf8 (i := 61) (by decide) rfl rfl rfl) pd_lIrC rfl rfl rfl rfl rfl (fun _ q => nomatch q) fun v729 h729 q729 l729 => ?_
  obtain ⟨rfl, e729⟩ := q729
  have e729 := e729.symm
  subst e729
  refine g_put (pc' := 733) (j := 61) (wn_String hw) (by decide) dm3_732 rfl I720 fun h732 I732 => ?_
  refine g_aloadN (pc' := 734) dm3_733 rfl rfl rfl ?_
  refine g_iloadN (pc' := 735) dm3_734 rfl rfl ?_
  refine g_bipush (pc' := 737) (w := 62) dm3_735 rfl (by decide) ?_
  refine g_iadd (pc' := 738) dm3_737 rfl ?_
  rw [show Int32.ofNat pre.length + 62 = Int32.ofNat (pre.length + 62) from ofNat_add2 _ 62]
  refine g_aloadN (pc' := 739) dm3_738 rfl rfl rfl ?_
  refine g_bipush (pc' := 741) (w := 62) dm3_739 rfl (by decide) ?_
  refine g_invokevirtualN (pc' := 744) [] [_] dm3_741 rfl (wl_DefinitionsFixedPinLaw_40 hw) (wd_String_charAt_lIrC hw) (wv_String_String_charAt_lIrC hw) (wm_String_charAt_lIrC hw) (by decide) (NF.sel (wv_String_String_charAt_lIrC hw)) (I732.2.2.1.exa) (pay_ch (own_ch hw) (wn_String hw) S hz F rf I732.1 I732.2.2.1 suf8 (i := 62) (by decide) rfl rfl rfl) pd_lIrC rfl rfl rfl rfl rfl (fun _ q => nomatch q) fun v741 h741 q741 l741 => ?_
  obtain ⟨rfl, e741⟩ := q741
  have e741 := e741.symm
  subst e741
  refine g_put (pc' := 745) (j := 62) (wn_String hw) (by decide) dm3_744 rfl I732 fun h744 I744 => ?_
  refine g_aloadN (pc' := 746) dm3_745 rfl rfl rfl ?_
  refine g_iloadN (pc' := 747) dm3_746 rfl rfl ?_
  refine g_bipush (pc' := 749) (w := 63) dm3_747 rfl (by decide) ?_
  refine g_iadd (pc' := 750) dm3_749 rfl ?_
  rw [show Int32.ofNat pre.length + 63 = Int32.ofNat (pre.length + 63) from ofNat_add2 _ 63]
  refine g_aloadN (pc' := 751) dm3_750 rfl rfl rfl ?_
  refine g_bipush (pc' := 753) (w := 63) dm3_751 rfl (by decide) ?_
  refine g_invokevirtualN (pc' := 756) [] [_] dm3_753 rfl (wl_DefinitionsFixedPinLaw_40 hw) (wd_String_charAt_lIrC hw) (wv_String_String_charAt_lIrC hw) (wm_String_charAt_lIrC hw) (by decide) (NF.sel (wv_String_String_charAt_lIrC hw)) (I744.2.2.1.exa) (pay_ch (own_ch hw) (wn_String hw) S hz F rf I744.1 I744.2.2.1 suf8 (i := 63) (by decide) rfl rfl rfl) pd_lIrC rfl rfl rfl rfl rfl (fun _ q => nomatch q) fun v753 h753 q753 l753 => ?_
  obtain ⟨rfl, e753⟩ := q753
  have e753 := e753.symm
  subst e753
  refine g_put (pc' := 757) (j := 63) (wn_String hw) (by decide) dm3_756 rfl I744 fun h756 I756 => ?_
  refine g_aloadN (pc' := 758) dm3_757 rfl rfl rfl ?_
  refine g_iloadN (pc' := 759) dm3_758 rfl rfl ?_
  refine g_bipush (pc' := 761) (w := 64) dm3_759 rfl (by decide) ?_
  refine g_iadd (pc' := 762) dm3_761 rfl ?_
  rw [show Int32.ofNat pre.length + 64 = Int32.ofNat (pre.length + 64) from ofNat_add2 _ 64]
  refine g_aloadN (pc' := 763) dm3_762 rfl rfl rfl ?_
  refine g_bipush (pc' := 765) (w := 64) dm3_763 rfl (by decide) ?_
  refine g_invokevirtualN (pc' := 768) [] [_] dm3_765 rfl (wl_DefinitionsFixedPinLaw_40 hw) (wd_String_charAt_lIrC hw) (wv_String_String_charAt_lIrC hw) (wm_String_charAt_lIrC hw) (by decide) (NF.sel (wv_String_String_charAt_lIrC hw)) (I756.2.2.1.exa) (pay_ch (own_ch hw) (wn_String hw) S hz F rf I756.1 I756.2.2.1 suf8 (i := 64) (by decide) rfl rfl rfl) pd_lIrC rfl rfl rfl rfl rfl (fun _ q => nomatch q) fun v765 h765 q765 l765 => ?_
  obtain ⟨rfl, e765⟩ := q765
  have e765 := e765.symm
  subst e765
  refine g_put (pc' := 769) (j := 64) (wn_String hw) (by decide) dm3_768 rfl I756 fun h768 I768 => ?_
  refine g_aloadN (pc' := 770) dm3_769 rfl rfl rfl ?_
  refine g_iloadN (pc' := 771) dm3_770 rfl rfl ?_
  refine g_bipush (pc' := 773) (w := 65) dm3_771 rfl (by decide) ?_
  refine g_iadd (pc' := 774) dm3_773 rfl ?_
  rw [show Int32.ofNat pre.length + 65 = Int32.ofNat (pre.length + 65) from ofNat_add2 _ 65]
  refine g_aloadN (pc' := 775) dm3_774 rfl rfl rfl ?_
  refine g_bipush (pc' := 777) (w := 65) dm3_775 rfl (by decide) ?_
  refine g_invokevirtualN (pc' := 780) [] [_] dm3_777 rfl (wl_DefinitionsFixedPinLaw_40 hw) (wd_String_charAt_lIrC hw) (wv_String_String_charAt_lIrC hw) (wm_String_charAt_lIrC hw) (by decide) (NF.sel (wv_String_String_charAt_lIrC hw)) (I768.2.2.1.exa) (pay_ch (own_ch hw) (wn_String hw) S hz F rf I768.1 I768.2.2.1 suf8 (i := 65) (by decide) rfl rfl rfl) pd_lIrC rfl rfl rfl rfl rfl (fun _ q => nomatch q) fun v777 h777 q777 l777 => ?_
  obtain ⟨rfl, e777⟩ := q777
  have e777 := e777.symm
  subst e777
  refine g_put (pc' := 781) (j := 65) (wn_String hw) (by decide) dm3_780 rfl I768 fun h780 I780 => ?_
  refine g_aloadN (pc' := 782) dm3_781 rfl rfl rfl ?_
  refine g_iloadN (pc' := 783) dm3_782 rfl rfl ?_
  refine g_bipush (pc' := 785) (w := 66) dm3_783 rfl (by decide) ?_
  refine g_iadd (pc' := 786) dm3_785 rfl ?_
  rw [show Int32.ofNat pre.length + 66 = Int32.ofNat (pre.length + 66) from ofNat_add2 _ 66]
  refine g_aloadN (pc' := 787) dm3_786 rfl rfl rfl ?_
  refine g_bipush (pc' := 789) (w := 66) dm3_787 rfl (by decide) ?_
  refine g_invokevirtualN (pc' := 792) [] [_] dm3_789 rfl (wl_DefinitionsFixedPinLaw_40 hw) (wd_String_charAt_lIrC hw) (wv_String_String_charAt_lIrC hw) (wm_String_charAt_lIrC hw) (by decide) (NF.sel (wv_String_String_charAt_lIrC hw)) (I780.2.2.1.exa) (pay_ch (own_ch hw) (wn_String hw) S hz F rf I780.1 I780.2.2.1 suf8 (i := 66) (by decide) rfl rfl rfl) pd_lIrC rfl rfl rfl rfl rfl (fun _ q => nomatch q) fun v789 h789 q789 l789 => ?_
  obtain ⟨rfl, e789⟩ := q789
  have e789 := e789.symm
  subst e789
  refine g_put (pc' := 793) (j := 66) (wn_String hw) (by decide) dm3_792 rfl I780 fun h792 I792 => ?_
  refine g_aloadN (pc' := 794) dm3_793 rfl rfl rfl ?_
  refine g_iloadN (pc' := 795) dm3_794 rfl rfl ?_
  refine g_bipush (pc' := 797) (w := 67) dm3_795 rfl (by decide) ?_
  refine g_iadd (pc' := 798) dm3_797 rfl ?_
  rw [show Int32.ofNat pre.length + 67 = Int32.ofNat (pre.length + 67) from ofNat_add2 _ 67]
  refine g_aloadN (pc' := 799) dm3_798 rfl rfl rfl ?_
  refine g_bipush (pc' := 801) (w := 67) dm3_799 rfl (by decide) ?_
  refine g_invokevirtualN (pc' := 804) [] [_] dm3_801 rfl (wl_DefinitionsFixedPinLaw_40 hw) (wd_String_charAt_lIrC hw) (wv_String_String_charAt_lIrC hw) (wm_String_charAt_lIrC hw) (by decide) (NF.sel (wv_String_String_charAt_lIrC hw)) (I792.2.2.1.exa) (pay_ch (own_ch hw) (wn_String hw) S hz F rf I792.1 I792.2.2.1 suf8 (i := 67) (by decide) rfl rfl rfl) pd_lIrC rfl rfl rfl rfl rfl (fun _ q => nomatch q) fun v801 h801 q801 l801 => ?_
  obtain ⟨rfl, e801⟩ := q801
  have e801 := e801.symm
  subst e801
  refine g_put (pc' := 805) (j := 67) (wn_String hw) (by decide) dm3_804 rfl I792 fun h804 I804 => ?_
  refine g_aloadN (pc' := 806) dm3_805 rfl rfl rfl ?_
  refine g_iloadN (pc' := 807) dm3_806 rfl rfl ?_
  refine g_bipush (pc' := 809) (w := 68) dm3_807 rfl (by decide) ?_
  refine g_iadd (pc' := 810) dm3_809 rfl ?_
  rw [show Int32.ofNat pre.length + 68 = Int32.ofNat (pre.length + 68) from ofNat_add2 _ 68]
  refine g_aloadN (pc' := 811) dm3_810 rfl rfl rfl ?_
  refine g_bipush (pc' := 813) (w := 68) dm3_811 rfl (by decide) ?_
  refine g_invokevirtualN (pc' := 816) [] [_] dm3_813 rfl (wl_DefinitionsFixedPinLaw_40 hw) (wd_String_charAt_lIrC hw) (wv_String_String_charAt_lIrC hw) (wm_String_charAt_lIrC hw) (by decide) (NF.sel (wv_String_String_charAt_lIrC hw)) (I804.2.2.1.exa) (pay_ch (own_ch hw) (wn_String hw) S hz F rf I804.1 I804.2.2.1 suf8 (i := 68) (by decide) rfl rfl rfl) pd_lIrC rfl rfl rfl rfl rfl (fun _ q => nomatch q) fun v813 h813 q813 l813 => ?_
  obtain ⟨rfl, e813⟩ := q813
  have e813 := e813.symm
  subst e813
  refine g_put (pc' := 817) (j := 68) (wn_String hw) (by decide) dm3_816 rfl I804 fun h816 I816 => ?_
  refine g_return dm3_817 rfl rfl rfl ⟨rfl, I816.2.1, ?_⟩
  have := I816.2.2.2.1
  simpa [putL] using this
end Put
/-! Definitions.fixed: the exception it makes -/
section Fixed
open Jvm.Free.Exc
variable {X : Cx} {l : Launch} {R : Room} {Z : State} {a0 : Array Value} {EL : List (String × Nat)} {nw : Bool} {h : Heap} {z : Int32}
abbrev yFix : MethodName := ⟨"wirefold/Definitions", "fixed", "(Ljava/lang/String;)Ljava/lang/IllegalStateException;"⟩
theorem met_fix (hw : ∀ d ∈ tables_1, d.before a0 Z = true) (hl : l.stackTraces = true) (r2 : ThrSta Z) (S : Sta Z Z.heap "java/lang/String" "COMPACT_STRINGS" "Z" (.int z)) (hz : ¬ z = 0) (EZ : Ext Z.heap h) {x : Addr} {cs : List Int32} (T : Str Z h x cs) (hcs : ∀ c ∈ cs, ¬ c < 0 ∧ ¬ (255 : Int32) < c) (h3 : cs.length ≤ 3) :
    MetK [] l yFix prog_35_method_9_code 1 (some (.object ISE)) (Rm 7 10 3500 150) #[.ref x] Z a0 consts_1 false [] h (fun v h' => ∃ ea m, v = some (.ref ea) ∧ Ext h h' ∧ Exa Z h' ea ISE ∧ Unt h' ea ∧ Fld Z h' ea tN "detailMessage" msgD (.ref m) ∧ Fld Z h' ea tN "cause" thD (.ref ea) ∧ Str Z h' m (cs ++ suf)) := by
  have hcL : ∀ c ∈ cs, ¬ (255 : Int32) < c := fun c q => (hcs c q).2
  have e16 : capOf (([] : List Int32).length + cs.length) 16 = 16 := if_pos (by simp; omega)
  have sl : suf.length = 69 := rfl
  refine MetK.of (plainFor_of_name (by first | (simp [plainName, overriddenIn]; done) | decide +kernel)) fun X hX Kx => ?_
  show Go X _ _ _ _ _ _ _ _ _ _ _ _ _ _ _ _ (mkF X.m 0 #[.val (.ref x)] [])
  have hlX : X.l.stackTraces = true := by rw [hX]; exact hl
  refine g_newU (pc' := 3) dp35_9_0 rfl (wc_Definitions_102 hw) (wn_IllegalStateException hw) (wi_IllegalStateException hw) rfl rfl fun h0 ea e0 E0 A0 D0 U0 => ?_
  refine g_dup (pc' := 4) dp35_9_3 rfl rfl ?_
  refine g_new (pc' := 7) dp35_9_4 rfl (wc_Definitions_53 hw) (wn_StringBuilder hw) (wi_StringBuilder hw) rfl rfl fun h4 a4 e4 E4 A4 D4 => ?_
  refine g_dup (pc' := 8) dp35_9_7 rfl rfl ?_
  have ha4 : Z.heap.size ≤ a4 := by rw [e4]; exact (ext_trans EZ E0).1
  refine g_specialB [a4] (pc' := 11) [a4] [] dp35_9_8 rfl rfl (wl_Definitions_55 hw) (wm_StringBuilder_init_lrV hw) (wb_StringBuilder_init_lrV hw) (by decide) (Pay.of_met (met_SBi hw S hz ha4 A4 (D4 (Or.inl (wy_StringBuilder_AbstractStringBuilder_value hw)) (ty := .array .byte) (by decide)) (D4 (Or.inl (wy_StringBuilder_AbstractStringBuilder_coder hw)) (ty := .byte) (by decide)) (D4 (Or.inl (wy_StringBuilder_AbstractStringBuilder_count hw)) (ty := .int) (by decide))) (wb_StringBuilder_init_lrV hw) (wi_StringBuilder hw) rfl rfl) (fun _ _ q => q.2.1) (fun _ q => by cases List.mem_singleton.mp q; simp) pd_lrV rfl rfl rfl rfl rfl (fun _ q => by cases List.mem_singleton.mp q; simp) fun v8 h8 q8 l8 => ?_
  obtain ⟨rfl, K8, t, t1, t2, B8⟩ := q8
  refine ⟨[t], fun y hy => by cases List.mem_singleton.mp hy; exact ⟨t1, t2⟩, ?_⟩
  have n4 : ea ∉ [a4] := fun q => absurd A0.lt (by rw [List.mem_singleton.mp q, e4]; exact Nat.lt_irrefl _)
  have s4 : h.size ≤ a4 := by rw [e4]; exact E0.1
  have F8 : Ext h h8 := ext_keep (ext_trans E0 E4) K8 (allS s4 all0)
  have st : h.size ≤ t := Nat.le_trans (ext_trans E0 E4).1 t1
  have ht : Z.heap.size ≤ t := Nat.le_trans EZ.1 st
  refine g_aloadN (pc' := 12) dp35_9_11 rfl rfl rfl ?_
  refine g_virtualB [a4, t] (pc' := 15) [a4, t] [_] dp35_9_12 rfl (wl_Definitions_58 hw) (wd_StringBuilder_append_lLjavalangStringrLjavalangStringBuilder hw) (wv_StringBuilder_StringBuilder_append_lLjavalangStringrLjavalangStringBuilder hw) (wm_StringBuilder_append_lLjavalangStringrLjavalangStringBuilder hw) (by decide) (NF.sel (wv_StringBuilder_StringBuilder_append_lLjavalangStringrLjavalangStringBuilder hw)) (B8.1) (Pay.of_met (met_SApS (W := 16) hw S hz (ext_trans EZ F8) ha4 ht B8 (T.ext F8) hcL (by rw [e16]; decide) (by rw [e16]; exact Nat.le_refl _)) (wb_StringBuilder_append_lLjavalangStringrLjavalangStringBuilder hw) (wi_StringBuilder hw) rfl rfl) (fun _ _ q => q.2.1) (fun _ q => by simp at q ⊢; rcases q with q | q <;> simp [q]) pd_lLjavalangStringrLjavalangStringBuilder rfl rfl rfl rfl rfl (fun _ q => by simp at q ⊢; rcases q with q | q <;> simp [q]) fun v12 h12 q12 l12 => ?_
  obtain ⟨rfl, K12, t', u1, u2, B12⟩ := q12
  rw [e16, List.nil_append] at B12
  refine ⟨if t' = t then [] else [t'], fun y hy => by split at hy <;> simp at hy; subst hy; exact ⟨u1.resolve_left ‹_›, u2⟩, ?_⟩
  have hm : t' ∈ (if t' = t then [] else [t']) ++ [t, a4, ea] := by split <;> simp [*]
  have hm4 : a4 ∈ (if t' = t then [] else [t']) ++ [t, a4, ea] := by simp
  have hme : ea ∈ (if t' = t then [] else [t']) ++ [t, a4, ea] := by simp
  have st' : h.size ≤ t' := u1.elim (fun q => q ▸ st) fun q => Nat.le_trans F8.1 q
  have ht' : Z.heap.size ≤ t' := Nat.le_trans EZ.1 st'
  have F12 : Ext h h12 := ext_keep F8 K12 (allS s4 (allS st all0))
  refine g_lit (pc' := 17) rfl [58, 32, 116, 104, 101, 32, 100, 101, 102, 105, 110, 105, 116, 105, 111, 110, 115, 32, 97, 114, 101, 32, 102, 105, 120, 101, 100, 32, 111, 110, 99, 101, 32, 116, 104, 101, 32, 102, 97, 99, 116, 111, 114, 121, 32, 112, 111, 115, 116, 45, 112, 114, 111, 99, 101, 115, 115, 111, 114, 115, 32, 104, 97, 118, 101, 32, 114, 117, 110] 276 dp35_9_15 rfl (wt_Definitions_162 hw) (own_atoms hw) (by decide) ⟨by decide, by decide⟩ (by decide) (by decide) (by decide) rfl rfl rfl rfl rfl fun h15 a15 E15 T15 n15 => ?_
  have F15 : Ext h h15 := ext_trans F12 E15
  have eN : capOf (cs.length + suf.length) 16 = cs.length + 69 := by rw [sl]; unfold capOf; rw [if_neg (by omega)]; omega
  refine g_virtualB [a4, t'] (pc' := 20) [a4, t'] [_] dp35_9_17 rfl (wl_Definitions_58 hw) (wd_StringBuilder_append_lLjavalangStringrLjavalangStringBuilder hw) (wv_StringBuilder_StringBuilder_append_lLjavalangStringrLjavalangStringBuilder hw) (wm_StringBuilder_append_lLjavalangStringrLjavalangStringBuilder hw) (by decide) (NF.sel (wv_StringBuilder_StringBuilder_append_lLjavalangStringrLjavalangStringBuilder hw)) ((B12.ext E15).1) (Pay.of_met (met_SApS (W := 72) hw S hz (ext_trans EZ F15) ha4 ht' (B12.ext E15) (ds := suf) T15 suf8 (by rw [eN]; omega) (by rw [eN]; omega)) (wb_StringBuilder_append_lLjavalangStringrLjavalangStringBuilder hw) (wi_StringBuilder hw) rfl rfl) (fun _ _ q => q.2.1) (fun _ q => by rcases List.mem_cons.mp q with rfl | q; exact hm4; cases List.mem_singleton.mp q; exact hm) pd_lLjavalangStringrLjavalangStringBuilder rfl rfl rfl rfl rfl (fun _ q => by rcases List.mem_cons.mp q with rfl | q; exact hm4; cases List.mem_singleton.mp q; exact hm) fun v17 h17 q17 l17 => ?_
  obtain ⟨rfl, K17, t2', w1, w2, B17⟩ := q17
  rw [eN] at B17
  refine ⟨[], (fun _ q => nomatch q), ?_⟩
  have F17 : Ext h h17 := ext_keep F15 K17 (allS s4 (allS st' all0))
  have hall : ∀ c ∈ cs ++ suf, ¬ c < 0 ∧ ¬ (255 : Int32) < c := fun c q => (List.mem_append.mp q).elim (hcs c) (suf255 c)
  refine g_invokevirtualN (pc' := 23) [] [] dp35_9_20 rfl (wl_Definitions_64 hw) (wd_StringBuilder_toString_lrLjavalangString hw) (wv_StringBuilder_StringBuilder_toString_lrLjavalangString hw) (wm_StringBuilder_toString_lrLjavalangString hw) (by decide) (NF.sel (wv_StringBuilder_StringBuilder_toString_lrLjavalangString hw)) (B17.1) (Pay.of_met (met_TS (W := 72) hw S hz (ext_trans EZ F17) B17 (by rw [List.length_append, sl]) hall (by omega)) (wb_StringBuilder_toString_lrLjavalangString hw) (wi_StringBuilder hw) rfl rfl) pd_lrLjavalangString rfl rfl rfl rfl rfl (fun _ q => nomatch q) fun v20 h20 q20 l20 => ?_
  obtain ⟨m, rfl, -, -, E20, T20⟩ := q20
  have F20 : Ext h h20 := ext_trans F17 E20
  have n1 : ea ≠ a4 := fun q => n4 (List.mem_singleton.mpr q)
  have Ae : Exa Z h20 ea ISE := (((((((A0.ext E4).keep K8).keep K12).ext E15).keep K17).ext E20))
  obtain ⟨-, -, -, -, k8, v8, -, R8, -⟩ := id B8
  obtain ⟨-, -, -, -, k12, v12, -, R12, -⟩ := id B12
  have n2 : ea ≠ t := ((A0.ext E4).keep K8).neArv R8 (wn_IllegalStateException hw)
  have n3 : ea ≠ t' := ((((A0.ext E4).keep K8).keep K12)).neArv R12 (wn_IllegalStateException hw)
  have o8 : ea ∉ [a4] := n4
  have o12 : ea ∉ [a4, t] := fun q => by rcases List.mem_cons.mp q with q | q; exact n1 q; exact n2 (List.mem_singleton.mp q)
  have o17 : ea ∉ [a4, t'] := fun q => by rcases List.mem_cons.mp q with q | q; exact n1 q; exact n3 (List.mem_singleton.mp q)
  have Ue : Unt h20 ea := by
    have U4 : Unt h4 ea := by obtain ⟨c, q, r⟩ := U0; exact ⟨c, E4.2 _ _ q, r⟩
    have U12 := Unt.keep K12 o12 (Unt.keep K8 o8 U4)
    have U15 : Unt h15 ea := by obtain ⟨c, q, r⟩ := U12; exact ⟨c, E15.2 _ _ q, r⟩
    have U17 := Unt.keep K17 o17 U15
    obtain ⟨c, q, r⟩ := U17
    exact ⟨c, E20.2 _ _ q, r⟩
  have cy : ∀ {nm d : String} {v : Value}, Fld Z h0 ea tN nm d v → Fld Z h20 ea tN nm d v := fun F => ((((((F.ext E4).keep K8 o8).keep K12 o12).ext E15).keep K17 o17)).ext E20
  have se : h.size ≤ ea := Nat.le_of_eq e0.symm
  have P20 : IseP Z h20 ea := ⟨Nat.le_trans EZ.1 se, Ae, Ue, cy (D0 (Or.inl (wy_IllegalStateException_Throwable_backtrace hw)) (ty := .object "java/lang/Object") (by decide)), _, _, _, _, cy (D0 (Or.inl (wy_IllegalStateException_Throwable_cause hw)) (ty := .object "java/lang/Throwable") (by decide)), cy (D0 (Or.inl (wy_IllegalStateException_Throwable_stackTrace hw)) (ty := .array (.object "java/lang/StackTraceElement")) (by decide)), cy (D0 (Or.inl (wy_IllegalStateException_Throwable_suppressedExceptions hw)) (ty := .object "java/util/List") (by decide)), cy (D0 (Or.inl (wy_IllegalStateException_Throwable_detailMessage hw)) (ty := .object "java/lang/String") (by decide))⟩
  refine g_specialK (pc' := 26) Kx [ea] [_] dp35_9_23 rfl rfl (wl_Definitions_113 hw) (wm_IllegalStateException_init_lLjavalangStringrV hw) (wb_IllegalStateException_init_lLjavalangStringrV hw) (by decide) (PayK.of_met (met_ISE hw (by rw [hX]; exact hl) r2 P20) (wb_IllegalStateException_init_lLjavalangStringrV hw) (wi_IllegalStateException hw) rfl rfl) pd_lLjavalangStringrV rfl rfl rfl rfl rfl (fun _ q => by cases List.mem_singleton.mp q; exact hme) fun v23 h23 q23 l23 => ?_
  obtain ⟨rfl, K23, U23, M23, C23⟩ := q23
  have A23 := Ae.keep K23
  have hne : m ≠ ea := T20.exa.ne Ae (by decide)
  have T23 : Str Z h23 m (cs ++ suf) := str_keepW T20 Ae (wn_IllegalStateException hw) (by decide) K23
  refine g_areturn dp35_9_26 rfl rfl rfl rfl rfl rfl ⟨ea, m, rfl, ext_keep F20 K23 (allS se all0), A23, U23, M23, C23, T23⟩
end Fixed
section Law
open Jvm.Free.Exc
variable {l : Launch} {R : Room} {Z : State} {a0 : Array Value} {nw : Bool} {EL : List (String × Nat)} {h : Heap} {z : Int32} {fm : Value}
abbrev yGM : MethodName := ⟨"java/lang/Throwable", "getMessage", "()Ljava/lang/String;"⟩
theorem met_GM (hw : ∀ d ∈ tables_1, d.before a0 Z = true) {e m : Addr} (F : Fld Z h e tN "detailMessage" msgD (.ref m)) : MetW [] l yGM jdk_78_method_6_code 1 (some (.object "java/lang/String")) (Rm 0 0 0 0) #[.ref e] Z a0 EL nw [] h (fun v h' => v = some (.ref m) ∧ h' = h) := by
  refine MetW.of (by first | exact plainFor_of_name (by first | (simp [plainName, overriddenIn]; done) | decide +kernel) | decide +kernel) fun X hX => Go.old fun EZ => ?_
  show Go X _ _ _ _ _ _ _ _ _ _ _ _ _ _ _ _ (mkF X.m 0 #[.val (.ref e)] [])
  refine g_aloadN (pc' := 1) dj78_6_0 rfl rfl rfl ?_
  refine g_getfield (pc' := 4) dj78_6_1 rfl (wf_Throwable_31 hw) (F) ?_
  refine g_areturn dj78_6_4 rfl rfl rfl rfl rfl rfl (⟨rfl, rfl⟩)
theorem pay_gc {W : Nat} {sf : List Addr} (hw : ∀ d ∈ tables_1, d.before a0 Z = true) {e : Addr} (N : Unt h e) (F : Fld Z h e tN "cause" thD (.ref e)) (hf : Nat.ble 1 R.frames = true) (hl : Nat.ble (W + 12) R.locals = true) : Pay l R RoadKit.gcN W #[.ref e] Z a0 EL nw sf h 0 0 (fun v h' => v = some .null ∧ h' = h) :=
  Pay.pure (P := fun v => v = some .null) fun p e' below s args len hZ m meth c A g ig mk a X1 hg hsize hdg hW hn hp => by
    obtain ⟨v, B, X2, ⟨e1, e2, e3, e4, e5⟩, stp⟩ := gcBackPure (rm := Rm 0 0 0 0) (len := len) hZ (wh_Throwable_getCause_lrLjavalangThrowable hw) (wm_Throwable_getCause_lrLjavalangThrowable hw) (wi_Throwable hw) (wf_Throwable_7 hw) N F rfl (ble hf) (ble hl) m meth c A g ig mk a X1 hg hsize hdg hW hn hp
    exact ⟨v, B, X2, ⟨[], ⟨by rw [e1, gcv_self], rfl, e2⟩, by rw [e3, List.append_nil], e4, e5⟩, stp⟩
theorem law_tail {X : Cx} (hX : X.l = l) (Kx : Kn X Z) (hw : ∀ d ∈ tables_1, d.before a0 Z = true) (hl : l.stackTraces = true) (r2 : ThrSta Z) (S : Sta Z Z.heap "java/lang/String" "COMPACT_STRINGS" "Z" (.int z)) (hz : ¬ z = 0) (F : Sta Z Z.heap "jdk/internal/util/Preconditions" "SIOOBE_FORMATTER" "Ljava/util/function/BiFunction;" fm) (rf : fm.isRef = true) (EZ : Ext Z.heap h) {s0 s1 s3 s4 s5 : Slot} {sf : List Addr} {ps : List Int32} (h3 : ps.length ≤ 3) (hps : ∀ c ∈ ps, ¬ c < 0 ∧ ¬ (255 : Int32) < c) {a6 a7 : Addr} {k6 k7 : ClassId} (h7 : Z.heap.size ≤ a7) (h67 : a6 ≠ a7)
    (A6 : Arv Z h a6 k6 .char (Int32.ofNat ps.length) (ps.map Value.int) (.int 0)) (A7 : Arv Z h a7 k7 .char (Int32.ofNat (69 + ps.length)) (ps.map Value.int ++ List.replicate 69 (.int 0)) (.int 0)) :
    Go X room_1 Z a0 consts_1 false x code 11 ret (fun v h' => v = some (.int 1)) 40 9344 sf h 2 75 (mkF X.m 148 #[s0, s1, .val (.int (Int32.ofNat ps.length)), s3, s4, s5, .val (.ref a6), .val (.ref a7), .unset, .unset, .unset] []) := by
  have sl : suf.length = 69 := rfl
  have lp : (ps ++ suf).length = 69 + ps.length := by rw [List.length_append, sl]; omega
  refine g_aload (pc' := 150) at_148 rfl rfl rfl ?_
  refine g_iloadN (pc' := 151) at_150 rfl rfl ?_
  refine g_invokestatic (pc' := 154) [] [_, _] at_151 rfl (wl_DefinitionsFixedPinLaw_7 hw) (ws_DefinitionsFixedPinLaw_putSuffix_lACIrV hw) (wi_DefinitionsFixedPinLaw hw) (wb_DefinitionsFixedPinLaw_putSuffix_lACIrV hw) (by decide) (Pay.of_met (met_put hw S hz F rf EZ (pre := ps.map Value.int) (List.length_map ..) h3 h7 A7) (wb_DefinitionsFixedPinLaw_putSuffix_lACIrV hw) (wi_DefinitionsFixedPinLaw hw) rfl rfl) pd_lACIrV rfl rfl rfl rfl rfl (fun _ q => nomatch q) fun v151 h151 q151 l151 => ?_
  obtain ⟨rfl, K151, A151⟩ := q151
  have Z151 : Ext Z.heap h151 := ext_keep EZ K151 (allS h7 all0)
  have B6 := A6.keep K151 (fun q => h67 (List.mem_singleton.mp q))
  refine g_new (pc' := 157) at_154 rfl (wc_DefinitionsFixedPinLaw_13 hw) (wn_String hw) (wi_String hw) rfl rfl fun h154 a154 e154 E154 A154 D154 => ?_
  refine g_dup (pc' := 158) at_157 rfl rfl ?_
  refine g_aload (pc' := 160) at_158 rfl rfl rfl ?_
  have z154 : Z.heap.size ≤ a154 := by rw [e154]; exact Z151.1
  have P6 : Pay X.l room_1 ⟨"java/lang/String", "<init>", "([C)V"⟩ 1 #[.ref a154, .ref a6] Z a0 consts_1 false [a154] h154 4 8 (fun v h' => v = none ∧ Keep h154 h' [a154] ∧ Str Z h' a154 ps) := by
    have V := D154 (Or.inr (wy_String_String_value hw)) (ty := .array .byte) (by decide)
    have C := D154 (Or.inr (wy_String_String_coder hw)) (ty := .byte) (by decide)
    by_cases e : ps = []
    · subst e
      exact pay_new0 hw (by decide) z154 A154 V C (B6.ext E154) rfl rfl
    · have l1 : 0 < ps.length := List.length_pos_iff.mpr e
      exact (pay_new (cs := ps) (n := ps.length) (own_new hw) (wn_String hw) S hz (ext_trans Z151 E154) z154 A154 V C (B6.ext E154) rfl rfl (bl l1) (bl (by omega)) hps rfl rfl).up (by decide) (by omega)
  refine g_invokespecial (pc' := 163) [a154] [_] at_160 rfl rfl (wl_DefinitionsFixedPinLaw_15 hw) (wm_String_init_lACrV hw) (wb_String_init_lACrV hw) (by decide) (P6) pd_lACrV rfl rfl rfl rfl rfl (fun _ q => by cases List.mem_singleton.mp q; simp) fun v160 h160 q160 l160 => ?_
  obtain ⟨rfl, K160, T8⟩ := q160
  have F160 : Ext h151 h160 := ext_keep E154 K160 (allS (Nat.le_of_eq e154.symm) all0)
  refine g_astore (pc' := 165) (Ls' := #[_, _, _, _, _, _, _, _, _, _, _]) at_163 rfl rfl rfl ?_
  refine g_new (pc' := 168) at_165 rfl (wc_DefinitionsFixedPinLaw_13 hw) (wn_String hw) (wi_String hw) rfl rfl fun h165 a165 e165 E165 A165 D165 => ?_
  refine g_dup (pc' := 169) at_168 rfl rfl ?_
  refine g_aload (pc' := 171) at_169 rfl rfl rfl ?_
  have z165 : Z.heap.size ≤ a165 := by rw [e165]; exact (ext_trans Z151 F160).1
  have P7 : Pay X.l room_1 ⟨"java/lang/String", "<init>", "([C)V"⟩ 1 #[.ref a165, .ref a7] Z a0 consts_1 false [a165] h165 1 72 (fun v h' => v = none ∧ Keep h165 h' [a165] ∧ Str Z h' a165 (ps ++ suf)) := by
    have V := D165 (Or.inr (wy_String_String_value hw)) (ty := .array .byte) (by decide)
    have C := D165 (Or.inr (wy_String_String_coder hw)) (ty := .byte) (by decide)
    have A : Arv Z h165 a7 k7 .char (Int32.ofNat (69 + ps.length)) ((ps ++ suf).map Value.int) (.int 0) := by rw [List.map_append]; exact (A151.ext F160).ext E165
    exact (pay_new (cs := ps ++ suf) (n := 69 + ps.length) (own_new hw) (wn_String hw) S hz (ext_trans (ext_trans Z151 F160) E165) z165 A165 V C A lp rfl (bl (by omega)) (bl (by omega)) (fun c q => (List.mem_append.mp q).elim (hps c) (suf255 c)) rfl rfl).up (Nat.le_refl _) (by omega)
  refine g_invokespecial (pc' := 174) [a165] [_] at_171 rfl rfl (wl_DefinitionsFixedPinLaw_15 hw) (wm_String_init_lACrV hw) (wb_String_init_lACrV hw) (by decide) (P7) pd_lACrV rfl rfl rfl rfl rfl (fun _ q => by cases List.mem_singleton.mp q; simp) fun v171 h171 q171 l171 => ?_
  obtain ⟨rfl, K171, T9⟩ := q171
  have F171 : Ext h160 h171 := ext_keep E165 K171 (allS (Nat.le_of_eq e165.symm) all0)
  have Z171 : Ext Z.heap h171 := ext_trans (ext_trans Z151 F160) F171
  refine g_astore (pc' := 176) (Ls' := #[_, _, _, _, _, _, _, _, _, _, _]) at_174 rfl rfl rfl ?_
  refine g_aload (pc' := 178) at_176 rfl rfl rfl ?_
  refine g_staticK (pc' := 181) Kx [] [_] at_178 rfl (wl_DefinitionsFixedPinLaw_18 hw) (ws_Definitions_fixed_lLjavalangStringrLjavalangIllegalStateException hw) (wi_Definitions hw) (wb_Definitions_fixed_lLjavalangStringrLjavalangIllegalStateException hw) (by decide) (PayK.of_met (met_fix hw (by rw [hX]; exact hl) r2 S hz Z171 (T8.ext F171) hps h3) (wb_Definitions_fixed_lLjavalangStringrLjavalangIllegalStateException hw) (wi_Definitions hw) rfl rfl) pd_lLjavalangStringrLjavalangIllegalStateException rfl rfl rfl rfl rfl (fun _ q => nomatch q) fun v178 h178 q178 l178 => ?_
  obtain ⟨ea, m, rfl, E178, Ae, Ue, Me, Ce, Tm⟩ := q178
  refine g_astore (pc' := 183) (Ls' := #[_, _, _, _, _, _, _, _, _, _, _]) at_181 rfl rfl rfl ?_
  refine g_aload (pc' := 185) at_183 rfl rfl rfl ?_
  refine g_ifnullN (pc' := 188) at_185 rfl ?_
  refine g_aload (pc' := 190) at_188 rfl rfl rfl ?_
  refine g_aload (pc' := 192) at_190 rfl rfl rfl ?_
  refine g_virtualUp (pc' := 195) (C := ISE) (owner := tN) [] [] at_192 rfl (wl_DefinitionsFixedPinLaw_24 hw) (wr_IllegalStateException_Throwable_getMessage hw) (wd_Throwable_getMessage_lrLjavalangString hw) (by decide) (wv_IllegalStateException_IllegalStateException_getMessage_lrLjavalangString hw) (wm_Throwable_getMessage_lrLjavalangString hw) Ae (Pay.of_met (met_GM hw Me) (wb_Throwable_getMessage_lrLjavalangString hw) (wi_Throwable hw) rfl rfl) pd_lrLjavalangString rfl rfl rfl rfl rfl (fun _ q => nomatch q) fun v192 h192 q192 l192 => ?_
  obtain ⟨rfl, e192⟩ := q192
  have e192 := e192.symm
  subst e192
  refine g_invokevirtual (pc' := 198) [] [_] at_195 rfl (wl_DefinitionsFixedPinLaw_30 hw) (wd_String_equals_lLjavalangObjectrZ hw) (wv_String_String_equals_lLjavalangObjectrZ hw) (wm_String_equals_lLjavalangObjectrZ hw) (by decide) ((T9.ext E178).exa) (pay_eq (own_eq hw) (wn_String hw) S hz (ext_trans Z171 E178) (T9.ext E178) Tm rfl rfl) pd_lLjavalangObjectrZ rfl rfl rfl rfl rfl (fun _ q => nomatch q) fun v195 h195 q195 l195 => ?_
  obtain ⟨q195, e195⟩ := q195
  have e195 := e195.symm
  subst e195
  rcases q195 with ⟨rfl, -⟩ | ⟨-, q⟩
  · refine g_ifeq (pc' := 201) (pc2 := 213) at_198 rfl (by decide) rfl (fun c198 => ?_) (fun c198 => False.elim (absurd c198 (by decide)))
    refine g_aload (pc' := 203) at_201 rfl rfl rfl ?_
    refine g_virtualUp (pc' := 206) (C := ISE) (owner := tN) [] [] at_203 rfl (wl_DefinitionsFixedPinLaw_34 hw) (wr_IllegalStateException_Throwable_getCause hw) (wd_Throwable_getCause_lrLjavalangThrowable hw) (by decide) (wv_IllegalStateException_IllegalStateException_getCause_lrLjavalangThrowable hw) (wm_Throwable_getCause_lrLjavalangThrowable hw) Ae (pay_gc hw Ue Ce rfl rfl) pd_lrLjavalangThrowable rfl rfl rfl rfl rfl (fun _ q => nomatch q) fun v203 h203 q203 l203 => ?_
    obtain ⟨rfl, e203⟩ := q203
    have e203 := e203.symm
    subst e203
    refine g_ifnonnullN (pc' := 209) at_206 rfl ?_
    refine g_iconst (pc' := 210) (w := 1) at_209 rfl (by decide) ?_
    refine g_goto (pc' := 214) at_210 (by decide) rfl ?_
    refine g_ireturn (t := .boolean) at_214 rfl (by simp) rfl rfl rfl (rfl)
  · exact absurd rfl q
theorem met_law (hw : ∀ d ∈ tables_1, d.before a0 Z = true) (hl : l.stackTraces = true) (r2 : ThrSta Z) (S : Sta Z Z.heap "java/lang/String" "COMPACT_STRINGS" "Z" (.int z)) (hz : ¬ z = 0) (F : Sta Z Z.heap "jdk/internal/util/Preconditions" "SIOOBE_FORMATTER" "Ljava/util/function/BiFunction;" fm) (rf : fm.isRef = true) (ws : List Jvm.Cond) (p0 p1 : Int32) :
    MetK ws l x code maxLocals ret room_1 #[.int p0, .int p1] Z a0 consts_1 false [] h (fun v h' => v = some (.int 1)) := by
  refine MetK.of (by first | exact plainFor_of_name (by first | (simp [plainName, overriddenIn]; done) | decide +kernel) | decide +kernel) fun X hX Kx => Go.old fun EZ => ?_
  show Go X _ _ _ _ _ _ _ _ _ _ _ _ _ _ _ _ (mkF X.m 0 #[.val (.int p0), .val (.int p1), .unset, .unset, .unset, .unset, .unset, .unset, .unset, .unset, .unset] [])
  have z0 : Z.heap.size ≤ h.size := EZ.1
  obtain ⟨j, hj, ej⟩ : ∃ j : Nat, j < 4 ∧ p1 &&& 3 = Int32.ofNat j := and_small (P := fun y => ∃ j : Nat, j < 4 ∧ y = Int32.ofNat j) 3 (by decide) fun i hi => ⟨i, by omega, rfl⟩
  refine g_iloadN (pc' := 1) at_0 rfl rfl ?_
  refine g_iconst (pc' := 2) (w := 3) at_1 rfl (by decide) ?_
  refine g_iand (pc' := 3) at_2 rfl ?_
  rw [ej]
  refine g_istoreN (pc' := 4) (Ls' := #[_, _, _, _, _, _, _, _, _, _, _]) at_3 rfl rfl ?_
  refine g_iloadN (pc' := 5) at_4 rfl rfl ?_
  refine g_sipush (pc' := 8) (w := 255) at_5 rfl (by decide) ?_
  refine g_iand (pc' := 9) at_8 rfl ?_
  refine g_i2c (pc' := 10) at_9 rfl ?_
  refine g_istoreN (pc' := 11) (Ls' := #[_, _, _, _, _, _, _, _, _, _, _]) at_10 rfl rfl ?_
  refine g_iloadN (pc' := 12) at_11 rfl rfl ?_
  refine g_bipush (pc' := 14) (w := 8) at_12 rfl (by decide) ?_
  refine g_iushr (pc' := 15) at_14 rfl ?_
  refine g_sipush (pc' := 18) (w := 255) at_15 rfl (by decide) ?_
  refine g_iand (pc' := 19) at_18 rfl ?_
  refine g_i2c (pc' := 20) at_19 rfl ?_
  refine g_istore (pc' := 22) (Ls' := #[_, _, _, _, _, _, _, _, _, _, _]) at_20 rfl rfl ?_
  refine g_iloadN (pc' := 23) at_22 rfl rfl ?_
  refine g_bipush (pc' := 25) (w := 16) at_23 rfl (by decide) ?_
  refine g_iushr (pc' := 26) at_25 rfl ?_
  refine g_sipush (pc' := 29) (w := 255) at_26 rfl (by decide) ?_
  refine g_iand (pc' := 30) at_29 rfl ?_
  refine g_i2c (pc' := 31) at_30 rfl ?_
  refine g_istore (pc' := 33) (Ls' := #[_, _, _, _, _, _, _, _, _, _, _]) at_31 rfl rfl ?_
  refine g_iloadN (pc' := 34) at_33 rfl rfl ?_
  match j, hj with
  | 0, _ =>
    refine g_ifne (pc' := 37) (pc2 := 51) at_34 rfl (by decide) rfl (fun c34 => ?_) (fun c34 => False.elim (c34 rfl))
    refine g_iconst (pc' := 38) (w := 0) at_37 rfl (by decide) ?_
    refine g_newarray (pc' := 40) (cap := 0) at_38 rfl (wa_char hw) (by decide) (by decide) rfl rfl rfl fun h38 a38 k38 e38 E38 A38 => ?_
    refine g_astore (pc' := 42) (Ls' := #[_, _, _, _, _, _, _, _, _, _, _]) at_40 rfl rfl rfl ?_
    refine g_bipush (pc' := 44) (w := 69) at_42 rfl (by decide) ?_
    refine g_newarray (pc' := 46) (cap := 69) at_44 rfl (wa_char hw) (by decide) (by decide) rfl rfl rfl fun h44 a44 k44 e44 E44 A44 => ?_
    refine g_astore (pc' := 48) (Ls' := #[_, _, _, _, _, _, _, _, _, _, _]) at_46 rfl rfl rfl ?_
    refine g_goto (pc' := 100) at_48 (by decide) rfl ?_
    have y0 : h.size ≤ h38.size := E38.1
    have n67 : a38 ≠ a44 := Nat.ne_of_lt (by rw [e44]; exact A38.lt)
    have z6 : Z.heap.size ≤ a38 := by rw [e38]; exact z0
    have z7 : Z.heap.size ≤ a44 := by rw [e44]; exact Nat.le_trans z0 y0
    refine g_iloadN (pc' := 101) at_100 rfl rfl ?_
    refine g_ifle (pc' := 104) (pc2 := 114) at_101 rfl (by decide) rfl (fun c101 => False.elim (absurd c101 (by decide))) (fun c101 => ?_)
    refine g_iloadN (pc' := 115) at_114 rfl rfl ?_
    refine g_iconst (pc' := 116) (w := 1) at_115 rfl (by decide) ?_
    refine g_icmple (pc' := 119) (pc2 := 131) at_116 rfl (by decide) rfl (fun c116 => False.elim (absurd c116 (by decide))) (fun c116 => ?_)
    refine g_iloadN (pc' := 132) at_131 rfl rfl ?_
    refine g_iconst (pc' := 133) (w := 2) at_132 rfl (by decide) ?_
    refine g_icmple (pc' := 136) (pc2 := 148) at_133 rfl (by decide) rfl (fun c133 => False.elim (absurd c133 (by decide))) (fun c133 => ?_)
    exact Go.mono 2 75 rfl rfl (law_tail hX Kx hw hl r2 S hz F rf (ext_trans EZ (ext_trans E38 E44)) (ps := []) (ble rfl) in0 z7 n67 (A38.ext E44) (A44))
  | 1, _ =>
    refine g_ifne (pc' := 37) (pc2 := 51) at_34 rfl (by decide) rfl (fun c34 => False.elim (absurd c34 (by decide))) (fun c34 => ?_)
    refine g_iloadN (pc' := 52) at_51 rfl rfl ?_
    refine g_iconst (pc' := 53) (w := 1) at_52 rfl (by decide) ?_
    refine g_icmpne (pc' := 56) (pc2 := 70) at_53 rfl (by decide) rfl (fun c53 => ?_) (fun c53 => False.elim (c53 rfl))
    refine g_iconst (pc' := 57) (w := 1) at_56 rfl (by decide) ?_
    refine g_newarray (pc' := 59) (cap := 1) at_57 rfl (wa_char hw) (by decide) (by decide) rfl rfl rfl fun h57 a57 k57 e57 E57 A57 => ?_
    refine g_astore (pc' := 61) (Ls' := #[_, _, _, _, _, _, _, _, _, _, _]) at_59 rfl rfl rfl ?_
    refine g_bipush (pc' := 63) (w := 70) at_61 rfl (by decide) ?_
    refine g_newarray (pc' := 65) (cap := 70) at_63 rfl (wa_char hw) (by decide) (by decide) rfl rfl rfl fun h63 a63 k63 e63 E63 A63 => ?_
    refine g_astore (pc' := 67) (Ls' := #[_, _, _, _, _, _, _, _, _, _, _]) at_65 rfl rfl rfl ?_
    refine g_goto (pc' := 100) at_67 (by decide) rfl ?_
    have y1 : h.size ≤ h57.size := E57.1
    have n67 : a57 ≠ a63 := Nat.ne_of_lt (by rw [e63]; exact A57.lt)
    have z6 : Z.heap.size ≤ a57 := by rw [e57]; exact z0
    have z7 : Z.heap.size ≤ a63 := by rw [e63]; exact Nat.le_trans z0 y1
    refine g_iloadN (pc' := 101) at_100 rfl rfl ?_
    refine g_ifle (pc' := 104) (pc2 := 114) at_101 rfl (by decide) rfl (fun c101 => ?_) (fun c101 => False.elim (absurd c101 (by decide)))
    refine g_aload (pc' := 106) at_104 rfl rfl rfl ?_
    refine g_iconst (pc' := 107) (w := 0) at_106 rfl (by decide) ?_
    refine g_iloadN (pc' := 108) at_107 rfl rfl ?_
    refine g_castoreX (pc' := 109) (i := 0) at_108 rfl (nar_idem _) (A57.ext E63) (z6) (by decide) (by decide) (ble rfl) fun h108 K108 A108 => ?_
    refine g_aload (pc' := 111) at_109 rfl rfl rfl ?_
    refine g_iconst (pc' := 112) (w := 0) at_111 rfl (by decide) ?_
    refine g_iloadN (pc' := 113) at_112 rfl rfl ?_
    refine g_castoreX (pc' := 114) (i := 0) at_113 rfl (nar_idem _) ((A63).keep K108 (fun q => n67 (List.mem_singleton.mp q).symm)) (z7) (by decide) (by decide) (ble rfl) fun h113 K113 A113 => ?_
    refine g_iloadN (pc' := 115) at_114 rfl rfl ?_
    refine g_iconst (pc' := 116) (w := 1) at_115 rfl (by decide) ?_
    refine g_icmple (pc' := 119) (pc2 := 131) at_116 rfl (by decide) rfl (fun c116 => False.elim (absurd c116 (by decide))) (fun c116 => ?_)
    refine g_iloadN (pc' := 132) at_131 rfl rfl ?_
    refine g_iconst (pc' := 133) (w := 2) at_132 rfl (by decide) ?_
    refine g_icmple (pc' := 136) (pc2 := 148) at_133 rfl (by decide) rfl (fun c133 => False.elim (absurd c133 (by decide))) (fun c133 => ?_)
    exact Go.mono 2 75 rfl rfl (law_tail hX Kx hw hl r2 S hz F rf (ext_keep (ext_keep (ext_trans EZ (ext_trans E57 E63)) K108 (allS z6 all0)) K113 (allS z7 all0)) (ps := [_]) (ble rfl) (inS (P := fun c => ¬ c < 0 ∧ ¬ (255 : Int32) < c) (ok8 _) in0) z7 n67 ((A108).keep K113 (fun q => n67 (List.mem_singleton.mp q))) (A113))
  | 2, _ =>
    refine g_ifne (pc' := 37) (pc2 := 51) at_34 rfl (by decide) rfl (fun c34 => False.elim (absurd c34 (by decide))) (fun c34 => ?_)
    refine g_iloadN (pc' := 52) at_51 rfl rfl ?_
    refine g_iconst (pc' := 53) (w := 1) at_52 rfl (by decide) ?_
    refine g_icmpne (pc' := 56) (pc2 := 70) at_53 rfl (by decide) rfl (fun c53 => False.elim (absurd c53 (by decide))) (fun c53 => ?_)
    refine g_iloadN (pc' := 71) at_70 rfl rfl ?_
    refine g_iconst (pc' := 72) (w := 2) at_71 rfl (by decide) ?_
    refine g_icmpne (pc' := 75) (pc2 := 89) at_72 rfl (by decide) rfl (fun c72 => ?_) (fun c72 => False.elim (c72 rfl))
    refine g_iconst (pc' := 76) (w := 2) at_75 rfl (by decide) ?_
    refine g_newarray (pc' := 78) (cap := 2) at_76 rfl (wa_char hw) (by decide) (by decide) rfl rfl rfl fun h76 a76 k76 e76 E76 A76 => ?_
    refine g_astore (pc' := 80) (Ls' := #[_, _, _, _, _, _, _, _, _, _, _]) at_78 rfl rfl rfl ?_
    refine g_bipush (pc' := 82) (w := 71) at_80 rfl (by decide) ?_
    refine g_newarray (pc' := 84) (cap := 71) at_82 rfl (wa_char hw) (by decide) (by decide) rfl rfl rfl fun h82 a82 k82 e82 E82 A82 => ?_
    refine g_astore (pc' := 86) (Ls' := #[_, _, _, _, _, _, _, _, _, _, _]) at_84 rfl rfl rfl ?_
    refine g_goto (pc' := 100) at_86 (by decide) rfl ?_
    have y2 : h.size ≤ h76.size := E76.1
    have n67 : a76 ≠ a82 := Nat.ne_of_lt (by rw [e82]; exact A76.lt)
    have z6 : Z.heap.size ≤ a76 := by rw [e76]; exact z0
    have z7 : Z.heap.size ≤ a82 := by rw [e82]; exact Nat.le_trans z0 y2
    refine g_iloadN (pc' := 101) at_100 rfl rfl ?_
    refine g_ifle (pc' := 104) (pc2 := 114) at_101 rfl (by decide) rfl (fun c101 => ?_) (fun c101 => False.elim (absurd c101 (by decide)))
    refine g_aload (pc' := 106) at_104 rfl rfl rfl ?_
    refine g_iconst (pc' := 107) (w := 0) at_106 rfl (by decide) ?_
    refine g_iloadN (pc' := 108) at_107 rfl rfl ?_
    refine g_castoreX (pc' := 109) (i := 0) at_108 rfl (nar_idem _) (A76.ext E82) (z6) (by decide) (by decide) (ble rfl) fun h108 K108 A108 => ?_
    refine g_aload (pc' := 111) at_109 rfl rfl rfl ?_
    refine g_iconst (pc' := 112) (w := 0) at_111 rfl (by decide) ?_
    refine g_iloadN (pc' := 113) at_112 rfl rfl ?_
    refine g_castoreX (pc' := 114) (i := 0) at_113 rfl (nar_idem _) ((A82).keep K108 (fun q => n67 (List.mem_singleton.mp q).symm)) (z7) (by decide) (by decide) (ble rfl) fun h113 K113 A113 => ?_
    refine g_iloadN (pc' := 115) at_114 rfl rfl ?_
    refine g_iconst (pc' := 116) (w := 1) at_115 rfl (by decide) ?_
    refine g_icmple (pc' := 119) (pc2 := 131) at_116 rfl (by decide) rfl (fun c116 => ?_) (fun c116 => False.elim (absurd c116 (by decide)))
    refine g_aload (pc' := 121) at_119 rfl rfl rfl ?_
    refine g_iconst (pc' := 122) (w := 1) at_121 rfl (by decide) ?_
    refine g_iload (pc' := 124) at_122 rfl rfl ?_
    refine g_castoreX (pc' := 125) (i := 1) at_124 rfl (nar_idem _) ((A108).keep K113 (fun q => n67 (List.mem_singleton.mp q))) (z6) (by decide) (by decide) (ble rfl) fun h124 K124 A124 => ?_
    refine g_aload (pc' := 127) at_125 rfl rfl rfl ?_
    refine g_iconst (pc' := 128) (w := 1) at_127 rfl (by decide) ?_
    refine g_iload (pc' := 130) at_128 rfl rfl ?_
    refine g_castoreX (pc' := 131) (i := 1) at_130 rfl (nar_idem _) ((A113).keep K124 (fun q => n67 (List.mem_singleton.mp q).symm)) (z7) (by decide) (by decide) (ble rfl) fun h130 K130 A130 => ?_
    refine g_iloadN (pc' := 132) at_131 rfl rfl ?_
    refine g_iconst (pc' := 133) (w := 2) at_132 rfl (by decide) ?_
    refine g_icmple (pc' := 136) (pc2 := 148) at_133 rfl (by decide) rfl (fun c133 => False.elim (absurd c133 (by decide))) (fun c133 => ?_)
    exact Go.mono 2 75 rfl rfl (law_tail hX Kx hw hl r2 S hz F rf (ext_keep (ext_keep (ext_keep (ext_keep (ext_trans EZ (ext_trans E76 E82)) K108 (allS z6 all0)) K113 (allS z7 all0)) K124 (allS z6 all0)) K130 (allS z7 all0)) (ps := [_, _]) (ble rfl) (inS (P := fun c => ¬ c < 0 ∧ ¬ (255 : Int32) < c) (ok8 _) (inS (P := fun c => ¬ c < 0 ∧ ¬ (255 : Int32) < c) (ok8 _) in0)) z7 n67 ((A124).keep K130 (fun q => n67 (List.mem_singleton.mp q))) (A130))
  | 3, _ =>
    refine g_ifne (pc' := 37) (pc2 := 51) at_34 rfl (by decide) rfl (fun c34 => False.elim (absurd c34 (by decide))) (fun c34 => ?_)
    refine g_iloadN (pc' := 52) at_51 rfl rfl ?_
    refine g_iconst (pc' := 53) (w := 1) at_52 rfl (by decide) ?_
    refine g_icmpne (pc' := 56) (pc2 := 70) at_53 rfl (by decide) rfl (fun c53 => False.elim (absurd c53 (by decide))) (fun c53 => ?_)
    refine g_iloadN (pc' := 71) at_70 rfl rfl ?_
    refine g_iconst (pc' := 72) (w := 2) at_71 rfl (by decide) ?_
    refine g_icmpne (pc' := 75) (pc2 := 89) at_72 rfl (by decide) rfl (fun c72 => False.elim (absurd c72 (by decide))) (fun c72 => ?_)
    refine g_iconst (pc' := 90) (w := 3) at_89 rfl (by decide) ?_
    refine g_newarray (pc' := 92) (cap := 3) at_90 rfl (wa_char hw) (by decide) (by decide) rfl rfl rfl fun h90 a90 k90 e90 E90 A90 => ?_
    refine g_astore (pc' := 94) (Ls' := #[_, _, _, _, _, _, _, _, _, _, _]) at_92 rfl rfl rfl ?_
    refine g_bipush (pc' := 96) (w := 72) at_94 rfl (by decide) ?_
    refine g_newarray (pc' := 98) (cap := 72) at_96 rfl (wa_char hw) (by decide) (by decide) rfl rfl rfl fun h96 a96 k96 e96 E96 A96 => ?_
    refine g_astore (pc' := 100) (Ls' := #[_, _, _, _, _, _, _, _, _, _, _]) at_98 rfl rfl rfl ?_
    have y3 : h.size ≤ h90.size := E90.1
    have n67 : a90 ≠ a96 := Nat.ne_of_lt (by rw [e96]; exact A90.lt)
    have z6 : Z.heap.size ≤ a90 := by rw [e90]; exact z0
    have z7 : Z.heap.size ≤ a96 := by rw [e96]; exact Nat.le_trans z0 y3
    refine g_iloadN (pc' := 101) at_100 rfl rfl ?_
    refine g_ifle (pc' := 104) (pc2 := 114) at_101 rfl (by decide) rfl (fun c101 => ?_) (fun c101 => False.elim (absurd c101 (by decide)))
    refine g_aload (pc' := 106) at_104 rfl rfl rfl ?_
    refine g_iconst (pc' := 107) (w := 0) at_106 rfl (by decide) ?_
    refine g_iloadN (pc' := 108) at_107 rfl rfl ?_
    refine g_castoreX (pc' := 109) (i := 0) at_108 rfl (nar_idem _) (A90.ext E96) (z6) (by decide) (by decide) (ble rfl) fun h108 K108 A108 => ?_
    refine g_aload (pc' := 111) at_109 rfl rfl rfl ?_
    refine g_iconst (pc' := 112) (w := 0) at_111 rfl (by decide) ?_
    refine g_iloadN (pc' := 113) at_112 rfl rfl ?_
    refine g_castoreX (pc' := 114) (i := 0) at_113 rfl (nar_idem _) ((A96).keep K108 (fun q => n67 (List.mem_singleton.mp q).symm)) (z7) (by decide) (by decide) (ble rfl) fun h113 K113 A113 => ?_
    refine g_iloadN (pc' := 115) at_114 rfl rfl ?_
    refine g_iconst (pc' := 116) (w := 1) at_115 rfl (by decide) ?_
    refine g_icmple (pc' := 119) (pc2 := 131) at_116 rfl (by decide) rfl (fun c116 => ?_) (fun c116 => False.elim (absurd c116 (by decide)))
    refine g_aload (pc' := 121) at_119 rfl rfl rfl ?_
    refine g_iconst (pc' := 122) (w := 1) at_121 rfl (by decide) ?_
    refine g_iload (pc' := 124) at_122 rfl rfl ?_
    refine g_castoreX (pc' := 125) (i := 1) at_124 rfl (nar_idem _) ((A108).keep K113 (fun q => n67 (List.mem_singleton.mp q))) (z6) (by decide) (by decide) (ble rfl) fun h124 K124 A124 => ?_
    refine g_aload (pc' := 127) at_125 rfl rfl rfl ?_
    refine g_iconst (pc' := 128) (w := 1) at_127 rfl (by decide) ?_
    refine g_iload (pc' := 130) at_128 rfl rfl ?_
    refine g_castoreX (pc' := 131) (i := 1) at_130 rfl (nar_idem _) ((A113).keep K124 (fun q => n67 (List.mem_singleton.mp q).symm)) (z7) (by decide) (by decide) (ble rfl) fun h130 K130 A130 => ?_
    refine g_iloadN (pc' := 132) at_131 rfl rfl ?_
    refine g_iconst (pc' := 133) (w := 2) at_132 rfl (by decide) ?_
    refine g_icmple (pc' := 136) (pc2 := 148) at_133 rfl (by decide) rfl (fun c133 => ?_) (fun c133 => False.elim (absurd c133 (by decide)))
    refine g_aload (pc' := 138) at_136 rfl rfl rfl ?_
    refine g_iconst (pc' := 139) (w := 2) at_138 rfl (by decide) ?_
    refine g_iload (pc' := 141) at_139 rfl rfl ?_
    refine g_castoreX (pc' := 142) (i := 2) at_141 rfl (nar_idem _) ((A124).keep K130 (fun q => n67 (List.mem_singleton.mp q))) (z6) (by decide) (by decide) (ble rfl) fun h141 K141 A141 => ?_
    refine g_aload (pc' := 144) at_142 rfl rfl rfl ?_
    refine g_iconst (pc' := 145) (w := 2) at_144 rfl (by decide) ?_
    refine g_iload (pc' := 147) at_145 rfl rfl ?_
    refine g_castoreX (pc' := 148) (i := 2) at_147 rfl (nar_idem _) ((A130).keep K141 (fun q => n67 (List.mem_singleton.mp q).symm)) (z7) (by decide) (by decide) (ble rfl) fun h147 K147 A147 => ?_
    exact Go.mono 2 75 rfl rfl (law_tail hX Kx hw hl r2 S hz F rf (ext_keep (ext_keep (ext_keep (ext_keep (ext_keep (ext_keep (ext_trans EZ (ext_trans E90 E96)) K108 (allS z6 all0)) K113 (allS z7 all0)) K124 (allS z6 all0)) K130 (allS z7 all0)) K141 (allS z6 all0)) K147 (allS z7 all0)) (ps := [_, _, _]) (ble rfl) (inS (P := fun c => ¬ c < 0 ∧ ¬ (255 : Int32) < c) (ok8 _) (inS (P := fun c => ¬ c < 0 ∧ ¬ (255 : Int32) < c) (ok8 _) (inS (P := fun c => ¬ c < 0 ∧ ¬ (255 : Int32) < c) (ok8 _) in0))) z7 n67 ((A141).keep K147 (fun q => n67 (List.mem_singleton.mp q))) (A147))
end Law
set_option maxRecDepth 65536 in
set_option maxHeartbeats 40000000 in
theorem comes_1 {Post : Tables → Env → Array Value → State → Outcome → State → Prop} (hpost : ∀ tb e args s v u, (limb_1_1.after args s (.returned v) u = true ∧ limb_1_2.after args s (.returned v) u = true ∧ True) → ReturnedEndW s (.returned v) u (Jvm.fieldLocs frame_1_writes args s ++ Jvm.arrayLocs frame_1_arrays args s ++ Jvm.staticLocs frame_1_statics s) 40 9344 → Post tb e args s (.returned v) u) :
    ArmFor flags0 classFile x code maxLocals ret World_1 tables_1 room_1 Calls_1 rest_1 Pre_1 Post := by
  intro l hfl _ _ p e ha hc hk s m args below hf hA hF happ hP
  obtain ⟨hcalls, hrest, hpre⟩ := hP
  obtain ⟨-, -, -, hnamed, -, -, -, hat⟩ := (Spec.applies_iff hf).mp happ
  obtain ⟨hg, hn⟩ := and_e (Cond.before_iff.mp (show (Jvm.Cond.and given_1 narrow_1).before args s = true from hpre))
  obtain ⟨hcount, hg⟩ := and_e hg
  obtain ⟨g0, hg⟩ := and_e hg
  have g1 := hg
  obtain ⟨w0, w1, rfl⟩ : ∃ w0 w1 : Value, args = #[w0, w1] := by
    have hs : args.size = 2 := by simpa [Cond.value, given_1] using hcount
    obtain ⟨L⟩ := args
    match L, hs with
    | [w0, w1], _ => exact ⟨w0, w1, rfl⟩
  have hw := fun d (hd : d ∈ tables_1) => atoms_spec (ws := Jvm.Cond.code x code maxLocals ret :: tables_1) hat d (List.mem_cons_of_mem _ hd)
  obtain ⟨hsets, hown0⟩ := atoms_of _ (rest_1_c_eq ▸ (show rest_1_c.before _ s = true from hrest))
  have hfit : Fit s := fun {y c} hc i hi => by
    obtain ⟨ha, rfl⟩ := Array.getElem?_eq_some_iff.mp hc
    have q := List.all_eq_true.mp ((Array.all_eq_true_iff_forall_mem.mp hF) _ (Array.getElem_mem ha)) i (List.mem_range.mpr hi)
    simpa [Array.getElem?_eq_getElem hi] using q
  obtain ⟨i0, e0⟩ := is_v g0
  obtain rfl : w0 = (.int i0) := Option.some.inj e0
  obtain ⟨i1, e1⟩ := is_v g1
  obtain rfl : w1 = (.int i1) := Option.some.inj e1
  have n5 := not_v (Cond.before_iff.mp (hsets _ (List.mem_of_getElem? (i := 2) rfl)))
  obtain ⟨zc, ezc⟩ := is_v (Cond.before_iff.mp (hsets _ (List.mem_of_getElem? (i := 1) rfl)))
  have S12 : Sta s s.heap "java/lang/String" "COMPACT_STRINGS" "Z" (.int zc) := Sta.start ezc (Or.inl (hsets _ (List.mem_of_getElem? (i := 0) rfl)))
  have c17 : ¬ (zc = (0 : Int32)) := gotF (Cond.eq_ints ezc (Term.int_eval (0))) n5
  obtain ⟨vf, evf, rvf⟩ := isR_v (Cond.before_iff.mp (hsets _ (List.mem_of_getElem? (i := 8) rfl)))
  have S16 : Sta s s.heap "jdk/internal/util/Preconditions" "SIOOBE_FORMATTER" "Ljava/util/function/BiFunction;" vf := Sta.start evf (Or.inl (hsets _ (List.mem_of_getElem? (i := 7) rfl)))
  obtain ⟨vu, evu, rvu⟩ := isR_v (Cond.before_iff.mp (hsets _ (List.mem_of_getElem? (i := 16) rfl)))
  have Su : Sta s s.heap "java/lang/Throwable" "UNASSIGNED_STACK" "[Ljava/lang/StackTraceElement;" vu := Sta.start evu (Or.inl (hsets _ (List.mem_of_getElem? (i := 15) rfl)))
  obtain ⟨au, -, eau, -⟩ := Jvm.Free.AList.arrayOf_ref (hsets _ (List.mem_of_getElem? (i := 17) rfl))
  have nu : vu ≠ .null := fun q => by subst q; cases evu.symm.trans eau
  obtain ⟨vq, evq, rvq⟩ := isR_v (Cond.before_iff.mp (hsets _ (List.mem_of_getElem? (i := 21) rfl)))
  have Sq : Sta s s.heap "java/lang/Throwable" "SUPPRESSED_SENTINEL" "Ljava/util/List;" vq := Sta.start evq (Or.inl (hsets _ (List.mem_of_getElem? (i := 20) rfl)))
  have hheld : ∀ p ∈ consts_1, Jvm.Lit.constHeld s p.1 p.2 := fun p hp => hcalls.2.2.1 p hp
  have hcw : Jvm.Lit.compactW.before _ s = true := hsets _ (List.mem_of_getElem? (i := 2) rfl)
  have hEL : EW s _ consts_1 := EW.cons (wt_String_7 hw) (by decide) (EW.cons (wt_Definitions_162 hw) (by decide) (EW.cons (wt_DefinitionsFixedPinLaw_38 hw) (by decide) (EW.nil)))
  have hCH : CHv s consts_1 s.vm s.heap := CHv.start hEL hheld hcw (wa_byte hw) (wn_String hw)
  obtain ⟨n, o, h1, h2, h3, _, L, rfl, ⟨rfl, N, -⟩, -, -, hq⟩ := met_law (l := l) hw (by unfold Launch.stackTraces; rw [hfl]; decide) ⟨vu, vq, Su, rvu, nu, Sq, rvq⟩ S12 c17 S16 rvf tables_1 i0 i1 p e ha hc hk s m _ below hf ((Spec.applies_iff_loose hf).mp happ).1 ⟨rfl, State.Warmed39.refl s, rfl, hCH, ext_refl _, hEL, fun _ q => nomatch q⟩ ⟨Jvm.MethodsKnown_of_tablesKnown hcalls.2.1, Jvm.FramesKnown_of_framesKnown hcalls.1 hf⟩
  refine ⟨n, _, h1, h2, h3, hpost _ _ _ _ _ _ ⟨Cond.after_iff.mpr rfl, Cond.after_iff.mpr (eq_i res_at (Term.int_eval (1)) rfl), trivial⟩ ⟨hq.1, hq.2.1, hq.2.2.1, (hq.2.2.2.sift fun y hy => Or.inr (N y hy)).mono (by decide) (by decide)⟩⟩
theorem main_1_1 : Claimed_1_1 := comes_1 fun _ _ _ _ _ _ h hF => ⟨h.1, hF⟩
theorem main_1_2 : Claimed_1_2 := comes_1 fun _ _ _ _ _ _ h hF => ⟨h.2.1, hF⟩
end Jvm.Pilot.@@N@@
namespace Jvm.Pilot.@@N@@
open Jvm Jvm.ClassFile Sem Op Lib Jvm.Free Jvm.Stand Jvm.Pilot.@@N@@.Jvm.D
/-! MADE BY PROGRAM (witnessworld.py) out of the Statement's table words and the real class files: 44 classes; the members and pool entries that the words name. The judged class is class 1, her method 1. -/
namespace start1
open Jvm.ClassFile
def u (s : String) : CpInfo := .utf8 (stringToUtf16 s)
/-- a pool by its gaps: so many unusable entries, then the entry; so many at the end -/
def gap : Nat → List CpInfo → List CpInfo
  | 0, r => r
  | n + 1, r => .unusable :: gap n r
def poolList (es : List (Nat × CpInfo)) (last : Nat) : List CpInfo := es.foldr (fun e r => gap e.1 (e.2 :: r)) (gap last [])
def pool (es : List (Nat × CpInfo)) (last : Nat) : Array CpInfo := ⟨poolList es last⟩
def fileOf (pool : Array CpInfo) (this : Nat) (attrs : Array Attribute := #[]) (ms : Array MethodInfo := #[]) (fl : Nat := 33) (sup : Nat := 0) (ifs : Array Nat := #[]) (fds : Array FieldInfo := #[]) : ClassFile where
  minorVersion := 0
  majorVersion := 65
  constantPool := pool
  accessFlags := fl
  thisClass := this
  superClass := sup
  interfaces := ifs
  fields := fds
  methods := ms
  attributes := attrs
def plain (name : String) (sup : Option ClassId) : Class where
  name := name
  kind := .ordinary
  loader := none
  accessFlags := 33
  super := sup
  interfaces := #[]
  cf := none
  fields := #[]
  methods := #[]
  instanceTypes := #[]
  staticTypes := #[]
  resolved := #[]
  callSites := []
  init := .initialized
  statics := none
  mirror := none

def pool0 : Array CpInfo := pool [(5, u "<init>"), (0, u "()V"), (1, .class_ 10), (1, u "java/lang/Object"), (85, u "clone"), (0, u "()Ljava/lang/Object;")] 26

def k0c0 : Code := { maxStack := 0, maxLocals := 1, code := object_method_1_code, exceptionTable := #[], attributes := #[] }
def k0m0 : Method := { name := "<init>", desc := "()V", sig := { parameters := [], returnType := none }, accessFlags := 1, code := some k0c0 }
def k0m1 : Method := { name := "clone", desc := "()Ljava/lang/Object;", sig := { parameters := [], returnType := some (.object "java/lang/Object") }, accessFlags := 260, code := none }
/-- java/lang/Object -/
def k0 : Class := { plain "java/lang/Object" none with
  accessFlags := 33
  interfaces := #[]
  cf := some (fileOf pool0 8 #[] #[{ accessFlags := 1, nameIndex := 5, descriptorIndex := 6, attributes := #[] }, { accessFlags := 260, nameIndex := 96, descriptorIndex := 97, attributes := #[] }] 33 0 #[] #[])
  fields := #[]
  methods := #[k0m0, k0m1]
  instanceTypes := #[]
  staticTypes := #[]
  resolved := Array.replicate 124 none
  statics := none }

def pool1 : Array CpInfo := pool [(2, .class_ 4), (1, u "java/lang/Object"), (0, u "<init>"), (0, u "()V"), (0, .methodref 8 9), (0, .class_ 10), (0, .nameAndType 11 12), (0, u "wirefold/DefinitionsFixedPinLaw"), (0, u "putSuffix"), (0, u "([CI)V"), (0, .class_ 14), (0, u "java/lang/String"), (0, .methodref 13 16), (0, .nameAndType 5 17), (0, u "([C)V"), (0, .methodref 19 20), (0, .class_ 21), (0, .nameAndType 22 23), (0, u "wirefold/Definitions"), (0, u "fixed"), (0, u "(Ljava/lang/String;)Ljava/lang/IllegalStateException;"), (0, .methodref 25 26), (0, .class_ 27), (0, .nameAndType 28 29), (0, u "java/lang/IllegalStateException"), (0, u "getMessage"), (0, u "()Ljava/lang/String;"), (0, .methodref 13 31), (0, .nameAndType 32 33), (0, u "equals"), (0, u "(Ljava/lang/Object;)Z"), (0, .methodref 25 35), (0, .nameAndType 36 37), (0, u "getCause"), (0, u "()Ljava/lang/Throwable;"), (0, .string 39), (0, u ": the definitions are fixed once the factory post-processors have run"), (0, .methodref 13 41), (0, .nameAndType 42 43), (0, u "charAt"), (0, u "(I)C"), (2, u "law"), (0, u "(II)Z")] 5

def k1m0 : Method := { name := "<init>", desc := "()V", sig := { parameters := [], returnType := none }, accessFlags := 1, code := none }
def k1c1 : Code := { maxStack := 3, maxLocals := 11, code := code, exceptionTable := #[], attributes := #[] }
def k1m1 : Method := { name := "law", desc := "(II)Z", sig := { parameters := [.int, .int], returnType := some .boolean }, accessFlags := 9, code := some k1c1 }
def k1c2 : Code := { maxStack := 4, maxLocals := 3, code := method_3_code, exceptionTable := #[], attributes := #[] }
def k1m2 : Method := { name := "putSuffix", desc := "([CI)V", sig := { parameters := [(.array .char), .int], returnType := none }, accessFlags := 10, code := some k1c2 }
/-- wirefold/DefinitionsFixedPinLaw -/
def k1 : Class := { plain "wirefold/DefinitionsFixedPinLaw" (some 0) with
  accessFlags := 49
  interfaces := #[]
  cf := some (fileOf pool1 8 #[] #[{ accessFlags := 1, nameIndex := 5, descriptorIndex := 6, attributes := #[] }, { accessFlags := 9, nameIndex := 46, descriptorIndex := 47, attributes := #[] }, { accessFlags := 10, nameIndex := 11, descriptorIndex := 12, attributes := #[] }] 49 2 #[] #[])
  fields := #[]
  methods := #[k1m0, k1m1, k1m2]
  instanceTypes := #[]
  staticTypes := #[]
  resolved := Array.replicate 53 none
  statics := none }

def pool2 : Array CpInfo := pool [(1, .class_ 2), (0, u "java/io/Serializable"), (0, .class_ 4), (0, u "java/lang/Object")] 2

/-- java/io/Serializable -/
def k2 : Class := { plain "java/io/Serializable" (some 0) with
  accessFlags := 1537
  interfaces := #[]
  cf := some (fileOf pool2 1 #[] #[] 1537 3 #[] #[])
  fields := #[]
  methods := #[]
  instanceTypes := #[]
  staticTypes := #[]
  resolved := Array.replicate 7 none
  statics := none }

def pool3 : Array CpInfo := pool [(1, .class_ 2), (0, u "java/lang/Comparable"), (0, .class_ 4), (0, u "java/lang/Object")] 7

/-- java/lang/Comparable -/
def k3 : Class := { plain "java/lang/Comparable" (some 0) with
  accessFlags := 1537
  interfaces := #[]
  cf := some (fileOf pool3 1 #[] #[] 1537 3 #[] #[])
  fields := #[]
  methods := #[]
  instanceTypes := #[]
  staticTypes := #[]
  resolved := Array.replicate 12 none
  statics := none }

def pool4 : Array CpInfo := pool [(2, .class_ 4), (1, u "java/lang/CharSequence"), (42, .class_ 48), (0, u "java/lang/CharSequence$1CodePointIterator"), (10, .class_ 60), (0, u "java/lang/CharSequence$1CharIterator"), (5, .class_ 67), (0, u "java/lang/Object")] 63

/-- java/lang/CharSequence -/
def k4 : Class := { plain "java/lang/CharSequence" (some 0) with
  accessFlags := 1537
  interfaces := #[]
  cf := some (fileOf pool4 2 #[.nestMembers #[47, 59]] #[] 1537 66 #[] #[])
  fields := #[]
  methods := #[]
  instanceTypes := #[]
  staticTypes := #[]
  resolved := Array.replicate 131 none
  statics := none }

def pool5 : Array CpInfo := pool [(1, .class_ 2), (0, u "java/lang/constant/Constable"), (0, .class_ 4), (0, u "java/lang/Object")] 6

/-- java/lang/constant/Constable -/
def k5 : Class := { plain "java/lang/constant/Constable" (some 0) with
  accessFlags := 1537
  interfaces := #[]
  cf := some (fileOf pool5 1 #[] #[] 1537 3 #[] #[])
  fields := #[]
  methods := #[]
  instanceTypes := #[]
  staticTypes := #[]
  resolved := Array.replicate 11 none
  statics := none }

def pool6 : Array CpInfo := pool [(1, .class_ 2), (0, u "java/lang/constant/ConstantDesc"), (0, .class_ 4), (0, u "java/lang/Object")] 32

/-- java/lang/constant/ConstantDesc -/
def k6 : Class := { plain "java/lang/constant/ConstantDesc" (some 0) with
  accessFlags := 1537
  interfaces := #[]
  cf := some (fileOf pool6 1 #[] #[] 1537 3 #[] #[])
  fields := #[]
  methods := #[]
  instanceTypes := #[]
  staticTypes := #[]
  resolved := Array.replicate 37 none
  statics := none }

def pool7 : Array CpInfo := pool [(1, .methodref 2 3), (0, .class_ 4), (0, .nameAndType 5 6), (0, u "java/lang/Object"), (0, u "<init>"), (0, u "()V"), (0, .string 8), (0, u ""), (0, .fieldref 10 11), (0, .class_ 12), (0, .nameAndType 13 14), (0, u "java/lang/String"), (0, u "value"), (0, u "[B"), (0, .fieldref 10 16), (0, .nameAndType 17 18), (0, u "coder"), (0, u "B"), (2, u "hash"), (0, u "I"), (2, u "hashIsZero"), (0, u "Z"), (0, .methodref 10 28), (0, .nameAndType 5 29), (0, u "([CIILjava/lang/Void;)V"), (8, .fieldref 10 39), (0, .nameAndType 40 26), (0, u "COMPACT_STRINGS"), (1, .class_ 44), (1, u "java/lang/StringUTF16"), (0, u "compress"), (1, .methodref 42 48), (0, .nameAndType 49 50), (0, u "coderFromArrayLen"), (0, u "([BI)B"), (3, .methodref 55 56), (0, .class_ 57), (0, .nameAndType 58 59), (0, u "java/util/Arrays"), (0, u "copyOfRange"), (0, u "([BII)[B"), (47, .class_ 109), (1, u "java/lang/StringLatin1"), (32, u "()Z"), (34, .methodref 42 178), (0, .nameAndType 45 179), (0, u "([CII)[B"), (13, .class_ 195), (1, u "java/lang/System"), (16, .methodref 193 213), (0, .nameAndType 214 215), (0, u "arraycopy"), (0, u "(Ljava/lang/Object;ILjava/lang/Object;II)V"), (118, u "()I"), (0, .methodref 10 336), (0, .nameAndType 17 337), (0, u "()B"), (2, u "()[B"), (22, u "([BI)C"), (27, u "(II)V"), (35, u "(I)C"), (61, .methodref 10 490), (0, .nameAndType 5 491), (0, u "(Ljava/lang/AbstractStringBuilder;Ljava/lang/Void;)V"), (0, .methodref 10 493), (0, .nameAndType 494 142), (0, u "isLatin1"), (0, .methodref 107 496), (0, .nameAndType 497 363), (0, u "charAt"), (3, u "checkIndex"), (4, .nameAndType 507 334), (0, u "length"), (24, u "getBytes"), (8, .methodref 107 542), (0, .nameAndType 543 544), (0, u "equals"), (0, u "([B[B)Z"), (4, .methodref 550 506), (0, .class_ 551), (0, u "java/lang/AbstractStringBuilder"), (0, .methodref 550 553), (0, .nameAndType 554 340), (0, u "getValue"), (18, u "(Ljava/lang/Object;)Z"), (1, .class_ 576), (0, u "java/lang/CharSequence"), (22, u "CASE_INSENSITIVE_ORDER"), (0, u "Ljava/util/Comparator;"), (220, u "([BIB)V"), (188, u "([C)V"), (36, .methodref 550 493), (5, .fieldref 1054 1055), (0, .class_ 1056), (0, .nameAndType 1057 1058), (0, u "jdk/internal/util/Preconditions"), (0, u "SIOOBE_FORMATTER"), (0, u "Ljava/util/function/BiFunction;"), (0, .methodref 1054 1060), (0, .nameAndType 501 1061), (0, u "(IILjava/util/function/BiFunction;)I"), (39, u "serialPersistentFields"), (0, u "[Ljava/io/ObjectStreamField;"), (0, .class_ 1104), (0, u "java/lang/String$CaseInsensitiveComparator"), (1, .class_ 1107), (0, u "java/io/Serializable"), (0, .class_ 1109), (0, u "java/lang/Comparable"), (0, .class_ 1111), (0, u "java/lang/constant/Constable"), (0, .class_ 1113), (0, u "java/lang/constant/ConstantDesc"), (2, u "serialVersionUID"), (0, u "J"), (3, u "REPL"), (0, u "C"), (2, u "LATIN1"), (1, u "UTF16"), (105, u "(Ljava/lang/StringBuilder;)V")] 217

def k7m0 : Method := { name := "<init>", desc := "()V", sig := { parameters := [], returnType := none }, accessFlags := 1, code := none }
def k7c1 : Code := { maxStack := 5, maxLocals := 2, code := jdk_42_method_3_code, exceptionTable := #[], attributes := #[] }
def k7m1 : Method := { name := "<init>", desc := "([C)V", sig := { parameters := [(.array .char)], returnType := none }, accessFlags := 1, code := some k7c1 }
def k7c2 : Code := { maxStack := 3, maxLocals := 2, code := jdk_42_method_53_code, exceptionTable := #[], attributes := #[] }
def k7m2 : Method := { name := "<init>", desc := "(Ljava/lang/StringBuilder;)V", sig := { parameters := [(.object "java/lang/StringBuilder")], returnType := none }, accessFlags := 1, code := some k7c2 }
def k7c3 : Code := { maxStack := 2, maxLocals := 1, code := jdk_42_method_54_code, exceptionTable := #[], attributes := #[] }
def k7m3 : Method := { name := "length", desc := "()I", sig := { parameters := [], returnType := some .int }, accessFlags := 1, code := some k7c3 }
def k7c4 : Code := { maxStack := 2, maxLocals := 2, code := jdk_42_method_56_code, exceptionTable := #[], attributes := #[] }
def k7m4 : Method := { name := "charAt", desc := "(I)C", sig := { parameters := [.int], returnType := some .char }, accessFlags := 1, code := some k7c4 }
def k7c5 : Code := { maxStack := 2, maxLocals := 3, code := jdk_42_method_66_code, exceptionTable := #[], attributes := #[] }
def k7m5 : Method := { name := "equals", desc := "(Ljava/lang/Object;)Z", sig := { parameters := [(.object "java/lang/Object")], returnType := some .boolean }, accessFlags := 1, code := some k7c5 }
def k7c6 : Code := { maxStack := 5, maxLocals := 4, code := jdk_42_method_147_code, exceptionTable := #[], attributes := #[] }
def k7m6 : Method := { name := "getBytes", desc := "([BIB)V", sig := { parameters := [(.array .byte), .int, .byte], returnType := none }, accessFlags := 0, code := some k7c6 }
def k7c7 : Code := { maxStack := 4, maxLocals := 6, code := jdk_42_method_149_code, exceptionTable := #[], attributes := #[] }
def k7m7 : Method := { name := "<init>", desc := "([CIILjava/lang/Void;)V", sig := { parameters := [(.array .char), .int, .int, (.object "java/lang/Void")], returnType := none }, accessFlags := 2, code := some k7c7 }
def k7c8 : Code := { maxStack := 5, maxLocals := 5, code := jdk_42_method_150_code, exceptionTable := #[], attributes := #[] }
def k7m8 : Method := { name := "<init>", desc := "(Ljava/lang/AbstractStringBuilder;Ljava/lang/Void;)V", sig := { parameters := [(.object "java/lang/AbstractStringBuilder"), (.object "java/lang/Void")], returnType := none }, accessFlags := 0, code := some k7c8 }
def k7c9 : Code := { maxStack := 1, maxLocals := 1, code := jdk_42_method_152_code, exceptionTable := #[], attributes := #[] }
def k7m9 : Method := { name := "coder", desc := "()B", sig := { parameters := [], returnType := some .byte }, accessFlags := 0, code := some k7c9 }
def k7c10 : Code := { maxStack := 1, maxLocals := 1, code := jdk_42_method_154_code, exceptionTable := #[], attributes := #[] }
def k7m10 : Method := { name := "isLatin1", desc := "()Z", sig := { parameters := [], returnType := some .boolean }, accessFlags := 0, code := some k7c10 }
def k7c11 : Code := { maxStack := 3, maxLocals := 2, code := jdk_42_method_155_code, exceptionTable := #[], attributes := #[] }
def k7m11 : Method := { name := "checkIndex", desc := "(II)V", sig := { parameters := [.int, .int], returnType := none }, accessFlags := 8, code := some k7c11 }
/-- java/lang/String -/
def k7 : Class := { plain "java/lang/String" (some 0) with
  accessFlags := 49
  interfaces := #[2, 3, 4, 5, 6]
  cf := some (fileOf pool7 10 #[.nestMembers #[1103]] #[{ accessFlags := 1, nameIndex := 5, descriptorIndex := 6, attributes := #[] }, { accessFlags := 1, nameIndex := 5, descriptorIndex := 1010, attributes := #[] }, { accessFlags := 1, nameIndex := 5, descriptorIndex := 1233, attributes := #[] }, { accessFlags := 1, nameIndex := 507, descriptorIndex := 334, attributes := #[] }, { accessFlags := 1, nameIndex := 497, descriptorIndex := 427, attributes := #[] }, { accessFlags := 1, nameIndex := 543, descriptorIndex := 573, attributes := #[] }, { accessFlags := 0, nameIndex := 532, descriptorIndex := 821, attributes := #[] }, { accessFlags := 2, nameIndex := 5, descriptorIndex := 29, attributes := #[] }, { accessFlags := 0, nameIndex := 5, descriptorIndex := 491, attributes := #[] }, { accessFlags := 0, nameIndex := 17, descriptorIndex := 337, attributes := #[] }, { accessFlags := 0, nameIndex := 494, descriptorIndex := 142, attributes := #[] }, { accessFlags := 8, nameIndex := 501, descriptorIndex := 391, attributes := #[] }] 49 2 #[1106, 1108, 575, 1110, 1112] #[{ accessFlags := 18, nameIndex := 13, descriptorIndex := 14, attributes := #[] }, { accessFlags := 18, nameIndex := 17, descriptorIndex := 18, attributes := #[] }, { accessFlags := 2, nameIndex := 21, descriptorIndex := 22, attributes := #[] }, { accessFlags := 2, nameIndex := 25, descriptorIndex := 26, attributes := #[] }, { accessFlags := 26, nameIndex := 1116, descriptorIndex := 1117, attributes := #[] }, { accessFlags := 24, nameIndex := 40, descriptorIndex := 26, attributes := #[] }, { accessFlags := 26, nameIndex := 1101, descriptorIndex := 1102, attributes := #[] }, { accessFlags := 26, nameIndex := 1121, descriptorIndex := 1122, attributes := #[] }, { accessFlags := 25, nameIndex := 599, descriptorIndex := 600, attributes := #[] }, { accessFlags := 24, nameIndex := 1125, descriptorIndex := 18, attributes := #[] }, { accessFlags := 24, nameIndex := 1127, descriptorIndex := 18, attributes := #[] }])
  fields := #[{ name := "value", type := (.array .byte), accessFlags := 18, slot := 0, constantValue := 0 }, { name := "coder", type := .byte, accessFlags := 18, slot := 1, constantValue := 0 }, { name := "hash", type := .int, accessFlags := 2, slot := 2, constantValue := 0 }, { name := "hashIsZero", type := .boolean, accessFlags := 2, slot := 3, constantValue := 0 }, { name := "serialVersionUID", type := .long, accessFlags := 26, slot := 0, constantValue := 0 }, { name := "COMPACT_STRINGS", type := .boolean, accessFlags := 24, slot := 1, constantValue := 0 }, { name := "serialPersistentFields", type := (.array (.object "java/io/ObjectStreamField")), accessFlags := 26, slot := 2, constantValue := 0 }, { name := "REPL", type := .char, accessFlags := 26, slot := 3, constantValue := 0 }, { name := "CASE_INSENSITIVE_ORDER", type := (.object "java/util/Comparator"), accessFlags := 25, slot := 4, constantValue := 0 }, { name := "LATIN1", type := .byte, accessFlags := 24, slot := 5, constantValue := 0 }, { name := "UTF16", type := .byte, accessFlags := 24, slot := 6, constantValue := 0 }]
  methods := #[k7m0, k7m1, k7m2, k7m3, k7m4, k7m5, k7m6, k7m7, k7m8, k7m9, k7m10, k7m11]
  instanceTypes := #[(.array .byte), .byte, .int, .boolean]
  staticTypes := #[.long, .boolean, (.array (.object "java/io/ObjectStreamField")), .char, (.object "java/util/Comparator"), .byte, .byte]
  resolved := Array.replicate 1451 none
  statics := some 0 }

def pool8 : Array CpInfo := pool [(1, .class_ 2), (0, u "java/lang/String"), (1, .class_ 6), (1, u "java/lang/Object"), (0, u "<init>"), (0, u "()V"), (0, .methodref 1 10), (0, .nameAndType 11 12), (0, u "checkIndex"), (0, u "(II)V"), (1, .class_ 16), (1, u "java/lang/StringLatin1"), (36, u "([BI)C"), (67, u "$assertionsDisabled"), (0, u "Z"), (98, .class_ 223), (1, u "java/lang/StringLatin1$LinesSpliterator"), (28, u "charAt"), (28, u "equals"), (0, u "([B[B)Z"), (107, .class_ 391), (0, u "java/lang/StringLatin1$CharsSpliterator")] 3

def k8m0 : Method := { name := "<init>", desc := "()V", sig := { parameters := [], returnType := none }, accessFlags := 0, code := none }
def k8c1 : Code := { maxStack := 2, maxLocals := 2, code := jdk_43_method_2_code, exceptionTable := #[], attributes := #[] }
def k8m1 : Method := { name := "charAt", desc := "([BI)C", sig := { parameters := [(.array .byte), .int], returnType := some .char }, accessFlags := 9, code := some k8c1 }
def k8c2 : Code := { maxStack := 3, maxLocals := 3, code := jdk_43_method_13_code, exceptionTable := #[], attributes := #[] }
def k8m2 : Method := { name := "equals", desc := "([B[B)Z", sig := { parameters := [(.array .byte), (.array .byte)], returnType := some .boolean }, accessFlags := 9, code := some k8c2 }
/-- java/lang/StringLatin1 -/
def k8 : Class := { plain "java/lang/StringLatin1" (some 0) with
  accessFlags := 48
  interfaces := #[]
  cf := some (fileOf pool8 14 #[.nestMembers #[390, 221]] #[{ accessFlags := 0, nameIndex := 7, descriptorIndex := 8, attributes := #[] }, { accessFlags := 9, nameIndex := 252, descriptorIndex := 53, attributes := #[] }, { accessFlags := 9, nameIndex := 281, descriptorIndex := 282, attributes := #[] }] 48 4 #[] #[{ accessFlags := 4120, nameIndex := 121, descriptorIndex := 122, attributes := #[] }])
  fields := #[{ name := "$assertionsDisabled", type := .boolean, accessFlags := 4120, slot := 0, constantValue := 0 }]
  methods := #[k8m0, k8m1, k8m2]
  instanceTypes := #[]
  staticTypes := #[.boolean]
  resolved := Array.replicate 395 none
  statics := none }

def pool9 : Array CpInfo := pool [(2, .class_ 4), (1, u "java/lang/Object"), (0, u "<init>"), (0, u "()V"), (17, .class_ 26), (1, u "jdk/internal/util/Preconditions"), (6, u "checkIndex"), (21, .class_ 56), (0, u "jdk/internal/util/Preconditions$4"), (57, .class_ 115), (0, u "jdk/internal/util/Preconditions$1"), (7, u "SIOOBE_FORMATTER"), (0, u "Ljava/util/function/BiFunction;"), (0, .class_ 126), (0, u "jdk/internal/util/Preconditions$2"), (3, u "AIOOBE_FORMATTER"), (0, .class_ 132), (0, u "jdk/internal/util/Preconditions$3"), (3, u "IOOBE_FORMATTER"), (41, u "(IILjava/util/function/BiFunction;)I")] 15

def k9m0 : Method := { name := "<init>", desc := "()V", sig := { parameters := [], returnType := none }, accessFlags := 1, code := none }
def k9c1 : Code := { maxStack := 3, maxLocals := 3, code := jdk_41_method_11_code, exceptionTable := #[], attributes := #[] }
def k9m1 : Method := { name := "checkIndex", desc := "(IILjava/util/function/BiFunction;)I", sig := { parameters := [.int, .int, (.object "java/util/function/BiFunction")], returnType := some .int }, accessFlags := 9, code := some k9c1 }
/-- jdk/internal/util/Preconditions -/
def k9 : Class := { plain "jdk/internal/util/Preconditions" (some 0) with
  accessFlags := 33
  interfaces := #[]
  cf := some (fileOf pool9 24 #[.nestMembers #[55, 131, 125, 114]] #[{ accessFlags := 1, nameIndex := 5, descriptorIndex := 6, attributes := #[] }, { accessFlags := 9, nameIndex := 33, descriptorIndex := 178, attributes := #[] }] 33 2 #[] #[{ accessFlags := 25, nameIndex := 123, descriptorIndex := 124, attributes := #[] }, { accessFlags := 25, nameIndex := 130, descriptorIndex := 124, attributes := #[] }, { accessFlags := 25, nameIndex := 136, descriptorIndex := 124, attributes := #[] }])
  fields := #[{ name := "SIOOBE_FORMATTER", type := (.object "java/util/function/BiFunction"), accessFlags := 25, slot := 0, constantValue := 0 }, { name := "AIOOBE_FORMATTER", type := (.object "java/util/function/BiFunction"), accessFlags := 25, slot := 1, constantValue := 0 }, { name := "IOOBE_FORMATTER", type := (.object "java/util/function/BiFunction"), accessFlags := 25, slot := 2, constantValue := 0 }]
  methods := #[k9m0, k9m1]
  instanceTypes := #[]
  staticTypes := #[(.object "java/util/function/BiFunction"), (.object "java/util/function/BiFunction"), (.object "java/util/function/BiFunction")]
  resolved := Array.replicate 194 none
  statics := some 1 }

def pool10 : Array CpInfo := pool [(6, .class_ 8), (1, u "java/lang/Object"), (0, u "<init>"), (0, u "()V"), (1, .class_ 14), (1, u "java/lang/StringUTF16"), (31, u "$assertionsDisabled"), (0, u "Z"), (13, u "HI_BYTE_SHIFT"), (0, u "I"), (2, u "LO_BYTE_SHIFT"), (49, .methodref 12 116), (0, .nameAndType 117 118), (0, u "compress"), (0, u "([CI[BII)I"), (3, u "([CII)[B"), (138, u "coderFromArrayLen"), (0, u "([BI)B"), (106, .class_ 371), (1, u "java/lang/StringUTF16$LinesSpliterator"), (58, u "MAX_LENGTH"), (196, .class_ 628), (0, u "java/lang/StringUTF16$CodePointsSpliterator"), (0, .class_ 630), (0, u "java/lang/StringUTF16$CharsSpliterator")] 4

def k10m0 : Method := { name := "<init>", desc := "()V", sig := { parameters := [], returnType := none }, accessFlags := 0, code := none }
def k10c1 : Code := { maxStack := 2, maxLocals := 2, code := jdk_52_method_15_code, exceptionTable := #[], attributes := #[] }
def k10m1 : Method := { name := "coderFromArrayLen", desc := "([BI)B", sig := { parameters := [(.array .byte), .int], returnType := some .byte }, accessFlags := 8, code := some k10c1 }
def k10c2 : Code := { maxStack := 5, maxLocals := 6, code := jdk_52_method_16_code, exceptionTable := #[], attributes := #[] }
def k10m2 : Method := { name := "compress", desc := "([CII)[B", sig := { parameters := [(.array .char), .int, .int], returnType := some (.array .byte) }, accessFlags := 9, code := some k10c2 }
def k10c3 : Code := { maxStack := 3, maxLocals := 7, code := jdk_52_method_21_code, exceptionTable := #[], attributes := #[] }
def k10m3 : Method := { name := "compress", desc := "([CI[BII)I", sig := { parameters := [(.array .char), .int, (.array .byte), .int, .int], returnType := some .int }, accessFlags := 9, code := some k10c3 }
/-- java/lang/StringUTF16 -/
def k10 : Class := { plain "java/lang/StringUTF16" (some 0) with
  accessFlags := 48
  interfaces := #[]
  cf := some (fileOf pool10 12 #[.nestMembers #[627, 629, 369]] #[{ accessFlags := 0, nameIndex := 9, descriptorIndex := 10, attributes := #[] }, { accessFlags := 8, nameIndex := 261, descriptorIndex := 262, attributes := #[] }, { accessFlags := 9, nameIndex := 117, descriptorIndex := 122, attributes := #[] }, { accessFlags := 9, nameIndex := 117, descriptorIndex := 118, attributes := #[] }] 48 6 #[] #[{ accessFlags := 26, nameIndex := 61, descriptorIndex := 62, attributes := #[] }, { accessFlags := 26, nameIndex := 65, descriptorIndex := 62, attributes := #[] }, { accessFlags := 24, nameIndex := 430, descriptorIndex := 62, attributes := #[] }, { accessFlags := 4120, nameIndex := 46, descriptorIndex := 47, attributes := #[] }])
  fields := #[{ name := "HI_BYTE_SHIFT", type := .int, accessFlags := 26, slot := 0, constantValue := 0 }, { name := "LO_BYTE_SHIFT", type := .int, accessFlags := 26, slot := 1, constantValue := 0 }, { name := "MAX_LENGTH", type := .int, accessFlags := 24, slot := 2, constantValue := 0 }, { name := "$assertionsDisabled", type := .boolean, accessFlags := 4120, slot := 3, constantValue := 0 }]
  methods := #[k10m0, k10m1, k10m2, k10m3]
  instanceTypes := #[]
  staticTypes := #[.int, .int, .int, .boolean]
  resolved := Array.replicate 635 none
  statics := none }

def pool11 : Array CpInfo := pool [(1, .class_ 2), (0, u "wirefold/DefinitionRegistry"), (0, .class_ 4), (0, u "java/lang/Object")] 12

/-- wirefold/DefinitionRegistry -/
def k11 : Class := { plain "wirefold/DefinitionRegistry" (some 0) with
  accessFlags := 1537
  interfaces := #[]
  cf := some (fileOf pool11 1 #[] #[] 1537 3 #[] #[])
  fields := #[]
  methods := #[]
  instanceTypes := #[]
  staticTypes := #[]
  resolved := Array.replicate 17 none
  statics := none }

def pool12 : Array CpInfo := pool [(2, .class_ 4), (0, .nameAndType 5 6), (0, u "java/lang/Object"), (0, u "<init>"), (0, u "()V"), (4, .class_ 13), (1, u "wirefold/Definitions"), (0, u "byName"), (0, u "Ljava/util/Map;"), (1, .class_ 19), (1, u "wirefold/Definitions$Changes"), (1, u "Lwirefold/Definitions$Changes;"), (2, u "accepted"), (2, u "created"), (0, u "Ljava/util/function/Predicate;"), (24, .class_ 54), (0, u "java/lang/StringBuilder"), (0, .methodref 53 3), (2, .methodref 53 59), (0, .nameAndType 60 61), (0, u "append"), (0, u "(Ljava/lang/String;)Ljava/lang/StringBuilder;"), (2, .methodref 53 65), (0, .nameAndType 66 67), (0, u "toString"), (0, u "()Ljava/lang/String;"), (1, .nameAndType 5 70), (0, u "(Ljava/lang/String;)V"), (31, .class_ 103), (0, u "java/lang/IllegalStateException"), (9, .methodref 102 69), (10, u "namesByType"), (35, u "fixed"), (0, u "(Ljava/lang/String;)Ljava/lang/IllegalStateException;"), (0, .string 163), (0, u ": the definitions are fixed once the factory post-processors have run"), (91, .class_ 256), (0, u "wirefold/DefinitionRegistry")] 53

def k12c0 : Code := { maxStack := 4, maxLocals := 1, code := prog_35_method_9_code, exceptionTable := #[], attributes := #[] }
def k12m0 : Method := { name := "fixed", desc := "(Ljava/lang/String;)Ljava/lang/IllegalStateException;", sig := { parameters := [(.object "java/lang/String")], returnType := some (.object "java/lang/IllegalStateException") }, accessFlags := 8, code := some k12c0 }
/-- wirefold/Definitions -/
def k12 : Class := { plain "wirefold/Definitions" (some 0) with
  accessFlags := 48
  interfaces := #[11]
  cf := some (fileOf pool12 11 #[.nestMembers #[17]] #[{ accessFlags := 8, nameIndex := 160, descriptorIndex := 161, attributes := #[] }] 48 2 #[255] #[{ accessFlags := 18, nameIndex := 14, descriptorIndex := 15, attributes := #[] }, { accessFlags := 18, nameIndex := 27, descriptorIndex := 28, attributes := #[] }, { accessFlags := 66, nameIndex := 24, descriptorIndex := 21, attributes := #[] }, { accessFlags := 66, nameIndex := 124, descriptorIndex := 15, attributes := #[] }])
  fields := #[{ name := "byName", type := (.object "java/util/Map"), accessFlags := 18, slot := 0, constantValue := 0 }, { name := "created", type := (.object "java/util/function/Predicate"), accessFlags := 18, slot := 1, constantValue := 0 }, { name := "accepted", type := (.object "wirefold/Definitions$Changes"), accessFlags := 66, slot := 2, constantValue := 0 }, { name := "namesByType", type := (.object "java/util/Map"), accessFlags := 66, slot := 3, constantValue := 0 }]
  methods := #[k12m0]
  instanceTypes := #[(.object "java/util/Map"), (.object "java/util/function/Predicate"), (.object "wirefold/Definitions$Changes"), (.object "java/util/Map")]
  staticTypes := #[]
  resolved := Array.replicate 310 none
  statics := none }

def pool13 : Array CpInfo := pool [(1, .methodref 2 3), (0, .class_ 4), (0, .nameAndType 5 6), (0, u "java/lang/Object"), (0, u "<init>"), (0, u "()V"), (0, .fieldref 8 9), (0, .class_ 10), (0, .nameAndType 11 12), (0, u "java/lang/Throwable"), (0, u "cause"), (0, u "Ljava/lang/Throwable;"), (0, .fieldref 8 14), (0, .nameAndType 15 16), (0, u "UNASSIGNED_STACK"), (0, u "[Ljava/lang/StackTraceElement;"), (0, .fieldref 8 18), (0, .nameAndType 19 16), (0, u "stackTrace"), (0, .fieldref 8 21), (0, .nameAndType 22 23), (0, u "SUPPRESSED_SENTINEL"), (0, u "Ljava/util/List;"), (0, .fieldref 8 25), (0, .nameAndType 26 23), (0, u "suppressedExceptions"), (0, .methodref 8 28), (0, .nameAndType 29 30), (0, u "fillInStackTrace"), (0, u "()Ljava/lang/Throwable;"), (0, .fieldref 8 32), (0, .nameAndType 33 34), (0, u "detailMessage"), (0, u "Ljava/lang/String;"), (3, u "()Ljava/lang/String;"), (2, u "getMessage"), (51, .class_ 94), (0, u "java/lang/Throwable$WrappedPrintStream"), (6, .class_ 103), (1, u "java/lang/Throwable$PrintStreamOrWriter"), (54, u "getCause"), (6, u "$assertionsDisabled"), (0, u "Z"), (26, .class_ 194), (0, u "java/lang/Throwable$WrappedPrintWriter"), (3, .fieldref 8 199), (0, .nameAndType 200 201), (0, u "backtrace"), (0, u "Ljava/lang/Object;"), (0, .methodref 8 203), (0, .nameAndType 29 204), (0, u "(I)Ljava/lang/Throwable;"), (6, u "depth"), (0, u "I"), (10, u "(Ljava/lang/String;)V"), (45, .class_ 271), (1, u "java/lang/Throwable$SentinelHolder"), (32, u "EMPTY_THROWABLE_ARRAY"), (0, u "[Ljava/lang/Throwable;"), (12, .class_ 319), (0, u "java/io/Serializable"), (0, u "serialVersionUID"), (0, u "J"), (5, u "NULL_CAUSE_MESSAGE"), (0, u "SELF_SUPPRESSION_MESSAGE"), (0, u "CAUSE_CAPTION"), (0, u "SUPPRESSED_CAPTION")] 73

def k13c0 : Code := { maxStack := 2, maxLocals := 1, code := jdk_78_method_1_code, exceptionTable := #[], attributes := #[] }
def k13m0 : Method := { name := "<init>", desc := "()V", sig := { parameters := [], returnType := none }, accessFlags := 1, code := some k13c0 }
def k13c1 : Code := { maxStack := 2, maxLocals := 2, code := jdk_78_method_2_code, exceptionTable := #[], attributes := #[] }
def k13m1 : Method := { name := "<init>", desc := "(Ljava/lang/String;)V", sig := { parameters := [(.object "java/lang/String")], returnType := none }, accessFlags := 1, code := some k13c1 }
def k13c2 : Code := { maxStack := 1, maxLocals := 1, code := jdk_78_method_6_code, exceptionTable := #[], attributes := #[] }
def k13m2 : Method := { name := "getMessage", desc := "()Ljava/lang/String;", sig := { parameters := [], returnType := some (.object "java/lang/String") }, accessFlags := 1, code := some k13c2 }
def k13c3 : Code := { maxStack := 2, maxLocals := 1, code := ⟨#[0x2a, 0xb4, 0x00, 0x07, 0x2a, 0xa6, 0x00, 0x07, 0x01, 0xa7, 0x00, 0x07, 0x2a, 0xb4, 0x00, 0x07, 0xb0]⟩, exceptionTable := #[], attributes := #[] }
def k13m3 : Method := { name := "getCause", desc := "()Ljava/lang/Throwable;", sig := { parameters := [], returnType := some (.object "java/lang/Throwable") }, accessFlags := 33, code := some k13c3 }
def k13c4 : Code := { maxStack := 2, maxLocals := 1, code := ⟨#[0x2a, 0xb4, 0x00, 0x11, 0xc7, 0x00, 0x0a, 0x2a, 0xb4, 0x00, 0xc6, 0xc6, 0x00, 0x10, 0x2a, 0x03, 0xb6, 0x00, 0xca, 0x57, 0x2a, 0xb2, 0x00, 0x0d, 0xb5, 0x00, 0x11, 0x2a, 0xb0]⟩, exceptionTable := #[], attributes := #[] }
def k13m4 : Method := { name := "fillInStackTrace", desc := "()Ljava/lang/Throwable;", sig := { parameters := [], returnType := some (.object "java/lang/Throwable") }, accessFlags := 33, code := some k13c4 }
def k13m5 : Method := { name := "fillInStackTrace", desc := "(I)Ljava/lang/Throwable;", sig := { parameters := [.int], returnType := some (.object "java/lang/Throwable") }, accessFlags := 258, code := none }
/-- java/lang/Throwable -/
def k13 : Class := { plain "java/lang/Throwable" (some 0) with
  accessFlags := 33
  interfaces := #[2]
  cf := some (fileOf pool13 8 #[.nestMembers #[193, 93, 101, 269]] #[{ accessFlags := 1, nameIndex := 5, descriptorIndex := 6, attributes := #[] }, { accessFlags := 1, nameIndex := 5, descriptorIndex := 223, attributes := #[] }, { accessFlags := 1, nameIndex := 41, descriptorIndex := 38, attributes := #[] }, { accessFlags := 33, nameIndex := 158, descriptorIndex := 30, attributes := #[] }, { accessFlags := 33, nameIndex := 29, descriptorIndex := 30, attributes := #[] }, { accessFlags := 258, nameIndex := 29, descriptorIndex := 204, attributes := #[] }] 33 2 #[318] #[{ accessFlags := 26, nameIndex := 320, descriptorIndex := 321, attributes := #[] }, { accessFlags := 130, nameIndex := 200, descriptorIndex := 201, attributes := #[] }, { accessFlags := 2, nameIndex := 33, descriptorIndex := 34, attributes := #[] }, { accessFlags := 26, nameIndex := 15, descriptorIndex := 16, attributes := #[] }, { accessFlags := 2, nameIndex := 11, descriptorIndex := 12, attributes := #[] }, { accessFlags := 2, nameIndex := 19, descriptorIndex := 16, attributes := #[] }, { accessFlags := 130, nameIndex := 211, descriptorIndex := 212, attributes := #[] }, { accessFlags := 26, nameIndex := 22, descriptorIndex := 23, attributes := #[] }, { accessFlags := 2, nameIndex := 26, descriptorIndex := 23, attributes := #[] }, { accessFlags := 26, nameIndex := 327, descriptorIndex := 34, attributes := #[] }, { accessFlags := 26, nameIndex := 328, descriptorIndex := 34, attributes := #[] }, { accessFlags := 26, nameIndex := 329, descriptorIndex := 34, attributes := #[] }, { accessFlags := 26, nameIndex := 330, descriptorIndex := 34, attributes := #[] }, { accessFlags := 26, nameIndex := 304, descriptorIndex := 305, attributes := #[] }, { accessFlags := 4120, nameIndex := 165, descriptorIndex := 166, attributes := #[] }])
  fields := #[{ name := "serialVersionUID", type := .long, accessFlags := 26, slot := 0, constantValue := 0 }, { name := "backtrace", type := (.object "java/lang/Object"), accessFlags := 130, slot := 0, constantValue := 0 }, { name := "detailMessage", type := (.object "java/lang/String"), accessFlags := 2, slot := 1, constantValue := 0 }, { name := "UNASSIGNED_STACK", type := (.array (.object "java/lang/StackTraceElement")), accessFlags := 26, slot := 1, constantValue := 0 }, { name := "cause", type := (.object "java/lang/Throwable"), accessFlags := 2, slot := 2, constantValue := 0 }, { name := "stackTrace", type := (.array (.object "java/lang/StackTraceElement")), accessFlags := 2, slot := 3, constantValue := 0 }, { name := "depth", type := .int, accessFlags := 130, slot := 4, constantValue := 0 }, { name := "SUPPRESSED_SENTINEL", type := (.object "java/util/List"), accessFlags := 26, slot := 2, constantValue := 0 }, { name := "suppressedExceptions", type := (.object "java/util/List"), accessFlags := 2, slot := 5, constantValue := 0 }, { name := "NULL_CAUSE_MESSAGE", type := (.object "java/lang/String"), accessFlags := 26, slot := 3, constantValue := 0 }, { name := "SELF_SUPPRESSION_MESSAGE", type := (.object "java/lang/String"), accessFlags := 26, slot := 4, constantValue := 0 }, { name := "CAUSE_CAPTION", type := (.object "java/lang/String"), accessFlags := 26, slot := 5, constantValue := 0 }, { name := "SUPPRESSED_CAPTION", type := (.object "java/lang/String"), accessFlags := 26, slot := 6, constantValue := 0 }, { name := "EMPTY_THROWABLE_ARRAY", type := (.array (.object "java/lang/Throwable")), accessFlags := 26, slot := 7, constantValue := 0 }, { name := "$assertionsDisabled", type := .boolean, accessFlags := 4120, slot := 8, constantValue := 0 }]
  methods := #[k13m0, k13m1, k13m2, k13m3, k13m4, k13m5]
  instanceTypes := #[(.object "java/lang/Object"), (.object "java/lang/String"), (.object "java/lang/Throwable"), (.array (.object "java/lang/StackTraceElement")), .int, (.object "java/util/List")]
  staticTypes := #[.long, (.array (.object "java/lang/StackTraceElement")), (.object "java/util/List"), (.object "java/lang/String"), (.object "java/lang/String"), (.object "java/lang/String"), (.object "java/lang/String"), (.array (.object "java/lang/Throwable")), .boolean]
  resolved := Array.replicate 404 none
  statics := some 2 }

def pool14 : Array CpInfo := pool [(2, .class_ 4), (1, u "java/lang/Throwable"), (0, u "<init>"), (0, u "()V"), (0, .methodref 2 8), (0, .nameAndType 5 9), (0, u "(Ljava/lang/String;)V"), (9, .class_ 20), (0, u "java/lang/Exception"), (0, u "serialVersionUID"), (0, u "J")] 17

def k14m0 : Method := { name := "<init>", desc := "()V", sig := { parameters := [], returnType := none }, accessFlags := 1, code := none }
def k14c1 : Code := { maxStack := 2, maxLocals := 2, code := jdk_59_method_2_code, exceptionTable := #[], attributes := #[] }
def k14m1 : Method := { name := "<init>", desc := "(Ljava/lang/String;)V", sig := { parameters := [(.object "java/lang/String")], returnType := none }, accessFlags := 1, code := some k14c1 }
/-- java/lang/Exception -/
def k14 : Class := { plain "java/lang/Exception" (some 13) with
  accessFlags := 33
  interfaces := #[]
  cf := some (fileOf pool14 19 #[] #[{ accessFlags := 1, nameIndex := 5, descriptorIndex := 6, attributes := #[] }, { accessFlags := 1, nameIndex := 5, descriptorIndex := 9, attributes := #[] }] 33 2 #[] #[{ accessFlags := 24, nameIndex := 21, descriptorIndex := 22, attributes := #[] }])
  fields := #[{ name := "serialVersionUID", type := .long, accessFlags := 24, slot := 0, constantValue := 0 }]
  methods := #[k14m0, k14m1]
  instanceTypes := #[(.object "java/lang/Object"), (.object "java/lang/String"), (.object "java/lang/Throwable"), (.array (.object "java/lang/StackTraceElement")), .int, (.object "java/util/List")]
  staticTypes := #[.long]
  resolved := Array.replicate 40 none
  statics := none }

def pool15 : Array CpInfo := pool [(2, .class_ 4), (1, u "java/lang/Exception"), (0, u "<init>"), (0, u "()V"), (0, .methodref 2 8), (0, .nameAndType 5 9), (0, u "(Ljava/lang/String;)V"), (9, .class_ 20), (0, u "java/lang/RuntimeException"), (0, u "serialVersionUID"), (0, u "J")] 17

def k15m0 : Method := { name := "<init>", desc := "()V", sig := { parameters := [], returnType := none }, accessFlags := 1, code := none }
def k15c1 : Code := { maxStack := 2, maxLocals := 2, code := jdk_58_method_2_code, exceptionTable := #[], attributes := #[] }
def k15m1 : Method := { name := "<init>", desc := "(Ljava/lang/String;)V", sig := { parameters := [(.object "java/lang/String")], returnType := none }, accessFlags := 1, code := some k15c1 }
/-- java/lang/RuntimeException -/
def k15 : Class := { plain "java/lang/RuntimeException" (some 14) with
  accessFlags := 33
  interfaces := #[]
  cf := some (fileOf pool15 19 #[] #[{ accessFlags := 1, nameIndex := 5, descriptorIndex := 6, attributes := #[] }, { accessFlags := 1, nameIndex := 5, descriptorIndex := 9, attributes := #[] }] 33 2 #[] #[{ accessFlags := 24, nameIndex := 21, descriptorIndex := 22, attributes := #[] }])
  fields := #[{ name := "serialVersionUID", type := .long, accessFlags := 24, slot := 0, constantValue := 0 }]
  methods := #[k15m0, k15m1]
  instanceTypes := #[(.object "java/lang/Object"), (.object "java/lang/String"), (.object "java/lang/Throwable"), (.array (.object "java/lang/StackTraceElement")), .int, (.object "java/util/List")]
  staticTypes := #[.long]
  resolved := Array.replicate 40 none
  statics := none }

def pool16 : Array CpInfo := pool [(2, .class_ 4), (1, u "java/lang/RuntimeException"), (0, u "<init>"), (0, u "()V"), (0, .methodref 2 8), (0, .nameAndType 5 9), (0, u "(Ljava/lang/String;)V"), (6, .class_ 17), (0, u "java/lang/IllegalStateException"), (0, u "serialVersionUID"), (0, u "J")] 15

def k16m0 : Method := { name := "<init>", desc := "()V", sig := { parameters := [], returnType := none }, accessFlags := 1, code := none }
def k16c1 : Code := { maxStack := 2, maxLocals := 2, code := jdk_60_method_2_code, exceptionTable := #[], attributes := #[] }
def k16m1 : Method := { name := "<init>", desc := "(Ljava/lang/String;)V", sig := { parameters := [(.object "java/lang/String")], returnType := none }, accessFlags := 1, code := some k16c1 }
/-- java/lang/IllegalStateException -/
def k16 : Class := { plain "java/lang/IllegalStateException" (some 15) with
  accessFlags := 33
  interfaces := #[]
  cf := some (fileOf pool16 16 #[] #[{ accessFlags := 1, nameIndex := 5, descriptorIndex := 6, attributes := #[] }, { accessFlags := 1, nameIndex := 5, descriptorIndex := 9, attributes := #[] }] 33 2 #[] #[{ accessFlags := 24, nameIndex := 18, descriptorIndex := 19, attributes := #[] }])
  fields := #[{ name := "serialVersionUID", type := .long, accessFlags := 24, slot := 0, constantValue := 0 }]
  methods := #[k16m0, k16m1]
  instanceTypes := #[(.object "java/lang/Object"), (.object "java/lang/String"), (.object "java/lang/Throwable"), (.array (.object "java/lang/StackTraceElement")), .int, (.object "java/util/List")]
  staticTypes := #[.long]
  resolved := Array.replicate 35 none
  statics := none }

def pool17 : Array CpInfo := pool [(1, .class_ 2), (0, u "java/lang/Appendable"), (0, .class_ 4), (0, u "java/lang/Object")] 9

/-- java/lang/Appendable -/
def k17 : Class := { plain "java/lang/Appendable" (some 0) with
  accessFlags := 1537
  interfaces := #[]
  cf := some (fileOf pool17 1 #[] #[] 1537 3 #[] #[])
  fields := #[]
  methods := #[]
  instanceTypes := #[]
  staticTypes := #[]
  resolved := Array.replicate 14 none
  statics := none }

def pool18 : Array CpInfo := pool [(1, .class_ 2), (0, u "java/lang/String"), (0, .methodref 4 5), (0, .class_ 6), (0, .nameAndType 7 8), (0, u "java/lang/Object"), (0, u "<init>"), (0, u "()V"), (1, .class_ 12), (1, u "java/lang/AbstractStringBuilder"), (0, u "EMPTYVALUE"), (0, u "[B"), (0, .fieldref 10 16), (0, .nameAndType 17 14), (0, u "value"), (0, .fieldref 1 19), (0, .nameAndType 20 21), (0, u "COMPACT_STRINGS"), (0, u "Z"), (0, .fieldref 10 23), (0, .nameAndType 24 25), (0, u "coder"), (0, u "B"), (6, .methodref 1 33), (0, .nameAndType 34 35), (0, u "length"), (0, u "()I"), (3, .integer 2147483647), (0, .methodref 1 41), (0, .nameAndType 24 42), (0, u "()B"), (2, u "append"), (0, u "(Ljava/lang/String;)Ljava/lang/AbstractStringBuilder;"), (1, .class_ 49), (0, u "java/lang/CharSequence"), (19, u "(Ljava/lang/String;)V"), (5, u "maybeLatin1"), (3, .fieldref 10 80), (0, .nameAndType 81 82), (0, u "count"), (0, u "I"), (2, u "isLatin1"), (0, u "()Z"), (13, .methodref 10 101), (0, .nameAndType 102 103), (0, u "ensureCapacityInternal"), (0, u "(I)V"), (0, .methodref 10 105), (0, .nameAndType 106 107), (0, u "newCapacity"), (0, u "(I)I"), (0, .methodref 109 110), (0, .class_ 111), (0, .nameAndType 112 113), (0, u "java/util/Arrays"), (0, u "copyOf"), (0, u "([BI)[B"), (0, .methodref 115 116), (0, .class_ 117), (0, .nameAndType 118 119), (0, u "jdk/internal/util/ArraysSupport"), (0, u "newLength"), (0, u "(III)I"), (88, .methodref 10 209), (0, .nameAndType 210 211), (0, u "putStringAt"), (0, u "(ILjava/lang/String;)V"), (5, u "inflateIfNeededFor"), (2, .nameAndType 221 222), (0, u "getBytes"), (0, u "([BIB)V"), (174, .methodref 10 398), (0, .nameAndType 217 69), (0, .methodref 1 220), (3, u "()[B"), (40, .class_ 445), (0, u "java/lang/Appendable"), (106, u "getValue")] 56

def k18m0 : Method := { name := "<init>", desc := "()V", sig := { parameters := [], returnType := none }, accessFlags := 0, code := none }
def k18c1 : Code := { maxStack := 2, maxLocals := 2, code := jdk_68_method_2_code, exceptionTable := #[], attributes := #[] }
def k18m1 : Method := { name := "<init>", desc := "(I)V", sig := { parameters := [.int], returnType := none }, accessFlags := 0, code := some k18c1 }
def k18c2 : Code := { maxStack := 1, maxLocals := 1, code := jdk_68_method_6_code, exceptionTable := #[], attributes := #[] }
def k18m2 : Method := { name := "length", desc := "()I", sig := { parameters := [], returnType := some .int }, accessFlags := 1, code := some k18c2 }
def k18c3 : Code := { maxStack := 4, maxLocals := 3, code := jdk_68_method_9_code, exceptionTable := #[], attributes := #[] }
def k18m3 : Method := { name := "ensureCapacityInternal", desc := "(I)V", sig := { parameters := [.int], returnType := none }, accessFlags := 2, code := some k18c3 }
def k18c4 : Code := { maxStack := 5, maxLocals := 6, code := jdk_68_method_10_code, exceptionTable := #[], attributes := #[] }
def k18m4 : Method := { name := "newCapacity", desc := "(I)I", sig := { parameters := [.int], returnType := some .int }, accessFlags := 2, code := some k18c4 }
def k18c5 : Code := { maxStack := 3, maxLocals := 3, code := jdk_68_method_22_code, exceptionTable := #[], attributes := #[] }
def k18m5 : Method := { name := "append", desc := "(Ljava/lang/String;)Ljava/lang/AbstractStringBuilder;", sig := { parameters := [(.object "java/lang/String")], returnType := some (.object "java/lang/AbstractStringBuilder") }, accessFlags := 1, code := some k18c5 }
def k18c6 : Code := { maxStack := 1, maxLocals := 1, code := jdk_68_method_64_code, exceptionTable := #[], attributes := #[] }
def k18m6 : Method := { name := "getValue", desc := "()[B", sig := { parameters := [], returnType := some (.array .byte) }, accessFlags := 16, code := some k18c6 }
def k18c7 : Code := { maxStack := 1, maxLocals := 1, code := jdk_68_method_68_code, exceptionTable := #[], attributes := #[] }
def k18m7 : Method := { name := "isLatin1", desc := "()Z", sig := { parameters := [], returnType := some .boolean }, accessFlags := 16, code := some k18c7 }
def k18c8 : Code := { maxStack := 2, maxLocals := 2, code := jdk_68_method_71_code, exceptionTable := #[], attributes := #[] }
def k18m8 : Method := { name := "inflateIfNeededFor", desc := "(Ljava/lang/String;)V", sig := { parameters := [(.object "java/lang/String")], returnType := none }, accessFlags := 2, code := some k18c8 }
def k18c9 : Code := { maxStack := 4, maxLocals := 3, code := jdk_68_method_73_code, exceptionTable := #[], attributes := #[] }
def k18m9 : Method := { name := "putStringAt", desc := "(ILjava/lang/String;)V", sig := { parameters := [.int, (.object "java/lang/String")], returnType := none }, accessFlags := 2, code := some k18c9 }
/-- java/lang/AbstractStringBuilder -/
def k18 : Class := { plain "java/lang/AbstractStringBuilder" (some 0) with
  accessFlags := 1056
  interfaces := #[17, 4]
  cf := some (fileOf pool18 10 #[] #[{ accessFlags := 0, nameIndex := 7, descriptorIndex := 8, attributes := #[] }, { accessFlags := 0, nameIndex := 7, descriptorIndex := 103, attributes := #[] }, { accessFlags := 1, nameIndex := 34, descriptorIndex := 35, attributes := #[] }, { accessFlags := 2, nameIndex := 102, descriptorIndex := 103, attributes := #[] }, { accessFlags := 2, nameIndex := 106, descriptorIndex := 107, attributes := #[] }, { accessFlags := 1, nameIndex := 45, descriptorIndex := 46, attributes := #[] }, { accessFlags := 16, nameIndex := 552, descriptorIndex := 403, attributes := #[] }, { accessFlags := 16, nameIndex := 85, descriptorIndex := 86, attributes := #[] }, { accessFlags := 2, nameIndex := 217, descriptorIndex := 69, attributes := #[] }, { accessFlags := 2, nameIndex := 210, descriptorIndex := 211, attributes := #[] }] 1056 4 #[444, 48] #[{ accessFlags := 0, nameIndex := 17, descriptorIndex := 14, attributes := #[] }, { accessFlags := 0, nameIndex := 24, descriptorIndex := 25, attributes := #[] }, { accessFlags := 0, nameIndex := 75, descriptorIndex := 21, attributes := #[] }, { accessFlags := 0, nameIndex := 81, descriptorIndex := 82, attributes := #[] }, { accessFlags := 26, nameIndex := 13, descriptorIndex := 14, attributes := #[] }])
  fields := #[{ name := "value", type := (.array .byte), accessFlags := 0, slot := 0, constantValue := 0 }, { name := "coder", type := .byte, accessFlags := 0, slot := 1, constantValue := 0 }, { name := "maybeLatin1", type := .boolean, accessFlags := 0, slot := 2, constantValue := 0 }, { name := "count", type := .int, accessFlags := 0, slot := 3, constantValue := 0 }, { name := "EMPTYVALUE", type := (.array .byte), accessFlags := 26, slot := 0, constantValue := 0 }]
  methods := #[k18m0, k18m1, k18m2, k18m3, k18m4, k18m5, k18m6, k18m7, k18m8, k18m9]
  instanceTypes := #[(.array .byte), .byte, .boolean, .int]
  staticTypes := #[(.array .byte)]
  resolved := Array.replicate 609 none
  statics := none }

def pool19 : Array CpInfo := pool [(1, .methodref 2 3), (0, .class_ 4), (0, .nameAndType 5 6), (0, u "java/lang/AbstractStringBuilder"), (0, u "<init>"), (0, u "(I)V"), (11, .class_ 20), (1, u "java/lang/String"), (3, .class_ 26), (1, u "java/lang/StringBuilder"), (0, u "append"), (0, u "(Ljava/lang/String;)Ljava/lang/StringBuilder;"), (0, .methodref 2 30), (0, .nameAndType 27 31), (0, u "(Ljava/lang/String;)Ljava/lang/AbstractStringBuilder;"), (105, .methodref 18 138), (0, .nameAndType 5 139), (0, u "(Ljava/lang/StringBuilder;)V"), (5, u "()V"), (10, u "()I"), (186, .methodref 2 344), (0, .nameAndType 345 156), (0, u "length"), (3, .class_ 350), (0, u "java/lang/Appendable"), (0, .class_ 352), (0, u "java/io/Serializable"), (0, .class_ 354), (0, u "java/lang/Comparable"), (0, .class_ 356), (0, u "java/lang/CharSequence"), (0, u "serialVersionUID"), (0, u "J"), (40, u "toString"), (0, u "()Ljava/lang/String;")] 21

def k19c0 : Code := { maxStack := 2, maxLocals := 1, code := jdk_67_method_1_code, exceptionTable := #[], attributes := #[] }
def k19m0 : Method := { name := "<init>", desc := "()V", sig := { parameters := [], returnType := none }, accessFlags := 1, code := some k19c0 }
def k19c1 : Code := { maxStack := 2, maxLocals := 2, code := jdk_67_method_7_code, exceptionTable := #[], attributes := #[] }
def k19m1 : Method := { name := "append", desc := "(Ljava/lang/String;)Ljava/lang/StringBuilder;", sig := { parameters := [(.object "java/lang/String")], returnType := some (.object "java/lang/StringBuilder") }, accessFlags := 1, code := some k19c1 }
def k19c2 : Code := { maxStack := 3, maxLocals := 1, code := jdk_67_method_42_code, exceptionTable := #[], attributes := #[] }
def k19m2 : Method := { name := "toString", desc := "()Ljava/lang/String;", sig := { parameters := [], returnType := some (.object "java/lang/String") }, accessFlags := 1, code := some k19c2 }
def k19c3 : Code := { maxStack := 1, maxLocals := 1, code := jdk_67_method_93_code, exceptionTable := #[], attributes := #[] }
def k19m3 : Method := { name := "length", desc := "()I", sig := { parameters := [], returnType := some .int }, accessFlags := 4161, code := some k19c3 }
/-- java/lang/StringBuilder -/
def k19 : Class := { plain "java/lang/StringBuilder" (some 18) with
  accessFlags := 49
  interfaces := #[17, 2, 3, 4]
  cf := some (fileOf pool19 24 #[] #[{ accessFlags := 1, nameIndex := 5, descriptorIndex := 145, attributes := #[] }, { accessFlags := 1, nameIndex := 27, descriptorIndex := 28, attributes := #[] }, { accessFlags := 1, nameIndex := 399, descriptorIndex := 400, attributes := #[] }, { accessFlags := 4161, nameIndex := 345, descriptorIndex := 156, attributes := #[] }] 49 2 #[349, 351, 353, 355] #[{ accessFlags := 24, nameIndex := 357, descriptorIndex := 358, attributes := #[] }])
  fields := #[{ name := "serialVersionUID", type := .long, accessFlags := 24, slot := 0, constantValue := 0 }]
  methods := #[k19m0, k19m1, k19m2, k19m3]
  instanceTypes := #[(.array .byte), .byte, .boolean, .int]
  staticTypes := #[.long]
  resolved := Array.replicate 422 none
  statics := none }

def pool20 : Array CpInfo := pool [(2, .class_ 4), (1, u "java/lang/Object"), (0, u "<init>"), (0, u "()V"), (1, .class_ 10), (1, u "java/lang/System"), (0, u "allowSecurityManager"), (0, u "I"), (16, u "cons"), (0, u "Ljava/io/Console;"), (77, .class_ 110), (1, u "java/lang/System$CallersHolder"), (43, u "initialErrStream"), (0, u "Ljava/io/PrintStream;"), (19, u "security"), (0, u "Ljava/lang/SecurityManager;"), (31, .class_ 209), (0, u "java/lang/System$1"), (7, u "props"), (0, u "Ljava/util/Properties;"), (2, u "lineSeparator"), (0, u "Ljava/lang/String;"), (96, .class_ 321), (1, u "java/lang/System$LoggerFinder"), (5, .class_ 328), (0, u "java/lang/System$Logger"), (67, u "err"), (2, u "out"), (91, u "notSupportedJnuEncoding"), (15, u "in"), (17, u "initialIn"), (0, u "Ljava/io/InputStream;"), (35, u "bootLayer"), (0, u "Ljava/lang/ModuleLayer;"), (99, .class_ 664), (0, u "java/lang/System$2"), (9, u "NEVER"), (2, u "MAYBE"), (49, u "arraycopy"), (0, u "(Ljava/lang/Object;ILjava/lang/Object;II)V"), (72, .class_ 802), (0, u "java/lang/System$Logger$Level")] 31

def k20m0 : Method := { name := "<init>", desc := "()V", sig := { parameters := [], returnType := none }, accessFlags := 2, code := none }
def k20m1 : Method := { name := "arraycopy", desc := "(Ljava/lang/Object;ILjava/lang/Object;II)V", sig := { parameters := [(.object "java/lang/Object"), .int, (.object "java/lang/Object"), .int, .int], returnType := none }, accessFlags := 265, code := none }
/-- java/lang/System -/
def k20 : Class := { plain "java/lang/System" (some 0) with
  accessFlags := 49
  interfaces := #[]
  cf := some (fileOf pool20 8 #[.nestMembers #[319, 327, 801, 108, 663, 208]] #[{ accessFlags := 2, nameIndex := 5, descriptorIndex := 6, attributes := #[] }, { accessFlags := 265, nameIndex := 727, descriptorIndex := 728, attributes := #[] }] 49 2 #[] #[{ accessFlags := 25, nameIndex := 507, descriptorIndex := 526, attributes := #[] }, { accessFlags := 25, nameIndex := 399, descriptorIndex := 155, attributes := #[] }, { accessFlags := 25, nameIndex := 396, descriptorIndex := 155, attributes := #[] }, { accessFlags := 10, nameIndex := 525, descriptorIndex := 526, attributes := #[] }, { accessFlags := 26, nameIndex := 674, descriptorIndex := 12, attributes := #[] }, { accessFlags := 26, nameIndex := 677, descriptorIndex := 12, attributes := #[] }, { accessFlags := 10, nameIndex := 11, descriptorIndex := 12, attributes := #[] }, { accessFlags := 74, nameIndex := 175, descriptorIndex := 176, attributes := #[] }, { accessFlags := 10, nameIndex := 491, descriptorIndex := 222, attributes := #[] }, { accessFlags := 74, nameIndex := 29, descriptorIndex := 30, attributes := #[] }, { accessFlags := 74, nameIndex := 154, descriptorIndex := 155, attributes := #[] }, { accessFlags := 10, nameIndex := 217, descriptorIndex := 218, attributes := #[] }, { accessFlags := 10, nameIndex := 221, descriptorIndex := 222, attributes := #[] }, { accessFlags := 8, nameIndex := 562, descriptorIndex := 563, attributes := #[] }])
  fields := #[{ name := "in", type := (.object "java/io/InputStream"), accessFlags := 25, slot := 0, constantValue := 0 }, { name := "out", type := (.object "java/io/PrintStream"), accessFlags := 25, slot := 1, constantValue := 0 }, { name := "err", type := (.object "java/io/PrintStream"), accessFlags := 25, slot := 2, constantValue := 0 }, { name := "initialIn", type := (.object "java/io/InputStream"), accessFlags := 10, slot := 3, constantValue := 0 }, { name := "NEVER", type := .int, accessFlags := 26, slot := 4, constantValue := 0 }, { name := "MAYBE", type := .int, accessFlags := 26, slot := 5, constantValue := 0 }, { name := "allowSecurityManager", type := .int, accessFlags := 10, slot := 6, constantValue := 0 }, { name := "security", type := (.object "java/lang/SecurityManager"), accessFlags := 74, slot := 7, constantValue := 0 }, { name := "notSupportedJnuEncoding", type := (.object "java/lang/String"), accessFlags := 10, slot := 8, constantValue := 0 }, { name := "cons", type := (.object "java/io/Console"), accessFlags := 74, slot := 9, constantValue := 0 }, { name := "initialErrStream", type := (.object "java/io/PrintStream"), accessFlags := 74, slot := 10, constantValue := 0 }, { name := "props", type := (.object "java/util/Properties"), accessFlags := 10, slot := 11, constantValue := 0 }, { name := "lineSeparator", type := (.object "java/lang/String"), accessFlags := 10, slot := 12, constantValue := 0 }, { name := "bootLayer", type := (.object "java/lang/ModuleLayer"), accessFlags := 8, slot := 13, constantValue := 0 }]
  methods := #[k20m0, k20m1]
  instanceTypes := #[]
  staticTypes := #[(.object "java/io/InputStream"), (.object "java/io/PrintStream"), (.object "java/io/PrintStream"), (.object "java/io/InputStream"), .int, .int, .int, (.object "java/lang/SecurityManager"), (.object "java/lang/String"), (.object "java/io/Console"), (.object "java/io/PrintStream"), (.object "java/util/Properties"), (.object "java/lang/String"), (.object "java/lang/ModuleLayer")]
  resolved := Array.replicate 834 none
  statics := none }

def pool21 : Array CpInfo := pool [(9, u "<init>"), (6, .class_ 18), (1, u "java/lang/Object"), (0, u "()V"), (1, .class_ 23), (1, u "jdk/internal/util/ArraysSupport"), (0, u "LOG2_ARRAY_LONG_INDEX_SCALE"), (0, u "I"), (2, u "U"), (0, u "Ljdk/internal/misc/Unsafe;"), (8, u "BIG_ENDIAN"), (0, u "Z"), (8, u "LOG2_BYTE_BIT_SIZE"), (4, u "LOG2_ARRAY_INT_INDEX_SCALE"), (54, u "JLA"), (0, u "Ljdk/internal/access/JavaLangAccess;"), (11, u "LOG2_ARRAY_BOOLEAN_INDEX_SCALE"), (9, u "LOG2_ARRAY_BYTE_INDEX_SCALE"), (5, u "LOG2_ARRAY_CHAR_INDEX_SCALE"), (5, u "LOG2_ARRAY_SHORT_INDEX_SCALE"), (18, u "LOG2_ARRAY_FLOAT_INDEX_SCALE"), (24, u "LOG2_ARRAY_DOUBLE_INDEX_SCALE"), (6, .methodref 195 196), (0, .class_ 197), (0, .nameAndType 198 199), (0, u "java/lang/Math"), (0, u "max"), (0, u "(II)I"), (0, .integer 2147483639), (76, u "T_BOOLEAN"), (2, u "T_CHAR"), (1, u "T_FLOAT"), (1, u "T_DOUBLE"), (1, u "T_BYTE"), (1, u "T_SHORT"), (1, u "T_INT"), (1, u "T_LONG"), (1, u "SOFT_MAX_ARRAY_LENGTH"), (56, u "newLength"), (0, u "(III)I")] 25

def k21m0 : Method := { name := "<init>", desc := "()V", sig := { parameters := [], returnType := none }, accessFlags := 2, code := none }
def k21c1 : Code := { maxStack := 3, maxLocals := 4, code := jdk_48_method_27_code, exceptionTable := #[], attributes := #[] }
def k21m1 : Method := { name := "newLength", desc := "(III)I", sig := { parameters := [.int, .int, .int], returnType := some .int }, accessFlags := 9, code := some k21c1 }
/-- jdk/internal/util/ArraysSupport -/
def k21 : Class := { plain "jdk/internal/util/ArraysSupport" (some 0) with
  accessFlags := 33
  interfaces := #[]
  cf := some (fileOf pool21 21 #[] #[{ accessFlags := 2, nameIndex := 9, descriptorIndex := 19, attributes := #[] }, { accessFlags := 9, nameIndex := 351, descriptorIndex := 352, attributes := #[] }] 33 16 #[] #[{ accessFlags := 24, nameIndex := 28, descriptorIndex := 29, attributes := #[] }, { accessFlags := 26, nameIndex := 38, descriptorIndex := 39, attributes := #[] }, { accessFlags := 25, nameIndex := 121, descriptorIndex := 25, attributes := #[] }, { accessFlags := 25, nameIndex := 131, descriptorIndex := 25, attributes := #[] }, { accessFlags := 25, nameIndex := 137, descriptorIndex := 25, attributes := #[] }, { accessFlags := 25, nameIndex := 143, descriptorIndex := 25, attributes := #[] }, { accessFlags := 25, nameIndex := 53, descriptorIndex := 25, attributes := #[] }, { accessFlags := 25, nameIndex := 24, descriptorIndex := 25, attributes := #[] }, { accessFlags := 25, nameIndex := 162, descriptorIndex := 25, attributes := #[] }, { accessFlags := 25, nameIndex := 187, descriptorIndex := 25, attributes := #[] }, { accessFlags := 26, nameIndex := 48, descriptorIndex := 25, attributes := #[] }, { accessFlags := 25, nameIndex := 277, descriptorIndex := 25, attributes := #[] }, { accessFlags := 25, nameIndex := 280, descriptorIndex := 25, attributes := #[] }, { accessFlags := 25, nameIndex := 282, descriptorIndex := 25, attributes := #[] }, { accessFlags := 25, nameIndex := 284, descriptorIndex := 25, attributes := #[] }, { accessFlags := 25, nameIndex := 286, descriptorIndex := 25, attributes := #[] }, { accessFlags := 25, nameIndex := 288, descriptorIndex := 25, attributes := #[] }, { accessFlags := 25, nameIndex := 290, descriptorIndex := 25, attributes := #[] }, { accessFlags := 25, nameIndex := 292, descriptorIndex := 25, attributes := #[] }, { accessFlags := 26, nameIndex := 108, descriptorIndex := 109, attributes := #[] }, { accessFlags := 25, nameIndex := 294, descriptorIndex := 25, attributes := #[] }])
  fields := #[{ name := "U", type := (.object "jdk/internal/misc/Unsafe"), accessFlags := 24, slot := 0, constantValue := 0 }, { name := "BIG_ENDIAN", type := .boolean, accessFlags := 26, slot := 1, constantValue := 0 }, { name := "LOG2_ARRAY_BOOLEAN_INDEX_SCALE", type := .int, accessFlags := 25, slot := 2, constantValue := 0 }, { name := "LOG2_ARRAY_BYTE_INDEX_SCALE", type := .int, accessFlags := 25, slot := 3, constantValue := 0 }, { name := "LOG2_ARRAY_CHAR_INDEX_SCALE", type := .int, accessFlags := 25, slot := 4, constantValue := 0 }, { name := "LOG2_ARRAY_SHORT_INDEX_SCALE", type := .int, accessFlags := 25, slot := 5, constantValue := 0 }, { name := "LOG2_ARRAY_INT_INDEX_SCALE", type := .int, accessFlags := 25, slot := 6, constantValue := 0 }, { name := "LOG2_ARRAY_LONG_INDEX_SCALE", type := .int, accessFlags := 25, slot := 7, constantValue := 0 }, { name := "LOG2_ARRAY_FLOAT_INDEX_SCALE", type := .int, accessFlags := 25, slot := 8, constantValue := 0 }, { name := "LOG2_ARRAY_DOUBLE_INDEX_SCALE", type := .int, accessFlags := 25, slot := 9, constantValue := 0 }, { name := "LOG2_BYTE_BIT_SIZE", type := .int, accessFlags := 26, slot := 10, constantValue := 0 }, { name := "T_BOOLEAN", type := .int, accessFlags := 25, slot := 11, constantValue := 0 }, { name := "T_CHAR", type := .int, accessFlags := 25, slot := 12, constantValue := 0 }, { name := "T_FLOAT", type := .int, accessFlags := 25, slot := 13, constantValue := 0 }, { name := "T_DOUBLE", type := .int, accessFlags := 25, slot := 14, constantValue := 0 }, { name := "T_BYTE", type := .int, accessFlags := 25, slot := 15, constantValue := 0 }, { name := "T_SHORT", type := .int, accessFlags := 25, slot := 16, constantValue := 0 }, { name := "T_INT", type := .int, accessFlags := 25, slot := 17, constantValue := 0 }, { name := "T_LONG", type := .int, accessFlags := 25, slot := 18, constantValue := 0 }, { name := "JLA", type := (.object "jdk/internal/access/JavaLangAccess"), accessFlags := 26, slot := 19, constantValue := 0 }, { name := "SOFT_MAX_ARRAY_LENGTH", type := .int, accessFlags := 25, slot := 20, constantValue := 0 }]
  methods := #[k21m0, k21m1]
  instanceTypes := #[]
  staticTypes := #[(.object "jdk/internal/misc/Unsafe"), .boolean, .int, .int, .int, .int, .int, .int, .int, .int, .int, .int, .int, .int, .int, .int, .int, .int, .int, (.object "jdk/internal/access/JavaLangAccess"), .int]
  resolved := Array.replicate 378 none
  statics := none }

def pool22 : Array CpInfo := pool [(1, .class_ 2), (0, u "java/lang/Math"), (1, .class_ 6), (1, u "java/lang/Object"), (0, u "<init>"), (0, u "()V"), (89, .class_ 100), (1, u "java/lang/Math$RandomNumberGeneratorHolder"), (71, u "negativeZeroFloatBits"), (0, u "J"), (2, u "negativeZeroDoubleBits"), (21, u "max"), (2, u "min"), (43, u "$assertionsDisabled"), (0, u "Z"), (88, u "(II)I"), (2, u "twoToTheDoubleScaleDown"), (0, u "D"), (4, u "twoToTheDoubleScaleUp"), (9, u "E"), (3, u "PI"), (2, u "TAU"), (2, u "DEGREES_TO_RADIANS"), (0, u "RADIANS_TO_DEGREES")] 94

def k22m0 : Method := { name := "<init>", desc := "()V", sig := { parameters := [], returnType := none }, accessFlags := 2, code := none }
def k22c1 : Code := { maxStack := 2, maxLocals := 2, code := jdk_29_method_65_code, exceptionTable := #[], attributes := #[] }
def k22m1 : Method := { name := "max", desc := "(II)I", sig := { parameters := [.int, .int], returnType := some .int }, accessFlags := 9, code := some k22c1 }
def k22c2 : Code := { maxStack := 2, maxLocals := 2, code := jdk_29_method_69_code, exceptionTable := #[], attributes := #[] }
def k22m2 : Method := { name := "min", desc := "(II)I", sig := { parameters := [.int, .int], returnType := some .int }, accessFlags := 9, code := some k22c2 }
/-- java/lang/Math -/
def k22 : Class := { plain "java/lang/Math" (some 0) with
  accessFlags := 49
  interfaces := #[]
  cf := some (fileOf pool22 1 #[.nestMembers #[98]] #[{ accessFlags := 2, nameIndex := 7, descriptorIndex := 8, attributes := #[] }, { accessFlags := 9, nameIndex := 198, descriptorIndex := 335, attributes := #[] }, { accessFlags := 9, nameIndex := 201, descriptorIndex := 335, attributes := #[] }] 49 4 #[] #[{ accessFlags := 25, nameIndex := 354, descriptorIndex := 339, attributes := #[] }, { accessFlags := 25, nameIndex := 358, descriptorIndex := 339, attributes := #[] }, { accessFlags := 25, nameIndex := 361, descriptorIndex := 339, attributes := #[] }, { accessFlags := 26, nameIndex := 364, descriptorIndex := 339, attributes := #[] }, { accessFlags := 26, nameIndex := 365, descriptorIndex := 339, attributes := #[] }, { accessFlags := 26, nameIndex := 172, descriptorIndex := 173, attributes := #[] }, { accessFlags := 26, nameIndex := 176, descriptorIndex := 173, attributes := #[] }, { accessFlags := 8, nameIndex := 344, descriptorIndex := 339, attributes := #[] }, { accessFlags := 8, nameIndex := 338, descriptorIndex := 339, attributes := #[] }, { accessFlags := 4120, nameIndex := 245, descriptorIndex := 246, attributes := #[] }])
  fields := #[{ name := "E", type := .double, accessFlags := 25, slot := 0, constantValue := 0 }, { name := "PI", type := .double, accessFlags := 25, slot := 1, constantValue := 0 }, { name := "TAU", type := .double, accessFlags := 25, slot := 2, constantValue := 0 }, { name := "DEGREES_TO_RADIANS", type := .double, accessFlags := 26, slot := 3, constantValue := 0 }, { name := "RADIANS_TO_DEGREES", type := .double, accessFlags := 26, slot := 4, constantValue := 0 }, { name := "negativeZeroFloatBits", type := .long, accessFlags := 26, slot := 5, constantValue := 0 }, { name := "negativeZeroDoubleBits", type := .long, accessFlags := 26, slot := 6, constantValue := 0 }, { name := "twoToTheDoubleScaleUp", type := .double, accessFlags := 8, slot := 7, constantValue := 0 }, { name := "twoToTheDoubleScaleDown", type := .double, accessFlags := 8, slot := 8, constantValue := 0 }, { name := "$assertionsDisabled", type := .boolean, accessFlags := 4120, slot := 9, constantValue := 0 }]
  methods := #[k22m0, k22m1, k22m2]
  instanceTypes := #[]
  staticTypes := #[.double, .double, .double, .double, .double, .long, .long, .double, .double, .boolean]
  resolved := Array.replicate 460 none
  statics := none }

def pool23 : Array CpInfo := pool [(2, .class_ 4), (1, u "java/lang/Object"), (0, u "<init>"), (0, u "()V"), (7, .class_ 16), (1, u "java/util/Arrays"), (57, .class_ 76), (1, u "java/util/Arrays$NaturalOrder"), (32, u "()Ljava/lang/Object;"), (3, .class_ 115), (1, u "java/util/Arrays$LegacyMergeSort"), (1, u "Z"), (10, .nameAndType 129 109), (0, u "clone"), (9, u "copyOfRange"), (10, .methodref 151 152), (0, .class_ 153), (0, .nameAndType 154 155), (0, u "java/lang/System"), (0, u "arraycopy"), (0, u "(Ljava/lang/Object;ILjava/lang/Object;II)V"), (146, u "copyOf"), (1, .methodref 305 306), (0, .class_ 307), (0, .nameAndType 308 309), (0, u "java/lang/Math"), (0, u "min"), (0, u "(II)I"), (0, .methodref 311 128), (0, .class_ 312), (0, u "[B"), (29, u "([BII)[B"), (32, .class_ 376), (0, u "java/util/Arrays$ArrayList"), (68, u "$assertionsDisabled"), (269, u "MIN_ARRAY_SORT_GRAN"), (0, u "I"), (2, u "INSERTIONSORT_THRESHOLD"), (149, u "([BI)[B"), (105, .class_ 976), (0, u "java/util/Arrays$ArrayItr")] 52

def k23m0 : Method := { name := "<init>", desc := "()V", sig := { parameters := [], returnType := none }, accessFlags := 2, code := none }
def k23c1 : Code := { maxStack := 6, maxLocals := 3, code := jdk_65_method_121_code, exceptionTable := #[], attributes := #[] }
def k23m1 : Method := { name := "copyOf", desc := "([BI)[B", sig := { parameters := [(.array .byte), .int], returnType := some (.array .byte) }, accessFlags := 9, code := some k23c1 }
def k23c2 : Code := { maxStack := 3, maxLocals := 3, code := jdk_65_method_132_code, exceptionTable := #[], attributes := #[] }
def k23m2 : Method := { name := "copyOfRange", desc := "([BII)[B", sig := { parameters := [(.array .byte), .int, .int], returnType := some (.array .byte) }, accessFlags := 9, code := some k23c2 }
/-- java/util/Arrays -/
def k23 : Class := { plain "java/util/Arrays" (some 0) with
  accessFlags := 49
  interfaces := #[]
  cf := some (fileOf pool23 14 #[.nestMembers #[975, 375, 113, 74]] #[{ accessFlags := 2, nameIndex := 5, descriptorIndex := 6, attributes := #[] }, { accessFlags := 9, nameIndex := 302, descriptorIndex := 869, attributes := #[] }, { accessFlags := 9, nameIndex := 139, descriptorIndex := 342, attributes := #[] }] 49 2 #[] #[{ accessFlags := 26, nameIndex := 715, descriptorIndex := 716, attributes := #[] }, { accessFlags := 26, nameIndex := 719, descriptorIndex := 716, attributes := #[] }, { accessFlags := 4120, nameIndex := 445, descriptorIndex := 117, attributes := #[] }])
  fields := #[{ name := "MIN_ARRAY_SORT_GRAN", type := .int, accessFlags := 26, slot := 0, constantValue := 0 }, { name := "INSERTIONSORT_THRESHOLD", type := .int, accessFlags := 26, slot := 1, constantValue := 0 }, { name := "$assertionsDisabled", type := .boolean, accessFlags := 4120, slot := 2, constantValue := 0 }]
  methods := #[k23m0, k23m1, k23m2]
  instanceTypes := #[]
  staticTypes := #[.int, .int, .boolean]
  resolved := Array.replicate 1029 none
  statics := none }

def pool24 : Array CpInfo := pool [(1, .class_ 2), (0, u "java/lang/Cloneable"), (0, .class_ 4), (0, u "java/lang/Object")] 2

/-- java/lang/Cloneable -/
def k24 : Class := { plain "java/lang/Cloneable" (some 0) with
  accessFlags := 1537
  interfaces := #[]
  cf := some (fileOf pool24 1 #[] #[] 1537 3 #[] #[])
  fields := #[]
  methods := #[]
  instanceTypes := #[]
  staticTypes := #[]
  resolved := Array.replicate 7 none
  statics := none }

def pool25 : Array CpInfo := pool [(2, .class_ 4), (1, u "java/lang/Object"), (0, u "<init>"), (0, u "()V"), (12, .class_ 20), (0, u "java/util/Collections"), (63, u "r"), (0, u "Ljava/util/Random;"), (80, .class_ 167), (0, u "java/util/Collections$UnmodifiableCollection"), (6, .class_ 175), (0, u "java/util/Collections$UnmodifiableSequencedCollection"), (6, .class_ 183), (0, u "java/util/Collections$UnmodifiableSet"), (6, .class_ 191), (0, u "java/util/Collections$UnmodifiableSequencedSet"), (6, .class_ 199), (0, u "java/util/Collections$UnmodifiableSortedSet"), (6, .class_ 207), (0, u "java/util/Collections$UnmodifiableNavigableSet"), (4, .class_ 213), (0, u "java/util/Collections$UnmodifiableList"), (1, .class_ 216), (0, u "java/util/Collections$UnmodifiableRandomAccessList"), (6, .class_ 224), (0, u "java/util/Collections$UnmodifiableMap"), (6, .class_ 232), (0, u "java/util/Collections$UnmodifiableSequencedMap"), (4, .class_ 238), (0, u "java/util/Collections$UnmodifiableSortedMap"), (6, .class_ 246), (0, u "java/util/Collections$UnmodifiableNavigableMap"), (3, .class_ 251), (0, u "java/util/Collections$SynchronizedCollection"), (4, .class_ 257), (0, u "java/util/Collections$SynchronizedSet"), (4, .class_ 263), (0, u "java/util/Collections$SynchronizedSortedSet"), (1, .class_ 266), (0, u "java/util/Collections$SynchronizedNavigableSet"), (1, .class_ 269), (0, u "java/util/Collections$SynchronizedRandomAccessList"), (1, .class_ 272), (0, u "java/util/Collections$SynchronizedList"), (5, .class_ 279), (0, u "java/util/Collections$SynchronizedMap"), (1, .class_ 282), (0, u "java/util/Collections$SynchronizedSortedMap"), (1, .class_ 285), (0, u "java/util/Collections$SynchronizedNavigableMap"), (1, .class_ 288), (0, u "java/util/Collections$CheckedCollection"), (11, .class_ 301), (0, u "java/util/Collections$CheckedQueue"), (3, .class_ 306), (0, u "java/util/Collections$CheckedSet"), (3, .class_ 311), (0, u "java/util/Collections$CheckedSortedSet"), (3, .class_ 316), (0, u "java/util/Collections$CheckedNavigableSet"), (3, .class_ 321), (0, u "java/util/Collections$CheckedRandomAccessList"), (3, .class_ 326), (0, u "java/util/Collections$CheckedList"), (1, .class_ 329), (0, u "java/util/Collections$CheckedMap"), (3, .class_ 334), (0, u "java/util/Collections$CheckedSortedMap"), (3, .class_ 339), (0, u "java/util/Collections$CheckedNavigableMap"), (4, .class_ 346), (1, u "java/util/Collections$EmptyIterator"), (3, .class_ 352), (1, u "java/util/Collections$EmptyListIterator"), (2, .class_ 357), (1, u "java/util/Collections$EmptyEnumeration"), (4, u "EMPTY_SET"), (0, u "Ljava/util/Set;"), (6, u "EMPTY_LIST"), (0, u "Ljava/util/List;"), (2, u "EMPTY_MAP"), (0, u "Ljava/util/Map;"), (4, .class_ 381), (0, u "java/util/Collections$SingletonSet"), (2, .class_ 385), (0, u "java/util/Collections$1"), (1, .class_ 388), (0, u "java/util/Collections$2"), (1, .class_ 391), (0, u "java/util/Collections$SingletonList"), (1, .class_ 394), (0, u "java/util/Collections$SingletonMap"), (22, .class_ 418), (0, u "java/util/Collections$CopiesList"), (4, .class_ 425), (1, u "java/util/Collections$ReverseComparator"), (8, .class_ 435), (0, u "java/util/Collections$ReverseComparator2"), (6, .class_ 443), (0, u "java/util/Collections$3"), (25, .class_ 470), (0, u "java/util/Collections$SetFromMap"), (2, .class_ 474), (0, u "java/util/Collections$SequencedSetFromMap"), (3, .class_ 479), (0, u "java/util/Collections$AsLIFOQueue"), (11, .class_ 492), (0, u "java/util/Collections$EmptySet"), (1, .class_ 495), (0, u "java/util/Collections$EmptyList"), (1, .class_ 498), (0, u "java/util/Collections$EmptyMap"), (1, u "BINARYSEARCH_THRESHOLD"), (0, u "I"), (2, u "REVERSE_THRESHOLD"), (1, u "SHUFFLE_THRESHOLD"), (1, u "FILL_THRESHOLD"), (1, u "ROTATE_THRESHOLD"), (1, u "COPY_THRESHOLD"), (1, u "REPLACEALL_THRESHOLD"), (1, u "INDEXOFSUBLIST_THRESHOLD"), (333, .class_ 851), (0, u "java/util/Collections$CheckedMap$CheckedEntrySet"), (0, .class_ 853), (0, u "java/util/Collections$CheckedMap$CheckedEntrySet$CheckedEntry"), (0, .class_ 855), (0, u "java/util/Collections$CheckedMap$CheckedEntrySet$1"), (0, .class_ 857), (0, u "java/util/Collections$CheckedList$1"), (0, .class_ 859), (0, u "java/util/Collections$CheckedCollection$1"), (0, .class_ 861), (0, u "java/util/Collections$UnmodifiableNavigableMap$EmptyNavigableMap"), (0, .class_ 863), (0, u "java/util/Collections$UnmodifiableMap$UnmodifiableEntrySet"), (0, .class_ 865), (0, u "java/util/Collections$UnmodifiableMap$UnmodifiableEntrySet$UnmodifiableEntry"), (0, .class_ 867), (0, u "java/util/Collections$UnmodifiableMap$UnmodifiableEntrySet$UnmodifiableEntrySetSpliterator"), (0, .class_ 869), (0, u "java/util/Collections$UnmodifiableMap$UnmodifiableEntrySet$1"), (0, .class_ 871), (0, u "java/util/Collections$UnmodifiableList$1"), (0, .class_ 873), (0, u "java/util/Collections$UnmodifiableNavigableSet$EmptyNavigableSet"), (0, .class_ 875), (0, u "java/util/Collections$UnmodifiableCollection$1")] 57

def k25m0 : Method := { name := "<init>", desc := "()V", sig := { parameters := [], returnType := none }, accessFlags := 2, code := none }
/-- java/util/Collections -/
def k25 : Class := { plain "java/util/Collections" (some 0) with
  accessFlags := 33
  interfaces := #[]
  cf := some (fileOf pool25 19 #[.nestMembers #[478, 473, 469, 434, 423, 417, 393, 390, 380, 497, 494, 491, 355, 350, 344, 338, 333, 328, 850, 852, 854, 320, 325, 856, 315, 310, 305, 300, 287, 858, 284, 281, 278, 268, 271, 265, 262, 256, 250, 245, 860, 237, 231, 223, 862, 864, 866, 868, 215, 212, 870, 206, 872, 198, 190, 182, 174, 166, 874, 442, 387, 384]] #[{ accessFlags := 2, nameIndex := 5, descriptorIndex := 6, attributes := #[] }] 33 2 #[] #[{ accessFlags := 26, nameIndex := 500, descriptorIndex := 501, attributes := #[] }, { accessFlags := 26, nameIndex := 504, descriptorIndex := 501, attributes := #[] }, { accessFlags := 26, nameIndex := 506, descriptorIndex := 501, attributes := #[] }, { accessFlags := 26, nameIndex := 508, descriptorIndex := 501, attributes := #[] }, { accessFlags := 26, nameIndex := 510, descriptorIndex := 501, attributes := #[] }, { accessFlags := 26, nameIndex := 512, descriptorIndex := 501, attributes := #[] }, { accessFlags := 26, nameIndex := 514, descriptorIndex := 501, attributes := #[] }, { accessFlags := 26, nameIndex := 516, descriptorIndex := 501, attributes := #[] }, { accessFlags := 10, nameIndex := 84, descriptorIndex := 85, attributes := #[] }, { accessFlags := 25, nameIndex := 362, descriptorIndex := 363, attributes := #[] }, { accessFlags := 25, nameIndex := 370, descriptorIndex := 371, attributes := #[] }, { accessFlags := 25, nameIndex := 374, descriptorIndex := 375, attributes := #[] }])
  fields := #[{ name := "BINARYSEARCH_THRESHOLD", type := .int, accessFlags := 26, slot := 0, constantValue := 0 }, { name := "REVERSE_THRESHOLD", type := .int, accessFlags := 26, slot := 1, constantValue := 0 }, { name := "SHUFFLE_THRESHOLD", type := .int, accessFlags := 26, slot := 2, constantValue := 0 }, { name := "FILL_THRESHOLD", type := .int, accessFlags := 26, slot := 3, constantValue := 0 }, { name := "ROTATE_THRESHOLD", type := .int, accessFlags := 26, slot := 4, constantValue := 0 }, { name := "COPY_THRESHOLD", type := .int, accessFlags := 26, slot := 5, constantValue := 0 }, { name := "REPLACEALL_THRESHOLD", type := .int, accessFlags := 26, slot := 6, constantValue := 0 }, { name := "INDEXOFSUBLIST_THRESHOLD", type := .int, accessFlags := 26, slot := 7, constantValue := 0 }, { name := "r", type := (.object "java/util/Random"), accessFlags := 10, slot := 8, constantValue := 0 }, { name := "EMPTY_SET", type := (.object "java/util/Set"), accessFlags := 25, slot := 9, constantValue := 0 }, { name := "EMPTY_LIST", type := (.object "java/util/List"), accessFlags := 25, slot := 10, constantValue := 0 }, { name := "EMPTY_MAP", type := (.object "java/util/Map"), accessFlags := 25, slot := 11, constantValue := 0 }]
  methods := #[k25m0]
  instanceTypes := #[]
  staticTypes := #[.int, .int, .int, .int, .int, .int, .int, .int, (.object "java/util/Random"), (.object "java/util/Set"), (.object "java/util/List"), (.object "java/util/Map")]
  resolved := Array.replicate 933 none
  statics := some 3 }

def pool26 : Array CpInfo := pool [(8, .class_ 10), (1, u "java/lang/Iterable"), (24, .class_ 36), (0, u "java/lang/Object")] 25

/-- java/lang/Iterable -/
def k26 : Class := { plain "java/lang/Iterable" (some 0) with
  accessFlags := 1537
  interfaces := #[]
  cf := some (fileOf pool26 8 #[] #[] 1537 35 #[] #[])
  fields := #[]
  methods := #[]
  instanceTypes := #[]
  staticTypes := #[]
  resolved := Array.replicate 62 none
  statics := none }

def pool27 : Array CpInfo := pool [(10, .class_ 12), (1, u "java/util/Collection"), (47, .class_ 61), (0, u "java/lang/Object"), (0, .class_ 63), (0, u "java/lang/Iterable")] 51

/-- java/util/Collection -/
def k27 : Class := { plain "java/util/Collection" (some 0) with
  accessFlags := 1537
  interfaces := #[26]
  cf := some (fileOf pool27 10 #[] #[] 1537 60 #[62] #[])
  fields := #[]
  methods := #[]
  instanceTypes := #[]
  staticTypes := #[]
  resolved := Array.replicate 115 none
  statics := none }

def pool28 : Array CpInfo := pool [(2, .class_ 4), (1, u "java/lang/Object"), (0, u "<init>"), (0, u "()V"), (1, .class_ 10), (1, u "java/util/AbstractCollection"), (66, .class_ 78), (0, u "java/util/Collection")] 81

def k28m0 : Method := { name := "<init>", desc := "()V", sig := { parameters := [], returnType := none }, accessFlags := 4, code := none }
/-- java/util/AbstractCollection -/
def k28 : Class := { plain "java/util/AbstractCollection" (some 0) with
  accessFlags := 1057
  interfaces := #[27]
  cf := some (fileOf pool28 8 #[] #[{ accessFlags := 4, nameIndex := 5, descriptorIndex := 6, attributes := #[] }] 1057 2 #[77] #[])
  fields := #[]
  methods := #[k28m0]
  instanceTypes := #[]
  staticTypes := #[]
  resolved := Array.replicate 160 none
  statics := none }

def pool29 : Array CpInfo := pool [(8, .class_ 10), (1, u "java/util/SequencedCollection"), (15, .class_ 27), (0, u "java/lang/Object"), (0, .class_ 29), (0, u "java/util/Collection")] 27

/-- java/util/SequencedCollection -/
def k29 : Class := { plain "java/util/SequencedCollection" (some 0) with
  accessFlags := 1537
  interfaces := #[27]
  cf := some (fileOf pool29 8 #[] #[] 1537 26 #[28] #[])
  fields := #[]
  methods := #[]
  instanceTypes := #[]
  staticTypes := #[]
  resolved := Array.replicate 57 none
  statics := none }

def pool30 : Array CpInfo := pool [(8, .class_ 10), (1, u "java/util/List"), (92, .class_ 104), (0, u "java/lang/Object"), (15, .class_ 121), (0, u "java/util/SequencedCollection")] 129

/-- java/util/List -/
def k30 : Class := { plain "java/util/List" (some 0) with
  accessFlags := 1537
  interfaces := #[29]
  cf := some (fileOf pool30 8 #[] #[] 1537 103 #[120] #[])
  fields := #[]
  methods := #[]
  instanceTypes := #[]
  staticTypes := #[]
  resolved := Array.replicate 251 none
  statics := none }

def pool31 : Array CpInfo := pool [(2, .class_ 4), (1, u "java/util/AbstractCollection"), (0, u "<init>"), (0, u "()V"), (1, .class_ 10), (1, u "java/util/AbstractList"), (0, u "modCount"), (0, u "I"), (64, .class_ 78), (0, u "java/util/AbstractList$Itr"), (3, .class_ 83), (0, u "java/util/AbstractList$ListItr"), (9, .class_ 94), (0, u "java/util/AbstractList$RandomAccessSubList"), (3, .class_ 99), (0, u "java/util/AbstractList$SubList"), (33, .class_ 134), (0, u "java/util/List"), (73, .class_ 209), (0, u "java/util/AbstractList$SubList$1"), (0, .class_ 211), (0, u "java/util/AbstractList$RandomAccessSpliterator")] 6

def k31m0 : Method := { name := "<init>", desc := "()V", sig := { parameters := [], returnType := none }, accessFlags := 4, code := none }
/-- java/util/AbstractList -/
def k31 : Class := { plain "java/util/AbstractList" (some 28) with
  accessFlags := 1057
  interfaces := #[30]
  cf := some (fileOf pool31 8 #[.nestMembers #[93, 98, 208, 210, 82, 77]] #[{ accessFlags := 4, nameIndex := 5, descriptorIndex := 6, attributes := #[] }] 1057 2 #[133] #[{ accessFlags := 132, nameIndex := 11, descriptorIndex := 12, attributes := #[] }])
  fields := #[{ name := "modCount", type := .int, accessFlags := 132, slot := 0, constantValue := 0 }]
  methods := #[k31m0]
  instanceTypes := #[.int]
  staticTypes := #[]
  resolved := Array.replicate 218 none
  statics := none }

def pool32 : Array CpInfo := pool [(1, .class_ 2), (0, u "java/util/RandomAccess"), (0, .class_ 4), (0, u "java/lang/Object")] 2

/-- java/util/RandomAccess -/
def k32 : Class := { plain "java/util/RandomAccess" (some 0) with
  accessFlags := 1537
  interfaces := #[]
  cf := some (fileOf pool32 1 #[] #[] 1537 3 #[] #[])
  fields := #[]
  methods := #[]
  instanceTypes := #[]
  staticTypes := #[]
  resolved := Array.replicate 7 none
  statics := none }

def pool33 : Array CpInfo := pool [(2, .class_ 4), (1, u "java/util/AbstractList"), (0, u "<init>"), (0, u "()V"), (1, .class_ 10), (1, u "java/util/Collections"), (54, .class_ 66), (0, u "java/util/Collections$EmptyList"), (0, .class_ 68), (0, u "java/util/RandomAccess"), (0, .class_ 70), (0, u "java/io/Serializable"), (0, u "serialVersionUID"), (0, u "J")] 77

def k33m0 : Method := { name := "<init>", desc := "()V", sig := { parameters := [], returnType := none }, accessFlags := 2, code := none }
/-- java/util/Collections$EmptyList -/
def k33 : Class := { plain "java/util/Collections$EmptyList" (some 31) with
  accessFlags := 32
  interfaces := #[32, 2]
  cf := some (fileOf pool33 65 #[.nestHost 8] #[{ accessFlags := 2, nameIndex := 5, descriptorIndex := 6, attributes := #[] }] 32 2 #[67, 69] #[{ accessFlags := 26, nameIndex := 71, descriptorIndex := 72, attributes := #[] }])
  fields := #[{ name := "serialVersionUID", type := .long, accessFlags := 26, slot := 0, constantValue := 0 }]
  methods := #[k33m0]
  instanceTypes := #[.int]
  staticTypes := #[.long]
  resolved := Array.replicate 150 none
  statics := none }

def pool34 : Array CpInfo := pool [(2, .class_ 4), (1, u "java/lang/StackTraceElement"), (0, u "<init>"), (2, .class_ 10), (1, u "java/lang/Object"), (0, u "()V"), (2, u "format"), (0, u "B"), (2, u "classLoaderName"), (0, u "Ljava/lang/String;"), (2, u "moduleName"), (2, u "moduleVersion"), (12, u "declaringClass"), (4, u "methodName"), (2, u "fileName"), (2, u "lineNumber"), (0, u "I"), (65, u "declaringClassObject"), (0, u "Ljava/lang/Class;"), (33, .class_ 153), (1, u "java/lang/StackTraceElement$HashedModules"), (17, .class_ 172), (0, u "java/io/Serializable"), (0, u "NATIVE_METHOD"), (1, u "UNKNOWN_SOURCE"), (2, u "BUILTIN_CLASS_LOADER"), (1, u "JDK_NON_UPGRADEABLE_MODULE"), (1, u "serialVersionUID"), (0, u "J")] 51

def k34m0 : Method := { name := "<init>", desc := "()V", sig := { parameters := [], returnType := none }, accessFlags := 2, code := none }
/-- java/lang/StackTraceElement -/
def k34 : Class := { plain "java/lang/StackTraceElement" (some 0) with
  accessFlags := 49
  interfaces := #[2]
  cf := some (fileOf pool34 2 #[.nestMembers #[151]] #[{ accessFlags := 2, nameIndex := 5, descriptorIndex := 11, attributes := #[] }] 49 8 #[171] #[{ accessFlags := 26, nameIndex := 173, descriptorIndex := 19, attributes := #[] }, { accessFlags := 26, nameIndex := 175, descriptorIndex := 19, attributes := #[] }, { accessFlags := 130, nameIndex := 116, descriptorIndex := 117, attributes := #[] }, { accessFlags := 2, nameIndex := 18, descriptorIndex := 19, attributes := #[] }, { accessFlags := 2, nameIndex := 22, descriptorIndex := 19, attributes := #[] }, { accessFlags := 2, nameIndex := 25, descriptorIndex := 19, attributes := #[] }, { accessFlags := 2, nameIndex := 38, descriptorIndex := 19, attributes := #[] }, { accessFlags := 2, nameIndex := 43, descriptorIndex := 19, attributes := #[] }, { accessFlags := 2, nameIndex := 46, descriptorIndex := 19, attributes := #[] }, { accessFlags := 2, nameIndex := 49, descriptorIndex := 50, attributes := #[] }, { accessFlags := 2, nameIndex := 14, descriptorIndex := 15, attributes := #[] }, { accessFlags := 26, nameIndex := 178, descriptorIndex := 15, attributes := #[] }, { accessFlags := 26, nameIndex := 180, descriptorIndex := 15, attributes := #[] }, { accessFlags := 26, nameIndex := 182, descriptorIndex := 183, attributes := #[] }])
  fields := #[{ name := "NATIVE_METHOD", type := (.object "java/lang/String"), accessFlags := 26, slot := 0, constantValue := 0 }, { name := "UNKNOWN_SOURCE", type := (.object "java/lang/String"), accessFlags := 26, slot := 1, constantValue := 0 }, { name := "declaringClassObject", type := (.object "java/lang/Class"), accessFlags := 130, slot := 0, constantValue := 0 }, { name := "classLoaderName", type := (.object "java/lang/String"), accessFlags := 2, slot := 1, constantValue := 0 }, { name := "moduleName", type := (.object "java/lang/String"), accessFlags := 2, slot := 2, constantValue := 0 }, { name := "moduleVersion", type := (.object "java/lang/String"), accessFlags := 2, slot := 3, constantValue := 0 }, { name := "declaringClass", type := (.object "java/lang/String"), accessFlags := 2, slot := 4, constantValue := 0 }, { name := "methodName", type := (.object "java/lang/String"), accessFlags := 2, slot := 5, constantValue := 0 }, { name := "fileName", type := (.object "java/lang/String"), accessFlags := 2, slot := 6, constantValue := 0 }, { name := "lineNumber", type := .int, accessFlags := 2, slot := 7, constantValue := 0 }, { name := "format", type := .byte, accessFlags := 2, slot := 8, constantValue := 0 }, { name := "BUILTIN_CLASS_LOADER", type := .byte, accessFlags := 26, slot := 2, constantValue := 0 }, { name := "JDK_NON_UPGRADEABLE_MODULE", type := .byte, accessFlags := 26, slot := 3, constantValue := 0 }, { name := "serialVersionUID", type := .long, accessFlags := 26, slot := 4, constantValue := 0 }]
  methods := #[k34m0]
  instanceTypes := #[(.object "java/lang/Class"), (.object "java/lang/String"), (.object "java/lang/String"), (.object "java/lang/String"), (.object "java/lang/String"), (.object "java/lang/String"), (.object "java/lang/String"), .int, .byte]
  staticTypes := #[(.object "java/lang/String"), (.object "java/lang/String"), .byte, .byte, .long]
  resolved := Array.replicate 235 none
  statics := none }

/-- the primitive byte -/
def k35 : Class := { plain "byte" none with kind := .primitive 'B', accessFlags := 0x411 }
/-- [B -/
def k36 : Class := { plain "[B" (some 0) with kind := .array 35 .byte, interfaces := #[24, 2], accessFlags := 1041 }

/-- the primitive char -/
def k37 : Class := { plain "char" none with kind := .primitive 'C', accessFlags := 0x411 }
/-- [C -/
def k38 : Class := { plain "[C" (some 0) with kind := .array 37 .char, interfaces := #[24, 2], accessFlags := 1041 }

/-- the primitive int -/
def k39 : Class := { plain "int" none with kind := .primitive 'I', accessFlags := 0x411 }
/-- [I -/
def k40 : Class := { plain "[I" (some 0) with kind := .array 39 .int, interfaces := #[24, 2], accessFlags := 1041 }

/-- [Ljava/lang/Object; -/
def k41 : Class := { plain "[Ljava/lang/Object;" (some 0) with kind := .array 0 (.object "java/lang/Object"), interfaces := #[24, 2], accessFlags := 1041 }

/-- [Ljava/lang/StackTraceElement; -/
def k42 : Class := { plain "[Ljava/lang/StackTraceElement;" (some 0) with kind := .array 34 (.object "java/lang/StackTraceElement"), interfaces := #[24, 2], accessFlags := 1041 }

/-- [Ljava/lang/Throwable; -/
def k43 : Class := { plain "[Ljava/lang/Throwable;" (some 0) with kind := .array 13 (.object "java/lang/Throwable"), interfaces := #[24, 2], accessFlags := 1041 }

def heap : Heap := #[{ cls := 7, slots := #[.long 0, .int 1, .null, .int 0, .null, .int 0, .int 0], vm := .statics 7 },
  { cls := 9, slots := #[.null, .null, .null], vm := .statics 9 },
  { cls := 13, slots := #[.long 0, .ref 4, .ref 5, .null, .null, .null, .null, .ref 6, .int 1], vm := .statics 13 },
  { cls := 25, slots := #[.int 0, .int 0, .int 0, .int 0, .int 0, .int 0, .int 0, .int 0, .null, .null, .ref 5, .null], vm := .statics 25 },
  { cls := 42, slots := #[], vm := .none },
  { cls := 33, slots := #[.int 0], vm := .none },
  { cls := 43, slots := #[], vm := .none }]
def classes : Array Class := #[k0, k1, k2, k3, k4, k5, k6, k7, k8, k9, k10, k11, k12, k13, k14, k15, k16, k17, k18, k19, k20, k21, k22, k23, k24, k25, k26, k27, k28, k29, k30, k31, k32, k33, k34, k35, k36, k37, k38, k39, k40, k41, k42, k43]
def interned : List (Array UInt16 × Addr) := []
def slotsUsed : Nat := 32
def theMethod : MethodId := ⟨1, 1⟩
def args0 : Array Value := #[.int 5, .int 1]
def aboutOver (below : List Frame) : State where
  vm := { classes := classes, interned := interned.toArray }
  heap := heap
  slotsUsed := slotsUsed
  threads := #[{ frames := .invoking theMethod args0 :: below }]
def below0 : List Frame := [.native { method := ⟨0, 0⟩, args := #[] }]
def about1 : State := aboutOver below0
def p0 : Program := .bare "" "" ""
def e0 : Env := launch0.env 0 0 0
theorem w_frames : about1.frames = Frame.invoking theMethod args0 :: below0 := rfl
set_option maxRecDepth 65536 in
theorem w_args : argsFit about1.vm theMethod args0 = true := by decide +kernel
set_option maxRecDepth 65536 in
theorem w_heap : heapFits about1 = true := by decide +kernel
set_option maxRecDepth 65536 in
theorem w_runnable : about1.curStatus? = some .runnable := by decide +kernel
set_option maxRecDepth 65536 in
theorem w_alone : about1.alone = true := by decide +kernel
set_option maxRecDepth 65536 in
theorem w_named : about1.methodNamed? x = some theMethod := by decide +kernel
set_option maxRecDepth 65536 in
theorem w_hears : about1.hears theMethod below0 = true := by decide +kernel
set_option maxRecDepth 65536 in
theorem w_ripe : about1.ripe theMethod args0 below0 = true := by decide +kernel
theorem w_running : about1.status = .running := rfl
set_option maxRecDepth 65536 in
theorem w_room : about1.hasRoom e0.platform room_1 = true :=
  launch0.hasRoom_least _ room_1 (by decide +kernel) (by decide +kernel) (by decide +kernel) (by decide +kernel) (by decide +kernel) (by decide +kernel)
theorem allAtoms_all (ts : List Jvm.Cond) (a : Array Jvm.Value) (st : Jvm.State) : (allAtoms ts).before a st = ts.all (fun c => c.before a st) := by
  induction ts with
  | nil => rfl
  | cons c t ih =>
    show (Jvm.Cond.and c (allAtoms t)).before a st = _
    rw [Jvm.Cond.before_and, ih, List.all_cons]
def words1 : List Jvm.Cond := Jvm.Cond.code x code maxLocals ret :: tables_1
/-- a 'code' word, met by the world's own term for the bytes: nothing is compared byte by byte -/
theorem code_word {y : MethodName} {bytes : ByteArray} {mx : Nat} {rt : Option FieldType} {a : Array Value} {s : State} {m : MethodId} {meth : Method} {c : Code} (h1 : s.methodNamed? y = some m) (h2 : s.vm.method? m = some meth) (h3 : meth.code = some c) (h4 : c.code = bytes)
    (h5 : (c.maxLocals == mx && c.exceptionTable.isEmpty && decide (c.maxStack ≤ mostOperands) && decide (meth.sig.returnType = rt) && !meth.locks && decide (parseMethodDescriptor y.desc = some meth.sig)) = true) : (Jvm.Cond.code y bytes mx rt).before a s = true := by
  simp only [Bool.and_eq_true, beq_iff_eq, Bool.not_eq_true', decide_eq_true_eq] at h5
  obtain ⟨⟨⟨⟨⟨g1, g2⟩, g3⟩, g4⟩, g5⟩, g6⟩ := h5
  simp [Cond.before, Cond.holds, Cond.value, h1, h2, h3, h4, g1, g2, g3, g4, g5, g6]
def isCode : Jvm.Cond → Bool
  | .code _ _ _ _ => true
  | _ => false
theorem all_split {L : List Jvm.Cond} {P : Jvm.Cond → Bool} (h1 : L.all (fun c => isCode c || P c) = true) (h2 : ∀ c ∈ L.filter isCode, P c = true) : L.all P = true := by
  refine List.all_eq_true.mpr fun c hc => ?_
  have h := List.all_eq_true.mp h1 c hc
  rcases Bool.eq_false_or_eq_true (isCode c) with hi | hi
  · exact h2 c (List.mem_filter.mpr ⟨hc, hi⟩)
  · simpa [hi] using h
set_option maxRecDepth 65536 in
theorem w_c0 : (Jvm.Cond.code x code maxLocals ret).before args0 about1 = true := code_word (m := ⟨1, 1⟩) (meth := k1m1) (c := k1c1) (by decide +kernel) rfl rfl rfl (by decide +kernel)
set_option maxRecDepth 65536 in
theorem w_c1 : (Jvm.Cond.code ({ cls := "wirefold/DefinitionsFixedPinLaw", name := "putSuffix", desc := "([CI)V" } : Jvm.MethodName) method_3_code (3 : Nat) (Option.none : Option Jvm.ClassFile.FieldType)).before args0 about1 = true := code_word (m := ⟨1, 2⟩) (meth := k1m2) (c := k1c2) (by decide +kernel) rfl rfl rfl (by decide +kernel)
set_option maxRecDepth 65536 in
theorem w_c2 : (Jvm.Cond.code ({ cls := "java/lang/String", name := "charAt", desc := "(I)C" } : Jvm.MethodName) jdk_42_method_56_code (2 : Nat) (Option.some Jvm.ClassFile.FieldType.char)).before args0 about1 = true := code_word (m := ⟨7, 4⟩) (meth := k7m4) (c := k7c4) (by decide +kernel) rfl rfl rfl (by decide +kernel)
set_option maxRecDepth 65536 in
theorem w_c3 : (Jvm.Cond.code ({ cls := "java/lang/String", name := "isLatin1", desc := "()Z" } : Jvm.MethodName) jdk_42_method_154_code (1 : Nat) (Option.some Jvm.ClassFile.FieldType.boolean)).before args0 about1 = true := code_word (m := ⟨7, 10⟩) (meth := k7m10) (c := k7c10) (by decide +kernel) rfl rfl rfl (by decide +kernel)
set_option maxRecDepth 65536 in
theorem w_c4 : (Jvm.Cond.code ({ cls := "java/lang/StringLatin1", name := "charAt", desc := "([BI)C" } : Jvm.MethodName) jdk_43_method_2_code (2 : Nat) (Option.some Jvm.ClassFile.FieldType.char)).before args0 about1 = true := code_word (m := ⟨8, 1⟩) (meth := k8m1) (c := k8c1) (by decide +kernel) rfl rfl rfl (by decide +kernel)
set_option maxRecDepth 65536 in
theorem w_c5 : (Jvm.Cond.code ({ cls := "java/lang/String", name := "checkIndex", desc := "(II)V" } : Jvm.MethodName) jdk_42_method_155_code (2 : Nat) (Option.none : Option Jvm.ClassFile.FieldType)).before args0 about1 = true := code_word (m := ⟨7, 11⟩) (meth := k7m11) (c := k7c11) (by decide +kernel) rfl rfl rfl (by decide +kernel)
set_option maxRecDepth 65536 in
theorem w_c6 : (Jvm.Cond.code ({ cls := "jdk/internal/util/Preconditions", name := "checkIndex", desc := "(IILjava/util/function/BiFunction;)I" } : Jvm.MethodName) jdk_41_method_11_code (3 : Nat) (Option.some Jvm.ClassFile.FieldType.int)).before args0 about1 = true := code_word (m := ⟨9, 1⟩) (meth := k9m1) (c := k9c1) (by decide +kernel) rfl rfl rfl (by decide +kernel)
set_option maxRecDepth 65536 in
theorem w_c7 : (Jvm.Cond.code ({ cls := "java/lang/String", name := "<init>", desc := "([C)V" } : Jvm.MethodName) jdk_42_method_3_code (2 : Nat) (Option.none : Option Jvm.ClassFile.FieldType)).before args0 about1 = true := code_word (m := ⟨7, 1⟩) (meth := k7m1) (c := k7c1) (by decide +kernel) rfl rfl rfl (by decide +kernel)
set_option maxRecDepth 65536 in
theorem w_c8 : (Jvm.Cond.code ({ cls := "java/lang/String", name := "<init>", desc := "([CIILjava/lang/Void;)V" } : Jvm.MethodName) jdk_42_method_149_code (6 : Nat) (Option.none : Option Jvm.ClassFile.FieldType)).before args0 about1 = true := code_word (m := ⟨7, 7⟩) (meth := k7m7) (c := k7c7) (by decide +kernel) rfl rfl rfl (by decide +kernel)
set_option maxRecDepth 65536 in
theorem w_c9 : (Jvm.Cond.code ({ cls := "java/lang/Object", name := "<init>", desc := "()V" } : Jvm.MethodName) object_method_1_code (1 : Nat) (Option.none : Option Jvm.ClassFile.FieldType)).before args0 about1 = true := code_word (m := ⟨0, 0⟩) (meth := k0m0) (c := k0c0) (by decide +kernel) rfl rfl rfl (by decide +kernel)
set_option maxRecDepth 65536 in
theorem w_c10 : (Jvm.Cond.code ({ cls := "java/lang/StringUTF16", name := "compress", desc := "([CII)[B" } : Jvm.MethodName) jdk_52_method_16_code (6 : Nat) (Option.some (Jvm.ClassFile.FieldType.array Jvm.ClassFile.FieldType.byte))).before args0 about1 = true := code_word (m := ⟨10, 2⟩) (meth := k10m2) (c := k10c2) (by decide +kernel) rfl rfl rfl (by decide +kernel)
set_option maxRecDepth 65536 in
theorem w_c11 : (Jvm.Cond.code ({ cls := "java/lang/StringUTF16", name := "compress", desc := "([CI[BII)I" } : Jvm.MethodName) jdk_52_method_21_code (7 : Nat) (Option.some Jvm.ClassFile.FieldType.int)).before args0 about1 = true := code_word (m := ⟨10, 3⟩) (meth := k10m3) (c := k10c3) (by decide +kernel) rfl rfl rfl (by decide +kernel)
set_option maxRecDepth 65536 in
theorem w_c12 : (Jvm.Cond.code ({ cls := "java/lang/StringUTF16", name := "coderFromArrayLen", desc := "([BI)B" } : Jvm.MethodName) jdk_52_method_15_code (2 : Nat) (Option.some Jvm.ClassFile.FieldType.byte)).before args0 about1 = true := code_word (m := ⟨10, 1⟩) (meth := k10m1) (c := k10c1) (by decide +kernel) rfl rfl rfl (by decide +kernel)
set_option maxRecDepth 65536 in
theorem w_c13 : (Jvm.Cond.code ({ cls := "wirefold/Definitions", name := "fixed", desc := "(Ljava/lang/String;)Ljava/lang/IllegalStateException;" } : Jvm.MethodName) prog_35_method_9_code (1 : Nat) (Option.some (Jvm.ClassFile.FieldType.object "java/lang/IllegalStateException"))).before args0 about1 = true := code_word (m := ⟨12, 0⟩) (meth := k12m0) (c := k12c0) (by decide +kernel) rfl rfl rfl (by decide +kernel)
set_option maxRecDepth 65536 in
theorem w_c14 : (Jvm.Cond.code ({ cls := "java/lang/StringBuilder", name := "<init>", desc := "()V" } : Jvm.MethodName) jdk_67_method_1_code (1 : Nat) (Option.none : Option Jvm.ClassFile.FieldType)).before args0 about1 = true := code_word (m := ⟨19, 0⟩) (meth := k19m0) (c := k19c0) (by decide +kernel) rfl rfl rfl (by decide +kernel)
set_option maxRecDepth 65536 in
theorem w_c15 : (Jvm.Cond.code ({ cls := "java/lang/AbstractStringBuilder", name := "<init>", desc := "(I)V" } : Jvm.MethodName) jdk_68_method_2_code (2 : Nat) (Option.none : Option Jvm.ClassFile.FieldType)).before args0 about1 = true := code_word (m := ⟨18, 1⟩) (meth := k18m1) (c := k18c1) (by decide +kernel) rfl rfl rfl (by decide +kernel)
set_option maxRecDepth 65536 in
theorem w_c16 : (Jvm.Cond.code ({ cls := "java/lang/StringBuilder", name := "append", desc := "(Ljava/lang/String;)Ljava/lang/StringBuilder;" } : Jvm.MethodName) jdk_67_method_7_code (2 : Nat) (Option.some (Jvm.ClassFile.FieldType.object "java/lang/StringBuilder"))).before args0 about1 = true := code_word (m := ⟨19, 1⟩) (meth := k19m1) (c := k19c1) (by decide +kernel) rfl rfl rfl (by decide +kernel)
set_option maxRecDepth 65536 in
theorem w_c17 : (Jvm.Cond.code ({ cls := "java/lang/AbstractStringBuilder", name := "append", desc := "(Ljava/lang/String;)Ljava/lang/AbstractStringBuilder;" } : Jvm.MethodName) jdk_68_method_22_code (3 : Nat) (Option.some (Jvm.ClassFile.FieldType.object "java/lang/AbstractStringBuilder"))).before args0 about1 = true := code_word (m := ⟨18, 5⟩) (meth := k18m5) (c := k18c5) (by decide +kernel) rfl rfl rfl (by decide +kernel)
set_option maxRecDepth 65536 in
theorem w_c18 : (Jvm.Cond.code ({ cls := "java/lang/String", name := "length", desc := "()I" } : Jvm.MethodName) jdk_42_method_54_code (1 : Nat) (Option.some Jvm.ClassFile.FieldType.int)).before args0 about1 = true := code_word (m := ⟨7, 3⟩) (meth := k7m3) (c := k7c3) (by decide +kernel) rfl rfl rfl (by decide +kernel)
set_option maxRecDepth 65536 in
theorem w_c19 : (Jvm.Cond.code ({ cls := "java/lang/String", name := "coder", desc := "()B" } : Jvm.MethodName) jdk_42_method_152_code (1 : Nat) (Option.some Jvm.ClassFile.FieldType.byte)).before args0 about1 = true := code_word (m := ⟨7, 9⟩) (meth := k7m9) (c := k7c9) (by decide +kernel) rfl rfl rfl (by decide +kernel)
set_option maxRecDepth 65536 in
theorem w_c20 : (Jvm.Cond.code ({ cls := "java/lang/AbstractStringBuilder", name := "ensureCapacityInternal", desc := "(I)V" } : Jvm.MethodName) jdk_68_method_9_code (3 : Nat) (Option.none : Option Jvm.ClassFile.FieldType)).before args0 about1 = true := code_word (m := ⟨18, 3⟩) (meth := k18m3) (c := k18c3) (by decide +kernel) rfl rfl rfl (by decide +kernel)
set_option maxRecDepth 65536 in
theorem w_c21 : (Jvm.Cond.code ({ cls := "java/lang/AbstractStringBuilder", name := "putStringAt", desc := "(ILjava/lang/String;)V" } : Jvm.MethodName) jdk_68_method_73_code (3 : Nat) (Option.none : Option Jvm.ClassFile.FieldType)).before args0 about1 = true := code_word (m := ⟨18, 9⟩) (meth := k18m9) (c := k18c9) (by decide +kernel) rfl rfl rfl (by decide +kernel)
set_option maxRecDepth 65536 in
theorem w_c22 : (Jvm.Cond.code ({ cls := "java/lang/AbstractStringBuilder", name := "inflateIfNeededFor", desc := "(Ljava/lang/String;)V" } : Jvm.MethodName) jdk_68_method_71_code (2 : Nat) (Option.none : Option Jvm.ClassFile.FieldType)).before args0 about1 = true := code_word (m := ⟨18, 8⟩) (meth := k18m8) (c := k18c8) (by decide +kernel) rfl rfl rfl (by decide +kernel)
set_option maxRecDepth 65536 in
theorem w_c23 : (Jvm.Cond.code ({ cls := "java/lang/String", name := "getBytes", desc := "([BIB)V" } : Jvm.MethodName) jdk_42_method_147_code (4 : Nat) (Option.none : Option Jvm.ClassFile.FieldType)).before args0 about1 = true := code_word (m := ⟨7, 6⟩) (meth := k7m6) (c := k7c6) (by decide +kernel) rfl rfl rfl (by decide +kernel)
set_option maxRecDepth 65536 in
theorem w_c24 : (Jvm.Cond.code ({ cls := "java/lang/AbstractStringBuilder", name := "newCapacity", desc := "(I)I" } : Jvm.MethodName) jdk_68_method_10_code (6 : Nat) (Option.some Jvm.ClassFile.FieldType.int)).before args0 about1 = true := code_word (m := ⟨18, 4⟩) (meth := k18m4) (c := k18c4) (by decide +kernel) rfl rfl rfl (by decide +kernel)
set_option maxRecDepth 65536 in
theorem w_c25 : (Jvm.Cond.code ({ cls := "jdk/internal/util/ArraysSupport", name := "newLength", desc := "(III)I" } : Jvm.MethodName) jdk_48_method_27_code (4 : Nat) (Option.some Jvm.ClassFile.FieldType.int)).before args0 about1 = true := code_word (m := ⟨21, 1⟩) (meth := k21m1) (c := k21c1) (by decide +kernel) rfl rfl rfl (by decide +kernel)
set_option maxRecDepth 65536 in
theorem w_c26 : (Jvm.Cond.code ({ cls := "java/lang/Math", name := "max", desc := "(II)I" } : Jvm.MethodName) jdk_29_method_65_code (2 : Nat) (Option.some Jvm.ClassFile.FieldType.int)).before args0 about1 = true := code_word (m := ⟨22, 1⟩) (meth := k22m1) (c := k22c1) (by decide +kernel) rfl rfl rfl (by decide +kernel)
set_option maxRecDepth 65536 in
theorem w_c27 : (Jvm.Cond.code ({ cls := "java/util/Arrays", name := "copyOf", desc := "([BI)[B" } : Jvm.MethodName) jdk_65_method_121_code (3 : Nat) (Option.some (Jvm.ClassFile.FieldType.array Jvm.ClassFile.FieldType.byte))).before args0 about1 = true := code_word (m := ⟨23, 1⟩) (meth := k23m1) (c := k23c1) (by decide +kernel) rfl rfl rfl (by decide +kernel)
set_option maxRecDepth 65536 in
theorem w_c28 : (Jvm.Cond.code ({ cls := "java/lang/Math", name := "min", desc := "(II)I" } : Jvm.MethodName) jdk_29_method_69_code (2 : Nat) (Option.some Jvm.ClassFile.FieldType.int)).before args0 about1 = true := code_word (m := ⟨22, 2⟩) (meth := k22m2) (c := k22c2) (by decide +kernel) rfl rfl rfl (by decide +kernel)
set_option maxRecDepth 65536 in
theorem w_c29 : (Jvm.Cond.code ({ cls := "java/lang/StringBuilder", name := "toString", desc := "()Ljava/lang/String;" } : Jvm.MethodName) jdk_67_method_42_code (1 : Nat) (Option.some (Jvm.ClassFile.FieldType.object "java/lang/String"))).before args0 about1 = true := code_word (m := ⟨19, 2⟩) (meth := k19m2) (c := k19c2) (by decide +kernel) rfl rfl rfl (by decide +kernel)
set_option maxRecDepth 65536 in
theorem w_c30 : (Jvm.Cond.code ({ cls := "java/lang/String", name := "<init>", desc := "(Ljava/lang/StringBuilder;)V" } : Jvm.MethodName) jdk_42_method_53_code (2 : Nat) (Option.none : Option Jvm.ClassFile.FieldType)).before args0 about1 = true := code_word (m := ⟨7, 2⟩) (meth := k7m2) (c := k7c2) (by decide +kernel) rfl rfl rfl (by decide +kernel)
set_option maxRecDepth 65536 in
theorem w_c31 : (Jvm.Cond.code ({ cls := "java/lang/String", name := "<init>", desc := "(Ljava/lang/AbstractStringBuilder;Ljava/lang/Void;)V" } : Jvm.MethodName) jdk_42_method_150_code (5 : Nat) (Option.none : Option Jvm.ClassFile.FieldType)).before args0 about1 = true := code_word (m := ⟨7, 8⟩) (meth := k7m8) (c := k7c8) (by decide +kernel) rfl rfl rfl (by decide +kernel)
set_option maxRecDepth 65536 in
theorem w_c32 : (Jvm.Cond.code ({ cls := "java/lang/AbstractStringBuilder", name := "getValue", desc := "()[B" } : Jvm.MethodName) jdk_68_method_64_code (1 : Nat) (Option.some (Jvm.ClassFile.FieldType.array Jvm.ClassFile.FieldType.byte))).before args0 about1 = true := code_word (m := ⟨18, 6⟩) (meth := k18m6) (c := k18c6) (by decide +kernel) rfl rfl rfl (by decide +kernel)
set_option maxRecDepth 65536 in
theorem w_c33 : (Jvm.Cond.code ({ cls := "java/lang/StringBuilder", name := "length", desc := "()I" } : Jvm.MethodName) jdk_67_method_93_code (1 : Nat) (Option.some Jvm.ClassFile.FieldType.int)).before args0 about1 = true := code_word (m := ⟨19, 3⟩) (meth := k19m3) (c := k19c3) (by decide +kernel) rfl rfl rfl (by decide +kernel)
set_option maxRecDepth 65536 in
theorem w_c34 : (Jvm.Cond.code ({ cls := "java/lang/AbstractStringBuilder", name := "length", desc := "()I" } : Jvm.MethodName) jdk_68_method_6_code (1 : Nat) (Option.some Jvm.ClassFile.FieldType.int)).before args0 about1 = true := code_word (m := ⟨18, 2⟩) (meth := k18m2) (c := k18c2) (by decide +kernel) rfl rfl rfl (by decide +kernel)
set_option maxRecDepth 65536 in
theorem w_c35 : (Jvm.Cond.code ({ cls := "java/lang/AbstractStringBuilder", name := "isLatin1", desc := "()Z" } : Jvm.MethodName) jdk_68_method_68_code (1 : Nat) (Option.some Jvm.ClassFile.FieldType.boolean)).before args0 about1 = true := code_word (m := ⟨18, 7⟩) (meth := k18m7) (c := k18c7) (by decide +kernel) rfl rfl rfl (by decide +kernel)
set_option maxRecDepth 65536 in
theorem w_c36 : (Jvm.Cond.code ({ cls := "java/util/Arrays", name := "copyOfRange", desc := "([BII)[B" } : Jvm.MethodName) jdk_65_method_132_code (3 : Nat) (Option.some (Jvm.ClassFile.FieldType.array Jvm.ClassFile.FieldType.byte))).before args0 about1 = true := code_word (m := ⟨23, 2⟩) (meth := k23m2) (c := k23c2) (by decide +kernel) rfl rfl rfl (by decide +kernel)
set_option maxRecDepth 65536 in
theorem w_c37 : (Jvm.Cond.code ({ cls := "java/lang/IllegalStateException", name := "<init>", desc := "(Ljava/lang/String;)V" } : Jvm.MethodName) jdk_60_method_2_code (2 : Nat) (Option.none : Option Jvm.ClassFile.FieldType)).before args0 about1 = true := code_word (m := ⟨16, 1⟩) (meth := k16m1) (c := k16c1) (by decide +kernel) rfl rfl rfl (by decide +kernel)
set_option maxRecDepth 65536 in
theorem w_c38 : (Jvm.Cond.code ({ cls := "java/lang/RuntimeException", name := "<init>", desc := "(Ljava/lang/String;)V" } : Jvm.MethodName) jdk_58_method_2_code (2 : Nat) (Option.none : Option Jvm.ClassFile.FieldType)).before args0 about1 = true := code_word (m := ⟨15, 1⟩) (meth := k15m1) (c := k15c1) (by decide +kernel) rfl rfl rfl (by decide +kernel)
set_option maxRecDepth 65536 in
theorem w_c39 : (Jvm.Cond.code ({ cls := "java/lang/Exception", name := "<init>", desc := "(Ljava/lang/String;)V" } : Jvm.MethodName) jdk_59_method_2_code (2 : Nat) (Option.none : Option Jvm.ClassFile.FieldType)).before args0 about1 = true := code_word (m := ⟨14, 1⟩) (meth := k14m1) (c := k14c1) (by decide +kernel) rfl rfl rfl (by decide +kernel)
set_option maxRecDepth 65536 in
theorem w_c40 : (Jvm.Cond.code ({ cls := "java/lang/Throwable", name := "<init>", desc := "(Ljava/lang/String;)V" } : Jvm.MethodName) jdk_78_method_2_code (2 : Nat) (Option.none : Option Jvm.ClassFile.FieldType)).before args0 about1 = true := code_word (m := ⟨13, 1⟩) (meth := k13m1) (c := k13c1) (by decide +kernel) rfl rfl rfl (by decide +kernel)
set_option maxRecDepth 65536 in
theorem w_c41 : (Jvm.Cond.code ({ cls := "java/lang/Throwable", name := "<init>", desc := "()V" } : Jvm.MethodName) jdk_78_method_1_code (1 : Nat) (Option.none : Option Jvm.ClassFile.FieldType)).before args0 about1 = true := code_word (m := ⟨13, 0⟩) (meth := k13m0) (c := k13c0) (by decide +kernel) rfl rfl rfl (by decide +kernel)
set_option maxRecDepth 65536 in
theorem w_c42 : (Jvm.Cond.code ({ cls := "java/lang/Throwable", name := "getMessage", desc := "()Ljava/lang/String;" } : Jvm.MethodName) jdk_78_method_6_code (1 : Nat) (Option.some (Jvm.ClassFile.FieldType.object "java/lang/String"))).before args0 about1 = true := code_word (m := ⟨13, 2⟩) (meth := k13m2) (c := k13c2) (by decide +kernel) rfl rfl rfl (by decide +kernel)
set_option maxRecDepth 65536 in
theorem w_c43 : (Jvm.Cond.code ({ cls := "java/lang/String", name := "equals", desc := "(Ljava/lang/Object;)Z" } : Jvm.MethodName) jdk_42_method_66_code (3 : Nat) (Option.some Jvm.ClassFile.FieldType.boolean)).before args0 about1 = true := code_word (m := ⟨7, 5⟩) (meth := k7m5) (c := k7c5) (by decide +kernel) rfl rfl rfl (by decide +kernel)
set_option maxRecDepth 65536 in
theorem w_c44 : (Jvm.Cond.code ({ cls := "java/lang/StringLatin1", name := "equals", desc := "([B[B)Z" } : Jvm.MethodName) jdk_43_method_13_code (3 : Nat) (Option.some Jvm.ClassFile.FieldType.boolean)).before args0 about1 = true := code_word (m := ⟨8, 2⟩) (meth := k8m2) (c := k8c2) (by decide +kernel) rfl rfl rfl (by decide +kernel)
def codes1 : List Jvm.Cond := [Jvm.Cond.code x code maxLocals ret, Jvm.Cond.code ({ cls := "wirefold/DefinitionsFixedPinLaw", name := "putSuffix", desc := "([CI)V" } : Jvm.MethodName) method_3_code (3 : Nat) (Option.none : Option Jvm.ClassFile.FieldType), Jvm.Cond.code ({ cls := "java/lang/String", name := "charAt", desc := "(I)C" } : Jvm.MethodName) jdk_42_method_56_code (2 : Nat) (Option.some Jvm.ClassFile.FieldType.char), Jvm.Cond.code ({ cls := "java/lang/String", name := "isLatin1", desc := "()Z" } : Jvm.MethodName) jdk_42_method_154_code (1 : Nat) (Option.some Jvm.ClassFile.FieldType.boolean), Jvm.Cond.code ({ cls := "java/lang/StringLatin1", name := "charAt", desc := "([BI)C" } : Jvm.MethodName) jdk_43_method_2_code (2 : Nat) (Option.some Jvm.ClassFile.FieldType.char), Jvm.Cond.code ({ cls := "java/lang/String", name := "checkIndex", desc := "(II)V" } : Jvm.MethodName) jdk_42_method_155_code (2 : Nat) (Option.none : Option Jvm.ClassFile.FieldType), Jvm.Cond.code ({ cls := "jdk/internal/util/Preconditions", name := "checkIndex", desc := "(IILjava/util/function/BiFunction;)I" } : Jvm.MethodName) jdk_41_method_11_code (3 : Nat) (Option.some Jvm.ClassFile.FieldType.int), Jvm.Cond.code ({ cls := "java/lang/String", name := "<init>", desc := "([C)V" } : Jvm.MethodName) jdk_42_method_3_code (2 : Nat) (Option.none : Option Jvm.ClassFile.FieldType), Jvm.Cond.code ({ cls := "java/lang/String", name := "<init>", desc := "([CIILjava/lang/Void;)V" } : Jvm.MethodName) jdk_42_method_149_code (6 : Nat) (Option.none : Option Jvm.ClassFile.FieldType), Jvm.Cond.code ({ cls := "java/lang/Object", name := "<init>", desc := "()V" } : Jvm.MethodName) object_method_1_code (1 : Nat) (Option.none : Option Jvm.ClassFile.FieldType), Jvm.Cond.code ({ cls := "java/lang/StringUTF16", name := "compress", desc := "([CII)[B" } : Jvm.MethodName) jdk_52_method_16_code (6 : Nat) (Option.some (Jvm.ClassFile.FieldType.array Jvm.ClassFile.FieldType.byte)), Jvm.Cond.code ({ cls := "java/lang/StringUTF16", name := "compress", desc := "([CI[BII)I" } : Jvm.MethodName) jdk_52_method_21_code (7 : Nat) (Option.some Jvm.ClassFile.FieldType.int), Jvm.Cond.code ({ cls := "java/lang/StringUTF16", name := "coderFromArrayLen", desc := "([BI)B" } : Jvm.MethodName) jdk_52_method_15_code (2 : Nat) (Option.some Jvm.ClassFile.FieldType.byte), Jvm.Cond.code ({ cls := "wirefold/Definitions", name := "fixed", desc := "(Ljava/lang/String;)Ljava/lang/IllegalStateException;" } : Jvm.MethodName) prog_35_method_9_code (1 : Nat) (Option.some (Jvm.ClassFile.FieldType.object "java/lang/IllegalStateException")), Jvm.Cond.code ({ cls := "java/lang/StringBuilder", name := "<init>", desc := "()V" } : Jvm.MethodName) jdk_67_method_1_code (1 : Nat) (Option.none : Option Jvm.ClassFile.FieldType), Jvm.Cond.code ({ cls := "java/lang/AbstractStringBuilder", name := "<init>", desc := "(I)V" } : Jvm.MethodName) jdk_68_method_2_code (2 : Nat) (Option.none : Option Jvm.ClassFile.FieldType), Jvm.Cond.code ({ cls := "java/lang/StringBuilder", name := "append", desc := "(Ljava/lang/String;)Ljava/lang/StringBuilder;" } : Jvm.MethodName) jdk_67_method_7_code (2 : Nat) (Option.some (Jvm.ClassFile.FieldType.object "java/lang/StringBuilder")), Jvm.Cond.code ({ cls := "java/lang/AbstractStringBuilder", name := "append", desc := "(Ljava/lang/String;)Ljava/lang/AbstractStringBuilder;" } : Jvm.MethodName) jdk_68_method_22_code (3 : Nat) (Option.some (Jvm.ClassFile.FieldType.object "java/lang/AbstractStringBuilder")), Jvm.Cond.code ({ cls := "java/lang/String", name := "length", desc := "()I" } : Jvm.MethodName) jdk_42_method_54_code (1 : Nat) (Option.some Jvm.ClassFile.FieldType.int), Jvm.Cond.code ({ cls := "java/lang/String", name := "coder", desc := "()B" } : Jvm.MethodName) jdk_42_method_152_code (1 : Nat) (Option.some Jvm.ClassFile.FieldType.byte), Jvm.Cond.code ({ cls := "java/lang/AbstractStringBuilder", name := "ensureCapacityInternal", desc := "(I)V" } : Jvm.MethodName) jdk_68_method_9_code (3 : Nat) (Option.none : Option Jvm.ClassFile.FieldType), Jvm.Cond.code ({ cls := "java/lang/AbstractStringBuilder", name := "putStringAt", desc := "(ILjava/lang/String;)V" } : Jvm.MethodName) jdk_68_method_73_code (3 : Nat) (Option.none : Option Jvm.ClassFile.FieldType), Jvm.Cond.code ({ cls := "java/lang/AbstractStringBuilder", name := "inflateIfNeededFor", desc := "(Ljava/lang/String;)V" } : Jvm.MethodName) jdk_68_method_71_code (2 : Nat) (Option.none : Option Jvm.ClassFile.FieldType), Jvm.Cond.code ({ cls := "java/lang/String", name := "getBytes", desc := "([BIB)V" } : Jvm.MethodName) jdk_42_method_147_code (4 : Nat) (Option.none : Option Jvm.ClassFile.FieldType), Jvm.Cond.code ({ cls := "java/lang/AbstractStringBuilder", name := "newCapacity", desc := "(I)I" } : Jvm.MethodName) jdk_68_method_10_code (6 : Nat) (Option.some Jvm.ClassFile.FieldType.int), Jvm.Cond.code ({ cls := "jdk/internal/util/ArraysSupport", name := "newLength", desc := "(III)I" } : Jvm.MethodName) jdk_48_method_27_code (4 : Nat) (Option.some Jvm.ClassFile.FieldType.int), Jvm.Cond.code ({ cls := "java/lang/Math", name := "max", desc := "(II)I" } : Jvm.MethodName) jdk_29_method_65_code (2 : Nat) (Option.some Jvm.ClassFile.FieldType.int), Jvm.Cond.code ({ cls := "java/util/Arrays", name := "copyOf", desc := "([BI)[B" } : Jvm.MethodName) jdk_65_method_121_code (3 : Nat) (Option.some (Jvm.ClassFile.FieldType.array Jvm.ClassFile.FieldType.byte)), Jvm.Cond.code ({ cls := "java/lang/Math", name := "min", desc := "(II)I" } : Jvm.MethodName) jdk_29_method_69_code (2 : Nat) (Option.some Jvm.ClassFile.FieldType.int), Jvm.Cond.code ({ cls := "java/lang/StringBuilder", name := "toString", desc := "()Ljava/lang/String;" } : Jvm.MethodName) jdk_67_method_42_code (1 : Nat) (Option.some (Jvm.ClassFile.FieldType.object "java/lang/String")), Jvm.Cond.code ({ cls := "java/lang/String", name := "<init>", desc := "(Ljava/lang/StringBuilder;)V" } : Jvm.MethodName) jdk_42_method_53_code (2 : Nat) (Option.none : Option Jvm.ClassFile.FieldType), Jvm.Cond.code ({ cls := "java/lang/String", name := "<init>", desc := "(Ljava/lang/AbstractStringBuilder;Ljava/lang/Void;)V" } : Jvm.MethodName) jdk_42_method_150_code (5 : Nat) (Option.none : Option Jvm.ClassFile.FieldType), Jvm.Cond.code ({ cls := "java/lang/AbstractStringBuilder", name := "getValue", desc := "()[B" } : Jvm.MethodName) jdk_68_method_64_code (1 : Nat) (Option.some (Jvm.ClassFile.FieldType.array Jvm.ClassFile.FieldType.byte)), Jvm.Cond.code ({ cls := "java/lang/StringBuilder", name := "length", desc := "()I" } : Jvm.MethodName) jdk_67_method_93_code (1 : Nat) (Option.some Jvm.ClassFile.FieldType.int), Jvm.Cond.code ({ cls := "java/lang/AbstractStringBuilder", name := "length", desc := "()I" } : Jvm.MethodName) jdk_68_method_6_code (1 : Nat) (Option.some Jvm.ClassFile.FieldType.int), Jvm.Cond.code ({ cls := "java/lang/AbstractStringBuilder", name := "isLatin1", desc := "()Z" } : Jvm.MethodName) jdk_68_method_68_code (1 : Nat) (Option.some Jvm.ClassFile.FieldType.boolean), Jvm.Cond.code ({ cls := "java/util/Arrays", name := "copyOfRange", desc := "([BII)[B" } : Jvm.MethodName) jdk_65_method_132_code (3 : Nat) (Option.some (Jvm.ClassFile.FieldType.array Jvm.ClassFile.FieldType.byte)), Jvm.Cond.code ({ cls := "java/lang/IllegalStateException", name := "<init>", desc := "(Ljava/lang/String;)V" } : Jvm.MethodName) jdk_60_method_2_code (2 : Nat) (Option.none : Option Jvm.ClassFile.FieldType), Jvm.Cond.code ({ cls := "java/lang/RuntimeException", name := "<init>", desc := "(Ljava/lang/String;)V" } : Jvm.MethodName) jdk_58_method_2_code (2 : Nat) (Option.none : Option Jvm.ClassFile.FieldType), Jvm.Cond.code ({ cls := "java/lang/Exception", name := "<init>", desc := "(Ljava/lang/String;)V" } : Jvm.MethodName) jdk_59_method_2_code (2 : Nat) (Option.none : Option Jvm.ClassFile.FieldType), Jvm.Cond.code ({ cls := "java/lang/Throwable", name := "<init>", desc := "(Ljava/lang/String;)V" } : Jvm.MethodName) jdk_78_method_2_code (2 : Nat) (Option.none : Option Jvm.ClassFile.FieldType), Jvm.Cond.code ({ cls := "java/lang/Throwable", name := "<init>", desc := "()V" } : Jvm.MethodName) jdk_78_method_1_code (1 : Nat) (Option.none : Option Jvm.ClassFile.FieldType), Jvm.Cond.code ({ cls := "java/lang/Throwable", name := "getMessage", desc := "()Ljava/lang/String;" } : Jvm.MethodName) jdk_78_method_6_code (1 : Nat) (Option.some (Jvm.ClassFile.FieldType.object "java/lang/String")), Jvm.Cond.code ({ cls := "java/lang/String", name := "equals", desc := "(Ljava/lang/Object;)Z" } : Jvm.MethodName) jdk_42_method_66_code (3 : Nat) (Option.some Jvm.ClassFile.FieldType.boolean), Jvm.Cond.code ({ cls := "java/lang/StringLatin1", name := "equals", desc := "([B[B)Z" } : Jvm.MethodName) jdk_43_method_13_code (3 : Nat) (Option.some Jvm.ClassFile.FieldType.boolean)]
set_option maxRecDepth 65536 in
theorem codes_eq : words1.filter isCode = codes1 := rfl
theorem w_codes : ∀ c ∈ words1.filter isCode, c.before args0 about1 = true := by
  rw [codes_eq]
  intro c hc
  simp only [codes1, List.mem_cons, List.not_mem_nil, or_false] at hc
  rcases hc with rfl | rfl | rfl | rfl | rfl | rfl | rfl | rfl | rfl | rfl | rfl | rfl | rfl | rfl | rfl | rfl | rfl | rfl | rfl | rfl | rfl | rfl | rfl | rfl | rfl | rfl | rfl | rfl | rfl | rfl | rfl | rfl | rfl | rfl | rfl | rfl | rfl | rfl | rfl | rfl | rfl | rfl | rfl | rfl | rfl
  · exact w_c0
  · exact w_c1
  · exact w_c2
  · exact w_c3
  · exact w_c4
  · exact w_c5
  · exact w_c6
  · exact w_c7
  · exact w_c8
  · exact w_c9
  · exact w_c10
  · exact w_c11
  · exact w_c12
  · exact w_c13
  · exact w_c14
  · exact w_c15
  · exact w_c16
  · exact w_c17
  · exact w_c18
  · exact w_c19
  · exact w_c20
  · exact w_c21
  · exact w_c22
  · exact w_c23
  · exact w_c24
  · exact w_c25
  · exact w_c26
  · exact w_c27
  · exact w_c28
  · exact w_c29
  · exact w_c30
  · exact w_c31
  · exact w_c32
  · exact w_c33
  · exact w_c34
  · exact w_c35
  · exact w_c36
  · exact w_c37
  · exact w_c38
  · exact w_c39
  · exact w_c40
  · exact w_c41
  · exact w_c42
  · exact w_c43
  · exact w_c44
set_option maxRecDepth 65536 in
theorem w_t1 : (words1.take 24).all (fun c => isCode c || c.before args0 about1) = true := by decide +kernel
set_option maxRecDepth 65536 in
theorem w_t2 : ((words1.drop 24).take 24).all (fun c => isCode c || c.before args0 about1) = true := by decide +kernel
set_option maxRecDepth 65536 in
theorem w_t3 : (((words1.drop 24).drop 24).take 24).all (fun c => isCode c || c.before args0 about1) = true := by decide +kernel
set_option maxRecDepth 65536 in
theorem w_t4 : ((((words1.drop 24).drop 24).drop 24).take 24).all (fun c => isCode c || c.before args0 about1) = true := by decide +kernel
set_option maxRecDepth 65536 in
theorem w_t5 : (((((words1.drop 24).drop 24).drop 24).drop 24).take 24).all (fun c => isCode c || c.before args0 about1) = true := by decide +kernel
set_option maxRecDepth 65536 in
theorem w_t6 : ((((((words1.drop 24).drop 24).drop 24).drop 24).drop 24).take 24).all (fun c => isCode c || c.before args0 about1) = true := by decide +kernel
set_option maxRecDepth 65536 in
theorem w_t7 : (((((((words1.drop 24).drop 24).drop 24).drop 24).drop 24).drop 24).take 24).all (fun c => isCode c || c.before args0 about1) = true := by decide +kernel
set_option maxRecDepth 65536 in
theorem w_t8 : ((((((((words1.drop 24).drop 24).drop 24).drop 24).drop 24).drop 24).drop 24).take 24).all (fun c => isCode c || c.before args0 about1) = true := by decide +kernel
set_option maxRecDepth 65536 in
theorem w_t9 : (((((((((words1.drop 24).drop 24).drop 24).drop 24).drop 24).drop 24).drop 24).drop 24).take 24).all (fun c => isCode c || c.before args0 about1) = true := by decide +kernel
set_option maxRecDepth 65536 in
theorem w_t10 : ((((((((((words1.drop 24).drop 24).drop 24).drop 24).drop 24).drop 24).drop 24).drop 24).drop 24).take 24).all (fun c => isCode c || c.before args0 about1) = true := by decide +kernel
set_option maxRecDepth 65536 in
theorem w_t11 : (((((((((((words1.drop 24).drop 24).drop 24).drop 24).drop 24).drop 24).drop 24).drop 24).drop 24).drop 24).take 24).all (fun c => isCode c || c.before args0 about1) = true := by decide +kernel
set_option maxRecDepth 65536 in
theorem w_t12 : (((((((((((words1.drop 24).drop 24).drop 24).drop 24).drop 24).drop 24).drop 24).drop 24).drop 24).drop 24).drop 24).all (fun c => isCode c || c.before args0 about1) = true := by decide +kernel
theorem w_tables : (allAtoms (Jvm.Cond.code x code maxLocals ret :: tables_1)).before args0 about1 = true := by
  rw [allAtoms_all]
  show words1.all (fun c => c.before args0 about1) = true
  refine all_split ?_ w_codes
  rw [← List.take_append_drop 24 words1, List.all_append, w_t1, ← List.take_append_drop 24 (words1.drop 24), List.all_append, w_t2, ← List.take_append_drop 24 ((words1.drop 24).drop 24), List.all_append, w_t3, ← List.take_append_drop 24 (((words1.drop 24).drop 24).drop 24), List.all_append, w_t4, ← List.take_append_drop 24 ((((words1.drop 24).drop 24).drop 24).drop 24), List.all_append, w_t5, ← List.take_append_drop 24 (((((words1.drop 24).drop 24).drop 24).drop 24).drop 24), List.all_append, w_t6, ← List.take_append_drop 24 ((((((words1.drop 24).drop 24).drop 24).drop 24).drop 24).drop 24), List.all_append, w_t7, ← List.take_append_drop 24 (((((((words1.drop 24).drop 24).drop 24).drop 24).drop 24).drop 24).drop 24), List.all_append, w_t8, ← List.take_append_drop 24 ((((((((words1.drop 24).drop 24).drop 24).drop 24).drop 24).drop 24).drop 24).drop 24), List.all_append, w_t9, ← List.take_append_drop 24 (((((((((words1.drop 24).drop 24).drop 24).drop 24).drop 24).drop 24).drop 24).drop 24).drop 24), List.all_append, w_t10, ← List.take_append_drop 24 ((((((((((words1.drop 24).drop 24).drop 24).drop 24).drop 24).drop 24).drop 24).drop 24).drop 24).drop 24), List.all_append, w_t11, w_t12]
  rfl
set_option maxRecDepth 65536 in
theorem w_rest : rest_1_c.before args0 about1 = true := by decide +kernel
set_option maxRecDepth 65536 in
theorem w_case : (Jvm.Cond.and given_1 narrow_1).before args0 about1 = true := by decide +kernel
set_option maxRecDepth 65536 in
theorem w_consts : constsHeld consts_1 about1 := Jvm.Lit.constsHeldB_iff.mp (by decide +kernel)
theorem w_applies : (headSpec (Jvm.Cond.code x code maxLocals ret :: tables_1) room_1).applies x e0.platform about1 = true :=
  (Spec.applies_iff w_frames).mpr ⟨w_running, w_runnable, w_alone, w_named, w_hears, w_ripe, w_room, w_tables⟩
theorem atStart : AtStart classFile x code maxLocals ret World_1 tables_1 room_1 Calls_1 rest_1 Pre_1 launch0 p0 e0 about1 theMethod args0 below0 :=
  ⟨lists_1, trivial, launch0.admits_env _ _ _, launch0.least_env, fairChoices_fair.cas, fairChoices_fair.clock, w_frames, w_args, w_heap, w_applies, ⟨(by decide +kernel : framesKnown about1 = true), ⟨(by decide +kernel : tablesKnown about1 = true), ⟨w_consts, trivial⟩⟩⟩, w_rest, w_case⟩
end start1
theorem witness_1 : WitnessClaimed_1 := ⟨start1.p0, start1.e0, start1.about1, start1.theMethod, start1.args0, start1.below0, start1.atStart⟩
end Jvm.Pilot.@@N@@
