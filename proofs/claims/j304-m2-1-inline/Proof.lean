import JvmDerived
import JvmDerived.Pilot.@@N@@Statement
import JvmDerived.Pilot.@@N@@Code
set_option linter.unusedVariables false
set_option linter.unusedSimpArgs false
@@BLOCK:TracedD.lean.txt@@
/- laws to paste: Road.backV, StrChars.pair_says, StrChars.chr8_lo8, StrChars.narrow_ch (cut by pick.py; bodies as the Statement names them) -/
namespace Jvm.Pilot.@@N@@
namespace StrChars
open Jvm Sem ClassFile Op Lib Jvm.Stand Jvm.Free.XT Jvm.Free.ALB Jvm.Free.JM Jvm.Free
open Jvm.Lib.Cold (StaticIs)
/-- a char array whose places are chars -/
def Ch (a : Addr) (A : Cell) (U : State) : Prop := Arr .char a A U ∧ Typed .char A
theorem Ch.mv {a : Addr} {A : Cell} {U U' : State} (h : Ch a A U) (hal : U.vm.Alike U'.vm) (hh : U'.heap = U.heap) : Ch a A U' := ⟨h.1.mv hal hh, h.2⟩
theorem Ch.keep {a : Addr} {A : Cell} {U U' : State} (h : Ch a A U) (hal : U.vm.Alike U'.vm) (hk : U'.heap[a]? = some A) : Ch a A U' := ⟨h.1.keep hal hk, h.2⟩
/-- what place i of a char[]'s cell holds -/
def cv (A : Cell) (i : Nat) : Int32 := match A.slots[i]? with | some (.int x) => x | _ => 0
theorem Ch.get {a : Addr} {A : Cell} {U : State} (h : Ch a A U) {i : Nat} (hi : i < A.slots.size) : A.slots[i]? = some (.int (cv A i)) := by
  have e := Array.getElem?_eq_getElem hi
  have f := h.2 i _ e
  unfold cv; rw [e]
  generalize A.slots[i] = v at f
  cases v <;> simp [fits] at f ⊢
/-- the byte that i2b leaves of a char -/
def lo8 (x : Int32) : Int32 := x.toInt8.toInt32
theorem fits_lo8 (y : Int32) : fits .byte (.int (lo8 y)) = true := by
  have h1 := y.toInt8.le_toInt
  have h2 := y.toInt8.toInt_lt
  simp only [lo8, fits, Bool.and_eq_true, decide_eq_true_eq, Int32.le_iff_toInt_le, Int8.toInt_toInt32, show (-128 : Int32).toInt = -128 from by decide, show (127 : Int32).toInt = 127 from by decide]
  omega
/-- A' is A but that each place j of lo .. hi - 1 holds f j -/
def Laid (A A' : Cell) (lo hi : Nat) (f : Nat → Value) : Prop := A'.cls = A.cls ∧ A'.vm = A.vm ∧ A'.slots.size = A.slots.size ∧ ∀ i, A'.slots[i]? = if lo ≤ i ∧ i < hi then some (f i) else A.slots[i]?
theorem Laid.zero (A : Cell) (lo : Nat) (f : Nat → Value) : Laid A A lo (lo + 0) f := ⟨rfl, rfl, rfl, fun i => by rw [if_neg (by omega)]⟩
theorem Laid.step {A Ak : Cell} {lo k : Nat} {f : Nat → Value} {v : Value} (h : Laid A Ak lo k f) (hlo : lo ≤ k) (hk : k < Ak.slots.size) (hv : v = f k) : Laid A (Ak.setSlot k v) lo (k + 1) f := by
  refine ⟨h.1, h.2.1, by simpa [Cell.setSlot] using h.2.2.1, fun i => ?_⟩
  by_cases e : k = i
  · subst e; rw [Cell.slots_setSlot_self v hk, if_pos (by omega), hv]
  · rw [Cell.slots_setSlot_ne v e, h.2.2.2 i]
    by_cases q : lo ≤ i ∧ i < k
    · rw [if_pos q, if_pos (by omega)]
    · rw [if_neg q, if_neg (by omega)]
def U16 : String := "java/lang/StringUTF16"
namespace Cmp5
def yN : MethodName := ⟨"java/lang/StringUTF16", "compress", "([CI[BII)I"⟩
abbrev yB : ByteArray := jdk_52_method_21_code
theorem d0 : decode yB 0 = .ok (.iconst 0, 1) := by decide +kernel
theorem d1 : decode yB 1 = .ok (.istore 5, 2) := by decide +kernel
theorem d3 : decode yB 3 = .ok (.iload 5, 2) := by decide +kernel
theorem d5 : decode yB 5 = .ok (.iload 4, 2) := by decide +kernel
theorem d7 : decode yB 7 = .ok (.if_icmp (.ge) 37, 3) := by decide +kernel
theorem d10 : decode yB 10 = .ok (.aload_n 0, 1) := by decide +kernel
theorem d11 : decode yB 11 = .ok (.iload_n 1, 1) := by decide +kernel
theorem d12 : decode yB 12 = .ok (.caload, 1) := by decide +kernel
theorem d13 : decode yB 13 = .ok (.istore 6, 2) := by decide +kernel
theorem d15 : decode yB 15 = .ok (.iload 6, 2) := by decide +kernel
theorem d17 : decode yB 17 = .ok (.sipush 255, 3) := by decide +kernel
theorem d20 : decode yB 20 = .ok (.if_icmp (.le) 6, 3) := by decide +kernel
theorem d26 : decode yB 26 = .ok (.aload_n 2, 1) := by decide +kernel
theorem d27 : decode yB 27 = .ok (.iload_n 3, 1) := by decide +kernel
theorem d28 : decode yB 28 = .ok (.iload 6, 2) := by decide +kernel
theorem d30 : decode yB 30 = .ok (.i2b, 1) := by decide +kernel
theorem d31 : decode yB 31 = .ok (.bastore, 1) := by decide +kernel
theorem d32 : decode yB 32 = .ok (.iinc 1 1, 3) := by decide +kernel
theorem d35 : decode yB 35 = .ok (.iinc 3 1, 3) := by decide +kernel
theorem d38 : decode yB 38 = .ok (.iinc 5 1, 3) := by decide +kernel
theorem d41 : decode yB 41 = .ok (.goto (-38), 3) := by decide +kernel
theorem d44 : decode yB 44 = .ok (.iload 4, 2) := by decide +kernel
theorem d46 : decode yB 46 = .ok (.ireturn, 1) := by decide +kernel
def site : List Cond := []
def tab : Cond := tabOf yN yB 7 (some .int) site
def P (b : Addr) (A : Cell) (d : Addr) (B : Cell) (o q len : Nat) (args : Array Value) (s : State) : Prop := args = #[.ref b, .int (Int32.ofNat o), .ref d, .int (Int32.ofNat q), .int (Int32.ofNat len)] ∧ Ch b A s ∧ Arr .byte d B s ∧ b ≠ d ∧ o + len ≤ A.slots.size ∧ q + len ≤ B.slots.size ∧ ∀ i, i < len → ¬ 255 < cv A (o + i)
def E (b : Addr) (A : Cell) (d : Addr) (B : Cell) (o q len : Nat) (r : Option Value) (s u : State) : Prop := r = some (.int (Int32.ofNat len)) ∧ ∃ B', Put d B' s u ∧ Laid B B' q (q + len) (fun j => Value.int (lo8 (cv A (o + (j - q)))))
/-- no char of the range above 255: len; the places written hold each char's low byte -/
theorem law (l : Launch) (b : Addr) (A : Cell) (d : Addr) (B : Cell) (o q len : Nat) : Law l yN 5 5 0 0 yB 7 (some .int) site (P b A d B o q len) (E b A d B o q len) (copyLocs d q len) 0 0 := by
  refine Law.of_walk (plainFor_of_name (by decide +kernel)) (by decide +kernel) (by decide +kernel) (by decide) (fun _ _ h => by rw [h.1]; rfl) (fun _ U U' hal hh h => ⟨h.1, h.2.1.mv hal hh, h.2.2.1.mv hal hh, h.2.2.2⟩) (fun r U U' V V' h1 hal h2 h => ⟨h.1, h.2.elim fun B' q => ⟨B', q.1.mv h1 h2, q.2⟩⟩) ?_
  intro p e s m args below meth c s₁ X0 hexec hbytes hml hret hlk hnm hown hh0 W hP
  obtain ⟨rfl, hA, hB, hne, l1, l2, hp⟩ := hP
  have c1 : Steps p.tables e below (s₁.setTop (entryFrame m #[.ref b, .int (Int32.ofNat o), .ref d, .int (Int32.ofNat q), .int (Int32.ofNat len)] 7)) (s₁.setTop (mkF m 0 #[.val (.ref b), .val (.int (Int32.ofNat o)), .val (.ref d), .val (.int (Int32.ofNat q)), .val (.int (Int32.ofNat len)), .unset, .unset] [])) := entry rfl
  have hA0 := hA.1.mv X0.warmed.alike hh0
  have hB0 := hB.mv X0.warmed.alike hh0
  have a31 := hA.1.2.2.2
  have c2 : Steps p.tables e below (s₁.setTop (entryFrame m #[.ref b, .int (Int32.ofNat o), .ref d, .int (Int32.ofNat q), .int (Int32.ofNat len)] 7)) (s₁.setTop (mkF m 3 #[.val (.ref b), .val (.int (Int32.ofNat o)), .val (.ref d), .val (.int (Int32.ofNat q)), .val (.int (Int32.ofNat len)), .val (.int 0), .unset] [])) := c1.trans (by
    refine iconstV X0.here hexec rfl 0 (hb hbytes d0) (by decide) ?_
    refine XS.istore X0.here hexec rfl (hb hbytes d1) rfl rfl ?_
    exact Steps.refl _)
  have loop : ∀ (r i : Nat), i + r = len → ∀ (z : Slot), (z = .unset ∨ ∃ w, z = .val w ∧ w.category = 1) → ∀ (Tl : State) (Bk : Cell), Stand p l e { frames := 0, locals := 0, cells := 0, slots := 0 } s m #[.ref b, .int (Int32.ofNat o), .ref d, .int (Int32.ofNat q), .int (Int32.ofNat len)] below meth c Tl ([] ++ copyLocs d q i) 0 0 → Put d Bk s₁ Tl → Laid B Bk q (q + i) (fun j => Value.int (lo8 (cv A (o + (j - q))))) →
      Steps p.tables e below (s₁.setTop (entryFrame m #[.ref b, .int (Int32.ofNat o), .ref d, .int (Int32.ofNat q), .int (Int32.ofNat len)] 7)) (Tl.setTop (mkF m 3 #[.val (.ref b), .val (.int (Int32.ofNat (o + i))), .val (.ref d), .val (.int (Int32.ofNat (q + i))), .val (.int (Int32.ofNat len)), .val (.int (Int32.ofNat i)), z] [])) → ∃ (T' : State) (B' : Cell) (z' : Slot), Stand p l e { frames := 0, locals := 0, cells := 0, slots := 0 } s m #[.ref b, .int (Int32.ofNat o), .ref d, .int (Int32.ofNat q), .int (Int32.ofNat len)] below meth c T' ([] ++ copyLocs d q len) 0 0 ∧ Put d B' s₁ T' ∧ Laid B B' q (q + len) (fun j => Value.int (lo8 (cv A (o + (j - q))))) ∧
      Steps p.tables e below (s₁.setTop (entryFrame m #[.ref b, .int (Int32.ofNat o), .ref d, .int (Int32.ofNat q), .int (Int32.ofNat len)] 7)) (T'.setTop (mkF m 3 #[.val (.ref b), .val (.int (Int32.ofNat (o + len))), .val (.ref d), .val (.int (Int32.ofNat (q + len))), .val (.int (Int32.ofNat len)), .val (.int (Int32.ofNat len)), z'] [])) := by
    intro r
    induction r with
    | zero =>
      intro i hi z hz Tl Bk Xl pl fl cl
      have hil : i = len := by omega
      rw [hil] at Xl fl cl
      exact ⟨Tl, Bk, z, Xl, pl, fl, cl⟩
    | succ r ih =>
      intro i hi z hz Tl Bk Xl pl fl cl
      have all := X0.warmed.alike.symm.trans Xl.warmed.alike
      have hAl := hA0.keep all (pl.other hne hA0.1)
      have hBk := hB0.like all pl.1 fl.1 fl.2.1 fl.2.2.1
      have hlt : q + i < Bk.slots.size := by rw [fl.2.2.1]; omega
      have c3 : Steps p.tables e below (s₁.setTop (entryFrame m #[.ref b, .int (Int32.ofNat o), .ref d, .int (Int32.ofNat q), .int (Int32.ofNat len)] 7)) (Tl.setTop (mkF m 12 #[.val (.ref b), .val (.int (Int32.ofNat (o + i))), .val (.ref d), .val (.int (Int32.ofNat (q + i))), .val (.int (Int32.ofNat len)), .val (.int (Int32.ofNat i)), z] [.int (Int32.ofNat (o + i)), .ref b])) := cl.trans (by
        refine XS.iload Xl.here hexec rfl (hb hbytes d3) rfl ?_
        refine XS.iload Xl.here hexec rfl (hb hbytes d5) rfl ?_
        refine XS.icmpNo Xl.here hexec rfl (hb hbytes d7) rfl (ii_ge_f (lt32 (by omega) (by omega))) ?_
        refine XS.aloadN Xl.here hexec rfl (hb hbytes d10) rfl rfl ?_
        refine XS.iloadN Xl.here hexec rfl (hb hbytes d11) rfl ?_
        exact Steps.refl _)
      have c4 : Steps p.tables e below (s₁.setTop (entryFrame m #[.ref b, .int (Int32.ofNat o), .ref d, .int (Int32.ofNat q), .int (Int32.ofNat len)] 7)) (Tl.setTop (mkF m 13 #[.val (.ref b), .val (.int (Int32.ofNat (o + i))), .val (.ref d), .val (.int (Int32.ofNat (q + i))), .val (.int (Int32.ofNat len)), .val (.int (Int32.ofNat i)), z] [.int (cv A (o + i))])) := c3.trans (by
        refine Xl.aget hexec hAl rfl (hA.get (i := o + i) (by omega)) rfl rfl (hb hbytes d12) ?_
        exact Steps.refl _)
      have c5 : Steps p.tables e below (s₁.setTop (entryFrame m #[.ref b, .int (Int32.ofNat o), .ref d, .int (Int32.ofNat q), .int (Int32.ofNat len)] 7)) (Tl.setTop (mkF m 15 #[.val (.ref b), .val (.int (Int32.ofNat (o + i))), .val (.ref d), .val (.int (Int32.ofNat (q + i))), .val (.int (Int32.ofNat len)), .val (.int (Int32.ofNat i)), .val (.int (cv A (o + i)))] [])) := c4.trans (by
        refine XS.istoreS Xl.here hexec rfl (hb hbytes d13) rfl rfl hz ?_
        exact Steps.refl _)
      have c6 : Steps p.tables e below (s₁.setTop (entryFrame m #[.ref b, .int (Int32.ofNat o), .ref d, .int (Int32.ofNat q), .int (Int32.ofNat len)] 7)) (Tl.setTop (mkF m 31 #[.val (.ref b), .val (.int (Int32.ofNat (o + i))), .val (.ref d), .val (.int (Int32.ofNat (q + i))), .val (.int (Int32.ofNat len)), .val (.int (Int32.ofNat i)), .val (.int (cv A (o + i)))] [.int (lo8 (cv A (o + i))), .int (Int32.ofNat (q + i)), .ref d])) := c5.trans (by
        refine XS.iload Xl.here hexec rfl (hb hbytes d15) rfl ?_
        refine sipushV Xl.here hexec rfl 255 (hb hbytes d17) (by decide) ?_
        refine XS.icmpYes Xl.here hexec rfl (pc0 := 20) rfl (hb hbytes d20) rfl (ii_le_t (hp i (by omega))) (by decide) rfl ?_
        refine XS.aloadN Xl.here hexec rfl (hb hbytes d26) rfl rfl ?_
        refine XS.iloadN Xl.here hexec rfl (hb hbytes d27) rfl ?_
        refine XS.iload Xl.here hexec rfl (hb hbytes d28) rfl ?_
        refine i2b Xl.here hexec rfl (hb hbytes d30) rfl ?_
        exact Steps.refl _)
      obtain ⟨T7, X7, p7, st7⟩ := Xl.aput hexec hBk rfl hlt rfl (fits_lo8 (cv A (o + i))) (g := (mkF m 31 #[.val (.ref b), .val (.int (Int32.ofNat (o + i))), .val (.ref d), .val (.int (Int32.ofNat (q + i))), .val (.int (Int32.ofNat len)), .val (.int (Int32.ofNat i)), .val (.int (cv A (o + i)))] [.int (lo8 (cv A (o + i))), .int (Int32.ofNat (q + i)), .ref d])) rfl (rest := []) rfl (hb hbytes d31)
      have c8 : Steps p.tables e below (s₁.setTop (entryFrame m #[.ref b, .int (Int32.ofNat o), .ref d, .int (Int32.ofNat q), .int (Int32.ofNat len)] 7)) (T7.setTop (mkF m 32 #[.val (.ref b), .val (.int (Int32.ofNat (o + i))), .val (.ref d), .val (.int (Int32.ofNat (q + i))), .val (.int (Int32.ofNat len)), .val (.int (Int32.ofNat i)), .val (.int (cv A (o + i)))] [])) := c6.trans (st7 _ (Steps.refl _))
      have c9 : Steps p.tables e below (s₁.setTop (entryFrame m #[.ref b, .int (Int32.ofNat o), .ref d, .int (Int32.ofNat q), .int (Int32.ofNat len)] 7)) (T7.setTop (mkF m 3 #[.val (.ref b), .val (.int (Int32.ofNat (o + i) + 1)), .val (.ref d), .val (.int (Int32.ofNat (q + i) + 1)), .val (.int (Int32.ofNat len)), .val (.int (Int32.ofNat i + 1)), .val (.int (cv A (o + i)))] [])) := c8.trans (by
        refine iincV X7.here hexec rfl 1 (hb hbytes d32) (by decide) rfl rfl ?_
        refine iincV X7.here hexec rfl 1 (hb hbytes d35) (by decide) rfl rfl ?_
        refine iincV X7.here hexec rfl 1 (hb hbytes d38) (by decide) rfl rfl ?_
        refine XS.goto X7.here hexec rfl (pc0 := 41) rfl (hb hbytes d41) (by decide) rfl ?_
        exact Steps.refl _)
      have c10 : Steps p.tables e below (s₁.setTop (entryFrame m #[.ref b, .int (Int32.ofNat o), .ref d, .int (Int32.ofNat q), .int (Int32.ofNat len)] 7)) (T7.setTop (mkF m 3 #[.val (.ref b), .val (.int (Int32.ofNat (o + (i + 1)))), .val (.ref d), .val (.int (Int32.ofNat (q + (i + 1)))), .val (.int (Int32.ofNat len)), .val (.int (Int32.ofNat (i + 1))), .val (.int (cv A (o + i)))] [])) := by
        have := c9
        rw [succ32, succ32, succ32] at this
        exact this
      exact ih (i + 1) (by omega) _ (Or.inr ⟨_, rfl, rfl⟩) T7 _ (by rw [copyLocs_step, ← List.append_assoc]; exact X7) (pl.trans p7) (fl.step (by omega) hlt (by simp)) c10
  obtain ⟨T9, B9, z9, X9, p9, f9, g9⟩ := loop len 0 (by omega) .unset (Or.inl rfl) s₁ B (by simpa [copyLocs] using X0) ⟨hB0.1, fun _ _ => rfl, rfl⟩ (Laid.zero _ _ _) c2
  have c11 : Steps p.tables e below (s₁.setTop (entryFrame m #[.ref b, .int (Int32.ofNat o), .ref d, .int (Int32.ofNat q), .int (Int32.ofNat len)] 7)) (T9.setTop (mkF m 46 #[.val (.ref b), .val (.int (Int32.ofNat (o + len))), .val (.ref d), .val (.int (Int32.ofNat (q + len))), .val (.int (Int32.ofNat len)), .val (.int (Int32.ofNat len)), z9] [.int (Int32.ofNat len)])) := g9.trans (by
    refine XS.iload X9.here hexec rfl (hb hbytes d3) rfl ?_
    refine XS.iload X9.here hexec rfl (hb hbytes d5) rfl ?_
    refine XS.icmpYes X9.here hexec rfl (pc0 := 7) rfl (hb hbytes d7) rfl (ii_ge_t (nlt32 (by omega) (Nat.le_refl _))) (by decide) rfl ?_
    refine XS.iload X9.here hexec rfl (hb hbytes d44) rfl ?_
    exact Steps.refl _)
  exact ⟨T9, some (.int (Int32.ofNat len)), _, _, _, X9, by simp, rfl, rfl, (fun h => by cases h), ⟨rfl, B9, p9.from hh0, f9⟩, fun fs hl => c11.trans (X9.ireturnOut hexec hret rfl (Or.inl rfl) (hb hbytes d46) hl)⟩
end Cmp5
namespace Cmp3
def yN : MethodName := ⟨"java/lang/StringUTF16", "compress", "([CII)[B"⟩
abbrev yB : ByteArray := jdk_52_method_16_code
theorem d0 : decode yB 0 = .ok (.iload_n 2, 1) := by decide +kernel
theorem d1 : decode yB 1 = .ok (.newarray .byte, 2) := by decide +kernel
theorem d3 : decode yB 3 = .ok (.astore_n 3, 1) := by decide +kernel
theorem d4 : decode yB 4 = .ok (.aload_n 0, 1) := by decide +kernel
theorem d5 : decode yB 5 = .ok (.iload_n 1, 1) := by decide +kernel
theorem d6 : decode yB 6 = .ok (.aload_n 3, 1) := by decide +kernel
theorem d7 : decode yB 7 = .ok (.iconst 0, 1) := by decide +kernel
theorem d8 : decode yB 8 = .ok (.iload_n 2, 1) := by decide +kernel
theorem d9 : decode yB 9 = .ok (.invokestatic 115, 3) := by decide +kernel
theorem d12 : decode yB 12 = .ok (.istore 4, 2) := by decide +kernel
theorem d14 : decode yB 14 = .ok (.iload 4, 2) := by decide +kernel
theorem d16 : decode yB 16 = .ok (.iload_n 2, 1) := by decide +kernel
theorem d17 : decode yB 17 = .ok (.if_icmp (.eq) 40, 3) := by decide +kernel
theorem d57 : decode yB 57 = .ok (.aload_n 3, 1) := by decide +kernel
theorem d58 : decode yB 58 = .ok (.areturn, 1) := by decide +kernel
def site : List Cond := [.arrayClass .byte, Cmp5.tab] ++ staticW U16 115 Cmp5.yN
def tab : Cond := tabOf yN yB 6 (some (.array .byte)) site
def P (b : Addr) (A : Cell) (o len : Nat) (args : Array Value) (s : State) : Prop := args = #[.ref b, .int (Int32.ofNat o), .int (Int32.ofNat len)] ∧ Ch b A s ∧ o + len ≤ A.slots.size ∧ len ≤ 536870912 ∧ ∀ i, i < len → ¬ 255 < cv A (o + i)
def E (b : Addr) (A : Cell) (o len : Nat) (r : Option Value) (s u : State) : Prop := NewArr .byte "[B" len (fun j => .int (lo8 (cv A (o + j)))) r s u ∧ u.heap.size = s.heap.size + 1
/-- no char of the range above 255: a new byte[] of their low bytes -/
theorem law (l : Launch) (b : Addr) (A : Cell) (o len : Nat) : Law l yN 3 3 1 18 yB 6 (some (.array .byte)) site (P b A o len) (E b A o len) [] 1 len := by
  refine Law.of_walk (plainFor_of_name (by decide +kernel)) (by decide +kernel) (by decide +kernel) (by decide) (fun _ _ h => by rw [h.1]; rfl) (fun _ U U' hal hh h => ⟨h.1, h.2.1.mv hal hh, h.2.2⟩) (fun r U U' V V' h1 hal h2 h => ⟨NewArr.mv r U U' V V' h1 hal h2 h.1, by rw [h1, h2]; exact h.2⟩) ?_
  intro p e s m args below meth c s₁ X0 hexec hbytes hml hret hlk hnm hown hh0 W hP
  obtain ⟨rfl, hA, l1, l2, hp⟩ := hP
  have a31 := hA.1.2.2.2
  have c1 : Steps p.tables e below (s₁.setTop (entryFrame m #[.ref b, .int (Int32.ofNat o), .int (Int32.ofNat len)] 6)) (s₁.setTop (mkF m 0 #[.val (.ref b), .val (.int (Int32.ofNat o)), .val (.int (Int32.ofNat len)), .unset, .unset, .unset] [])) := entry rfl
  have c2 : Steps p.tables e below (s₁.setTop (entryFrame m #[.ref b, .int (Int32.ofNat o), .int (Int32.ofNat len)] 6)) (s₁.setTop (mkF m 1 #[.val (.ref b), .val (.int (Int32.ofNat o)), .val (.int (Int32.ofNat len)), .unset, .unset, .unset] [.int (Int32.ofNat len)])) := c1.trans (by
    refine XS.iloadN X0.here hexec rfl (hb hbytes d0) rfl ?_
    exact Steps.refl _)
  obtain ⟨T3, B3, X3, ba3, bs3, bv3, bh3, bf3, st3⟩ := X0.anew hexec (atype := .byte) (wk W (.arrayClass .byte)) rfl (by show len * 1 ≤ _; omega) (by omega) (g := (mkF m 1 #[.val (.ref b), .val (.int (Int32.ofNat o)), .val (.int (Int32.ofNat len)), .unset, .unset, .unset] [.int (Int32.ofNat len)])) rfl (hb hbytes d1) (rest := []) rfl (Nat.le_refl _) (by show 0 + len ≤ len; omega)
  rw [hh0] at ba3 st3
  have kp3 : XT.Kept s T3 := (XT.Kept.of_eq hh0).push bh3
  have hA3 := hA.keep X3.warmed.alike (kp3 _ _ hA.1.1)
  have hne : b ≠ s.heap.size := hA.1.ne
  have c4 : Steps p.tables e below (s₁.setTop (entryFrame m #[.ref b, .int (Int32.ofNat o), .int (Int32.ofNat len)] 6)) (T3.setTop (mkF m 3 #[.val (.ref b), .val (.int (Int32.ofNat o)), .val (.int (Int32.ofNat len)), .unset, .unset, .unset] [.ref s.heap.size])) := c2.trans (st3 _ (Steps.refl _))
  have c5 : Steps p.tables e below (s₁.setTop (entryFrame m #[.ref b, .int (Int32.ofNat o), .int (Int32.ofNat len)] 6)) (T3.setTop (mkF m 9 #[.val (.ref b), .val (.int (Int32.ofNat o)), .val (.int (Int32.ofNat len)), .val (.ref s.heap.size), .unset, .unset] [.int (Int32.ofNat len), .int 0, .ref s.heap.size, .int (Int32.ofNat o), .ref b])) := c4.trans (by
    refine XS.astoreN X3.here hexec rfl (hb hbytes d3) rfl rfl rfl ?_
    refine XS.aloadN X3.here hexec rfl (hb hbytes d4) rfl rfl ?_
    refine XS.iloadN X3.here hexec rfl (hb hbytes d5) rfl ?_
    refine XS.aloadN X3.here hexec rfl (hb hbytes d6) rfl rfl ?_
    refine iconstV X3.here hexec rfl 0 (hb hbytes d7) (by decide) ?_
    refine XS.iloadN X3.here hexec rfl (hb hbytes d8) rfl ?_
    exact Steps.refl _)
  obtain ⟨v6, T6, X6, E6, g6⟩ := X3.callS hexec (Cmp5.law l b A s.heap.size B3 o 0 len) hown (wks W (staticW U16 115 Cmp5.yN)) (wk W Cmp5.tab) (W := 0) (Nat.le_of_ble_eq_true rfl) (Nat.le_of_ble_eq_true rfl) (Nat.le_refl _) (by show 0 + len + 0 ≤ len; omega) (g := (mkF m 9 #[.val (.ref b), .val (.int (Int32.ofNat o)), .val (.int (Int32.ofNat len)), .val (.ref s.heap.size), .unset, .unset] [.int (Int32.ofNat len), .int (Int32.ofNat 0), .ref s.heap.size, .int (Int32.ofNat o), .ref b])) rfl (by rw [hml]; rfl) c5 (argsL := [.ref b, .int (Int32.ofNat o), .ref s.heap.size, .int (Int32.ofNat 0), .int (Int32.ofNat len)]) (rest := []) rfl rfl (by show 2 * 0 + 0 ≤ _; decide) (hb hbytes d9) (⟨rfl, hA3, ba3, hne, l1, by rw [bs3]; simp, hp⟩)
  obtain ⟨rfl, B6, p6, f6⟩ := E6
  have c7 : Steps p.tables e below (s₁.setTop (entryFrame m #[.ref b, .int (Int32.ofNat o), .int (Int32.ofNat len)] 6)) (T6.setTop (mkF m 12 #[.val (.ref b), .val (.int (Int32.ofNat o)), .val (.int (Int32.ofNat len)), .val (.ref s.heap.size), .unset, .unset] [.int (Int32.ofNat len)])) := g6
  have c8 : Steps p.tables e below (s₁.setTop (entryFrame m #[.ref b, .int (Int32.ofNat o), .int (Int32.ofNat len)] 6)) (T6.setTop (mkF m 58 #[.val (.ref b), .val (.int (Int32.ofNat o)), .val (.int (Int32.ofNat len)), .val (.ref s.heap.size), .val (.int (Int32.ofNat len)), .unset] [.ref s.heap.size])) := c7.trans (by
    refine XS.istore X6.here hexec rfl (hb hbytes d12) rfl rfl ?_
    refine XS.iload X6.here hexec rfl (hb hbytes d14) rfl ?_
    refine XS.iloadN X6.here hexec rfl (hb hbytes d16) rfl ?_
    refine XS.icmpYes X6.here hexec rfl (pc0 := 17) rfl (hb hbytes d17) rfl (ii_eq_t rfl) (by decide) rfl ?_
    refine XS.aloadN X6.here hexec rfl (hb hbytes d57) rfl rfl ?_
    exact Steps.refl _)
  have X8 := X6.wide (L' := []) (cells' := 1) (slots' := len) (fun x hx hlt => by
    simp only [List.nil_append, copyLocs, List.mem_map, List.mem_range] at hx
    obtain ⟨i, -, rfl⟩ := hx
    exact absurd hlt (Nat.lt_irrefl _)) (Nat.le_refl _) (by omega)
  exact ⟨T6, some (.ref s.heap.size), _, _, _, X8, rfl, rfl, rfl, (fun h => by cases h), ⟨⟨rfl, B6, ba3.like (X3.warmed.alike.symm.trans X6.warmed.alike) p6.1 f6.1 f6.2.1 f6.2.2.1, f6.2.1.trans bv3, by rw [X6.warmed.alike.findClass, f6.1]; exact bf3, by rw [f6.2.2.1, bs3]; simp, fun j hj => by rw [f6.2.2.2 j, if_pos (by omega)]; rfl, kp3.put p6 (Nat.le_refl _)⟩, by rw [p6.2.2, bh3, hh0]; simp⟩, fun fs hl => c8.trans (X8.areturnOut hexec rfl hret rfl (hb hbytes d58) hl)⟩
end Cmp3
namespace CodL
def yN : MethodName := ⟨"java/lang/StringUTF16", "coderFromArrayLen", "([BI)B"⟩
abbrev yB : ByteArray := jdk_52_method_15_code
theorem d0 : decode yB 0 = .ok (.iload_n 1, 1) := by decide +kernel
theorem d1 : decode yB 1 = .ok (.aload_n 0, 1) := by decide +kernel
theorem d2 : decode yB 2 = .ok (.arraylength, 1) := by decide +kernel
theorem d3 : decode yB 3 = .ok (.isub, 1) := by decide +kernel
theorem d4 : decode yB 4 = .ok (.bipush 31, 2) := by decide +kernel
theorem d6 : decode yB 6 = .ok (.iushr, 1) := by decide +kernel
theorem d7 : decode yB 7 = .ok (.i2b, 1) := by decide +kernel
theorem d8 : decode yB 8 = .ok (.ireturn, 1) := by decide +kernel
def site : List Cond := []
def tab : Cond := tabOf yN yB 2 (some .byte) site
def P (d : Addr) (B : Cell) (args : Array Value) (s : State) : Prop := args = #[.ref d, .int (Int32.ofNat B.slots.size)] ∧ Arr .byte d B s
def E (r : Option Value) (s u : State) : Prop := XT.PureE (some (.int 0)) r s u
/-- an array as long as the number of chars: LATIN1 -/
theorem law (l : Launch) (d : Addr) (B : Cell) : Law l yN 2 2 0 0 yB 2 (some .byte) site (P d B) E [] 0 0 := by
  refine Law.of_walk (plainFor_of_name (by decide +kernel)) (by decide +kernel) (by decide +kernel) (by decide) (fun _ _ h => by rw [h.1]; rfl) (fun _ U U' hal hh h => ⟨h.1, h.2.mv hal hh⟩) (fun r U U' V V' h1 hal h2 h => XT.PureE.mv r U U' V V' h1 hal h2 h) ?_
  intro p e s m args below meth c s₁ X0 hexec hbytes hml hret hlk hnm hown hh0 W hP
  obtain ⟨rfl, hB⟩ := hP
  have hB0 := hB.mv X0.warmed.alike hh0
  have c1 : Steps p.tables e below (s₁.setTop (entryFrame m #[.ref d, .int (Int32.ofNat B.slots.size)] 2)) (s₁.setTop (mkF m 0 #[.val (.ref d), .val (.int (Int32.ofNat B.slots.size))] [])) := entry rfl
  have c2 : Steps p.tables e below (s₁.setTop (entryFrame m #[.ref d, .int (Int32.ofNat B.slots.size)] 2)) (s₁.setTop (mkF m 2 #[.val (.ref d), .val (.int (Int32.ofNat B.slots.size))] [.ref d, .int (Int32.ofNat B.slots.size)])) := c1.trans (by
    refine XS.iloadN X0.here hexec rfl (hb hbytes d0) rfl ?_
    refine XS.aloadN X0.here hexec rfl (hb hbytes d1) rfl rfl ?_
    exact Steps.refl _)
  have c3 : Steps p.tables e below (s₁.setTop (entryFrame m #[.ref d, .int (Int32.ofNat B.slots.size)] 2)) (s₁.setTop (mkF m 8 #[.val (.ref d), .val (.int (Int32.ofNat B.slots.size))] [.int (lo8 (ushr (Int32.ofNat B.slots.size - Int32.ofNat B.slots.size) 31))])) := c2.trans (by
    refine X0.alen hexec hB0 rfl rfl (hb hbytes d2) ?_
    refine XS.isub X0.here hexec rfl (hb hbytes d3) rfl ?_
    refine bipushV X0.here hexec rfl 31 (hb hbytes d4) (by decide) ?_
    refine iushr X0.here hexec rfl (hb hbytes d6) rfl ?_
    refine i2b X0.here hexec rfl (hb hbytes d7) rfl ?_
    exact Steps.refl _)
  have e0 : lo8 (ushr (Int32.ofNat B.slots.size - Int32.ofNat B.slots.size) 31) = 0 := by rw [Int32.sub_self]; decide
  rw [e0] at c3
  exact ⟨s₁, some (.int 0), _, _, _, X0, rfl, rfl, rfl, (fun h => by cases h), ⟨rfl, hh0⟩, fun fs hl => c3.trans (X0.ireturnOut hexec hret rfl (Or.inr (Or.inr (Or.inl rfl))) (hb hbytes d8) hl)⟩
end CodL
/-- the String at a is Latin-1 over a new byte[] (the heap's one new cell): the low bytes of the len chars of A from o on; every cell but a is kept -/
def Got (a : Addr) (D : Cell) (fV fC : Field) (A : Cell) (o len : Nat) (r : Option Value) (s u : State) : Prop := r = none ∧ ∃ D' V : Cell, Blank "java/lang/String" a D' u ∧ Same D D' [fV.slot, fC.slot] ∧ D'.slots[fV.slot]? = some (.ref s.heap.size) ∧ D'.slots[fC.slot]? = some (.int 0) ∧ Arr .byte s.heap.size V u ∧ V.vm = .none ∧ u.vm.findClass "[B" = some V.cls ∧ V.slots.size = len ∧ (∀ j, j < len → V.slots[j]? = some (.int (lo8 (cv A (o + j))))) ∧ (∀ (y : Addr) (c : Cell), y ≠ a → s.heap[y]? = some c → u.heap[y]? = some c) ∧ u.heap.size = s.heap.size + 1
theorem Got.mv {a : Addr} {D A : Cell} {fV fC : Field} {o len : Nat} : ∀ r (U U' V V' : State), U'.heap = U.heap → V.vm.Alike V'.vm → V'.heap = V.heap → Got a D fV fC A o len r U V → Got a D fV fC A o len r U' V' :=
  fun r U U' V V' h1 hal h2 ⟨e0, D', X, a1, a2, a3, a4, a5, a6, a7, a8, a9, a10, a11⟩ => ⟨e0, D', X, a1.mv hal h2, a2, by rw [h1]; exact a3, a4, by rw [h1]; exact a5.mv hal h2, a6, by rw [hal.findClass]; exact a7, a8, a9, by rw [h1, h2]; exact a10, by rw [h1, h2]; exact a11⟩
namespace New4
def yN : MethodName := ⟨"java/lang/String", "<init>", "([CIILjava/lang/Void;)V"⟩
abbrev yB : ByteArray := jdk_42_method_149_code
theorem d0 : decode yB 0 = .ok (.aload_n 0, 1) := by decide +kernel
theorem d1 : decode yB 1 = .ok (.invokespecial 1, 3) := by decide +kernel
theorem d4 : decode yB 4 = .ok (.iload_n 3, 1) := by decide +kernel
theorem d5 : decode yB 5 = .ok (.ifCond (.ne) 22, 3) := by decide +kernel
theorem d27 : decode yB 27 = .ok (.getstatic 38, 3) := by decide +kernel
theorem d30 : decode yB 30 = .ok (.ifCond (.eq) 28, 3) := by decide +kernel
theorem d33 : decode yB 33 = .ok (.aload_n 1, 1) := by decide +kernel
theorem d34 : decode yB 34 = .ok (.iload_n 2, 1) := by decide +kernel
theorem d35 : decode yB 35 = .ok (.iload_n 3, 1) := by decide +kernel
theorem d36 : decode yB 36 = .ok (.invokestatic 177, 3) := by decide +kernel
theorem d39 : decode yB 39 = .ok (.astore 5, 2) := by decide +kernel
theorem d41 : decode yB 41 = .ok (.aload_n 0, 1) := by decide +kernel
theorem d42 : decode yB 42 = .ok (.aload 5, 2) := by decide +kernel
theorem d44 : decode yB 44 = .ok (.iload_n 3, 1) := by decide +kernel
theorem d45 : decode yB 45 = .ok (.invokestatic 47, 3) := by decide +kernel
theorem d48 : decode yB 48 = .ok (.putfield 15, 3) := by decide +kernel
theorem d51 : decode yB 51 = .ok (.aload_n 0, 1) := by decide +kernel
theorem d52 : decode yB 52 = .ok (.aload 5, 2) := by decide +kernel
theorem d54 : decode yB 54 = .ok (.putfield 9, 3) := by decide +kernel
theorem d57 : decode yB 57 = .ok (.return_, 1) := by decide +kernel
def site : List Cond := [.fieldLink "java/lang/String" 38 "java/lang/String" "COMPACT_STRINGS" "Z", Cmp3.tab, CodL.tab, .laysFinal "java/lang/String" "java/lang/String" "value" "[B", .fieldLink "java/lang/String" 9 "java/lang/String" "value" "[B", .laysFinal "java/lang/String" "java/lang/String" "coder" "B", .fieldLink "java/lang/String" 15 "java/lang/String" "coder" "B"] ++ objW "java/lang/String" 1 ++ staticW "java/lang/String" 177 Cmp3.yN ++ staticW "java/lang/String" 47 CodL.yN
def tab : Cond := tabOf yN yB 6 none site
def P (a : Addr) (D : Cell) (fV fC : Field) (b : Addr) (A : Cell) (z : Int32) (o len : Nat) (args : Array Value) (s : State) : Prop := args = #[.ref a, .ref b, .int (Int32.ofNat o), .int (Int32.ofNat len), .null] ∧ Blank "java/lang/String" a D s ∧ Found "java/lang/String" "value" "[B" fV s ∧ Found "java/lang/String" "coder" "B" fC s ∧ Ch b A s ∧ StaticIs s "java/lang/String" "COMPACT_STRINGS" "Z" (.int z) ∧ ¬ z = 0 ∧ 0 < len ∧ o + len ≤ A.slots.size ∧ len ≤ 536870912 ∧ ∀ i, i < len → ¬ 255 < cv A (o + i)
def E (a : Addr) (D : Cell) (fV fC : Field) (A : Cell) (o len : Nat) (r : Option Value) (s u : State) : Prop := Got a D fV fC A o len r s u
/-- len > 0, no char of the range above 255: a Latin-1 String of their low bytes -/
theorem law (l : Launch) (a : Addr) (D : Cell) (fV fC : Field) (b : Addr) (A : Cell) (z : Int32) (o len : Nat) : Law l yN 5 4 2 35 yB 6 none site (P a D fV fC b A z o len) (E a D fV fC A o len) [⟨a, fC.slot⟩, ⟨a, fV.slot⟩] 1 len := by
  refine Law.of_walk (plainFor_of_name (by decide +kernel)) (by decide +kernel) (by decide +kernel) (by decide) (fun _ _ h => by rw [h.1]; rfl) (fun _ U U' hal hh h => ⟨h.1, h.2.1.mv hal hh, h.2.2.1.al hal, h.2.2.2.1.al hal, h.2.2.2.2.1.mv hal hh, h.2.2.2.2.2.1.there hal hh, h.2.2.2.2.2.2⟩) (fun r U U' V V' h1 hal h2 h => Got.mv r U U' V V' h1 hal h2 h) ?_
  intro p e s m args below meth c s₁ X0 hexec hbytes hml hret hlk hnm hown hh0 W hP
  obtain ⟨rfl, hB, f1, f2, hA, s1, hz, l0, l1, l2, hp⟩ := hP
  have a31 := hA.1.2.2.2
  have c1 : Steps p.tables e below (s₁.setTop (entryFrame m #[.ref a, .ref b, .int (Int32.ofNat o), .int (Int32.ofNat len), .null] 6)) (s₁.setTop (mkF m 0 #[.val (.ref a), .val (.ref b), .val (.int (Int32.ofNat o)), .val (.int (Int32.ofNat len)), .val .null, .unset] [])) := entry rfl
  have c2 : Steps p.tables e below (s₁.setTop (entryFrame m #[.ref a, .ref b, .int (Int32.ofNat o), .int (Int32.ofNat len), .null] 6)) (s₁.setTop (mkF m 1 #[.val (.ref a), .val (.ref b), .val (.int (Int32.ofNat o)), .val (.int (Int32.ofNat len)), .val .null, .unset] [.ref a])) := c1.trans (by
    refine XS.aloadN X0.here hexec rfl (hb hbytes d0) rfl rfl ?_
    exact Steps.refl _)
  obtain ⟨T3, X3, q3, st3⟩ := X0.oinit hexec hown (wks W (objW "java/lang/String" 1)) (g := (mkF m 1 #[.val (.ref a), .val (.ref b), .val (.int (Int32.ofNat o)), .val (.int (Int32.ofNat len)), .val .null, .unset] [.ref a])) rfl (by rw [hml]; rfl) (rest := []) rfl (hb hbytes d1) (W := 0) (by show 2 * 0 + 0 ≤ _; decide) (Nat.le_of_ble_eq_true rfl) (Nat.le_of_ble_eq_true rfl)
  have hh3 := q3.trans hh0
  have c4 : Steps p.tables e below (s₁.setTop (entryFrame m #[.ref a, .ref b, .int (Int32.ofNat o), .int (Int32.ofNat len), .null] 6)) (T3.setTop (mkF m 27 #[.val (.ref a), .val (.ref b), .val (.int (Int32.ofNat o)), .val (.int (Int32.ofNat len)), .val .null, .unset] [])) := (c2.trans (st3 _ (Steps.refl _))).trans (by
    refine XS.iloadN X3.here hexec rfl (hb hbytes d4) rfl ?_
    refine XS.ifYes X3.here hexec rfl (pc0 := 5) rfl (hb hbytes d5) rfl (i0_ne_t (nz32 (by omega) l0)) (by decide) rfl ?_
    exact Steps.refl _)
  obtain ⟨T5, X5, q5, st5⟩ := X3.sget hexec hown (wk W (.fieldLink "java/lang/String" 38 "java/lang/String" "COMPACT_STRINGS" "Z")) s1 (fun _ _ h => by rw [hh3]; exact h) (g := (mkF m 27 #[.val (.ref a), .val (.ref b), .val (.int (Int32.ofNat o)), .val (.int (Int32.ofNat len)), .val .null, .unset] [])) rfl (hb hbytes d27)
  have hh5 := q5.trans hh3
  have c6 : Steps p.tables e below (s₁.setTop (entryFrame m #[.ref a, .ref b, .int (Int32.ofNat o), .int (Int32.ofNat len), .null] 6)) (T5.setTop (mkF m 30 #[.val (.ref a), .val (.ref b), .val (.int (Int32.ofNat o)), .val (.int (Int32.ofNat len)), .val .null, .unset] [.int z])) := c4.trans (st5 _ (Steps.refl _))
  have c7 : Steps p.tables e below (s₁.setTop (entryFrame m #[.ref a, .ref b, .int (Int32.ofNat o), .int (Int32.ofNat len), .null] 6)) (T5.setTop (mkF m 36 #[.val (.ref a), .val (.ref b), .val (.int (Int32.ofNat o)), .val (.int (Int32.ofNat len)), .val .null, .unset] [.int (Int32.ofNat len), .int (Int32.ofNat o), .ref b])) := c6.trans (by
    refine XS.ifNo X5.here hexec rfl (hb hbytes d30) rfl (i0_eq_f hz) ?_
    refine XS.aloadN X5.here hexec rfl (hb hbytes d33) rfl rfl ?_
    refine XS.iloadN X5.here hexec rfl (hb hbytes d34) rfl ?_
    refine XS.iloadN X5.here hexec rfl (hb hbytes d35) rfl ?_
    exact Steps.refl _)
  obtain ⟨v8, T8, X8, E8, g8⟩ := X5.callS hexec (Cmp3.law l b A o len) hown (wks W (staticW "java/lang/String" 177 Cmp3.yN)) (wk W Cmp3.tab) (W := 0) (Nat.le_of_ble_eq_true rfl) (Nat.le_of_ble_eq_true rfl) (Nat.le_refl _) (by show 0 + len ≤ len; omega) (g := (mkF m 36 #[.val (.ref a), .val (.ref b), .val (.int (Int32.ofNat o)), .val (.int (Int32.ofNat len)), .val .null, .unset] [.int (Int32.ofNat len), .int (Int32.ofNat o), .ref b])) rfl (by rw [hml]; rfl) c7 (argsL := [.ref b, .int (Int32.ofNat o), .int (Int32.ofNat len)]) (rest := []) rfl rfl (by show 2 * 0 + 0 ≤ _; decide) (hb hbytes d36) (⟨rfl, hA.mv X5.warmed.alike hh5, l1, l2, hp⟩)
  obtain ⟨e8, z8⟩ := E8
  obtain ⟨rfl, N, n1, n2, n3, n4, n5, n6⟩ := NewArr.mv _ T5 s _ _ hh5.symm (Vm.Alike.refl _) rfl e8
  rw [hh5] at z8
  have hB1 := hB.keep X8.warmed.alike (n6 _ _ hB.1)
  have hne : s.heap.size ≠ a := (Nat.ne_of_lt (Array.getElem?_eq_some_iff.mp hB.1).1).symm
  have c9 : Steps p.tables e below (s₁.setTop (entryFrame m #[.ref a, .ref b, .int (Int32.ofNat o), .int (Int32.ofNat len), .null] 6)) (T8.setTop (mkF m 39 #[.val (.ref a), .val (.ref b), .val (.int (Int32.ofNat o)), .val (.int (Int32.ofNat len)), .val .null, .unset] [.ref s.heap.size])) := g8
  have c10 : Steps p.tables e below (s₁.setTop (entryFrame m #[.ref a, .ref b, .int (Int32.ofNat o), .int (Int32.ofNat len), .null] 6)) (T8.setTop (mkF m 45 #[.val (.ref a), .val (.ref b), .val (.int (Int32.ofNat o)), .val (.int (Int32.ofNat len)), .val .null, .val (.ref s.heap.size)] [.int (Int32.ofNat N.slots.size), .ref s.heap.size, .ref a])) := by
    have hc : Steps p.tables e below (s₁.setTop (entryFrame m #[.ref a, .ref b, .int (Int32.ofNat o), .int (Int32.ofNat len), .null] 6)) (T8.setTop (mkF m 45 #[.val (.ref a), .val (.ref b), .val (.int (Int32.ofNat o)), .val (.int (Int32.ofNat len)), .val .null, .val (.ref s.heap.size)] [.int (Int32.ofNat len), .ref s.heap.size, .ref a])) := c9.trans (by
      refine XS.astore X8.here hexec rfl (hb hbytes d39) rfl rfl rfl ?_
      refine XS.aloadN X8.here hexec rfl (hb hbytes d41) rfl rfl ?_
      refine XS.aload X8.here hexec rfl (hb hbytes d42) rfl rfl ?_
      refine XS.iloadN X8.here hexec rfl (hb hbytes d44) rfl ?_
      exact Steps.refl _)
    rw [n4]; exact hc
  obtain ⟨v11, T11, X11, E11, g11⟩ := X8.callS hexec (CodL.law l s.heap.size N) hown (wks W (staticW "java/lang/String" 47 CodL.yN)) (wk W CodL.tab) (W := 1) (Nat.le_of_ble_eq_true rfl) (Nat.le_of_ble_eq_true rfl) (Nat.le_refl _) (by show 0 + len + 0 ≤ len; omega) (g := (mkF m 45 #[.val (.ref a), .val (.ref b), .val (.int (Int32.ofNat o)), .val (.int (Int32.ofNat len)), .val .null, .val (.ref s.heap.size)] [.int (Int32.ofNat N.slots.size), .ref s.heap.size, .ref a])) rfl (by rw [hml]; rfl) c10 (argsL := [.ref s.heap.size, .int (Int32.ofNat N.slots.size)]) (rest := [.ref a]) rfl rfl (by show 2 * 0 + (1 + 0) ≤ _; decide) (hb hbytes d45) (⟨rfl, n1⟩)
  obtain ⟨rfl, q11⟩ := E11
  have hB11 := hB1.mv (X8.warmed.alike.symm.trans X11.warmed.alike) q11
  have c12 : Steps p.tables e below (s₁.setTop (entryFrame m #[.ref a, .ref b, .int (Int32.ofNat o), .int (Int32.ofNat len), .null] 6)) (T11.setTop (mkF m 48 #[.val (.ref a), .val (.ref b), .val (.int (Int32.ofNat o)), .val (.int (Int32.ofNat len)), .val .null, .val (.ref s.heap.size)] [.int 0, .ref a])) := g11
  obtain ⟨T13, X13, p13, bl13, sl13, st13⟩ := X11.finit hexec hown (wk W (.fieldLink "java/lang/String" 15 "java/lang/String" "coder" "B")) (Or.inr ⟨_, (wk W (.laysFinal "java/lang/String" "java/lang/String" "coder" "B"))⟩) (Or.inl ⟨rfl, hnm⟩) f2 (Or.inl rfl) hB11 (t := .byte) (by decide +kernel) rfl (g := (mkF m 48 #[.val (.ref a), .val (.ref b), .val (.int (Int32.ofNat o)), .val (.int (Int32.ofNat len)), .val .null, .val (.ref s.heap.size)] [.int 0, .ref a])) rfl (rest := []) rfl (hb hbytes d48)
  have c14 : Steps p.tables e below (s₁.setTop (entryFrame m #[.ref a, .ref b, .int (Int32.ofNat o), .int (Int32.ofNat len), .null] 6)) (T13.setTop (mkF m 54 #[.val (.ref a), .val (.ref b), .val (.int (Int32.ofNat o)), .val (.int (Int32.ofNat len)), .val .null, .val (.ref s.heap.size)] [.ref s.heap.size, .ref a])) := (c12.trans (st13 _ (Steps.refl _))).trans (by
    refine XS.aloadN X13.here hexec rfl (hb hbytes d51) rfl rfl ?_
    refine XS.aload X13.here hexec rfl (hb hbytes d52) rfl rfl ?_
    exact Steps.refl _)
  obtain ⟨T15, X15, p15, bl15, sl15, st15⟩ := X13.finit hexec hown (wk W (.fieldLink "java/lang/String" 9 "java/lang/String" "value" "[B")) (Or.inr ⟨_, (wk W (.laysFinal "java/lang/String" "java/lang/String" "value" "[B"))⟩) (Or.inl ⟨rfl, hnm⟩) f1 (Or.inl rfl) bl13 (t := (.array .byte)) (by decide +kernel) rfl (g := (mkF m 54 #[.val (.ref a), .val (.ref b), .val (.int (Int32.ofNat o)), .val (.int (Int32.ofNat len)), .val .null, .val (.ref s.heap.size)] [.ref s.heap.size, .ref a])) rfl (rest := []) rfl (hb hbytes d54)
  have c16 : Steps p.tables e below (s₁.setTop (entryFrame m #[.ref a, .ref b, .int (Int32.ofNat o), .int (Int32.ofNat len), .null] 6)) (T15.setTop (mkF m 57 #[.val (.ref a), .val (.ref b), .val (.int (Int32.ofNat o)), .val (.int (Int32.ofNat len)), .val .null, .val (.ref s.heap.size)] [])) := c14.trans (st15 _ (Steps.refl _))
  have ap := apart (Or.inr ⟨_, (wk W (.laysFinal "java/lang/String" "java/lang/String" "value" "[B"))⟩) (Or.inr ⟨_, (wk W (.laysFinal "java/lang/String" "java/lang/String" "coder" "B"))⟩) f1 f2 (t₁ := .array .byte) (t₂ := .byte) (by decide +kernel) (by decide +kernel) (by decide)
  have al := X8.warmed.alike.symm.trans X15.warmed.alike
  have n7 : T11.heap[s.heap.size]? = some N := by rw [q11]; exact n1.1
  exact ⟨T15, none, _, _, _, X15, by simp, rfl, by omega, (fun _ => rfl), ⟨rfl, _, N, bl15, ((Same.refl D _).set _ (by simp)).set _ (by simp), sl15, (Cell.slots_setSlot_ne _ ap).trans sl13, n1.keep al (p15.other hne (p13.other hne n7)), n2, by rw [al.findClass]; exact n3, n4, n5, fun y c h1 h2 => p15.other h1 (p13.other h1 (by rw [q11]; exact n6 y c h2)), by rw [p15.2.2, p13.2.2, q11]; exact z8⟩, fun fs hl => c16.trans (X15.returnOut hexec hret (hb hbytes d57) hl)⟩
end New4
namespace New1
def yN : MethodName := ⟨"java/lang/String", "<init>", "([C)V"⟩
abbrev yB : ByteArray := jdk_42_method_3_code
theorem d0 : decode yB 0 = .ok (.aload_n 0, 1) := by decide +kernel
theorem d1 : decode yB 1 = .ok (.aload_n 1, 1) := by decide +kernel
theorem d2 : decode yB 2 = .ok (.iconst 0, 1) := by decide +kernel
theorem d3 : decode yB 3 = .ok (.aload_n 1, 1) := by decide +kernel
theorem d4 : decode yB 4 = .ok (.arraylength, 1) := by decide +kernel
theorem d5 : decode yB 5 = .ok (.aconst_null, 1) := by decide +kernel
theorem d6 : decode yB 6 = .ok (.invokespecial 27, 3) := by decide +kernel
theorem d9 : decode yB 9 = .ok (.return_, 1) := by decide +kernel
def site : List Cond := [New4.tab] ++ initW "java/lang/String" 27 New4.yN
def tab : Cond := tabOf yN yB 2 none site
def P (a : Addr) (D : Cell) (fV fC : Field) (b : Addr) (A : Cell) (z : Int32) (args : Array Value) (s : State) : Prop := args = #[.ref a, .ref b] ∧ Blank "java/lang/String" a D s ∧ Found "java/lang/String" "value" "[B" fV s ∧ Found "java/lang/String" "coder" "B" fC s ∧ Ch b A s ∧ StaticIs s "java/lang/String" "COMPACT_STRINGS" "Z" (.int z) ∧ ¬ z = 0 ∧ 0 < A.slots.size ∧ A.slots.size ≤ 536870912 ∧ ∀ i, i < A.slots.size → ¬ 255 < cv A i
def E (a : Addr) (D : Cell) (fV fC : Field) (A : Cell) (r : Option Value) (s u : State) : Prop := Got a D fV fC A 0 A.slots.size r s u
/-- new String(chars), not empty, no char above 255: a Latin-1 String of their low bytes -/
theorem law (l : Launch) (a : Addr) (D : Cell) (fV fC : Field) (b : Addr) (A : Cell) (z : Int32) : Law l yN 2 1 3 52 yB 2 none site (P a D fV fC b A z) (E a D fV fC A) [⟨a, fC.slot⟩, ⟨a, fV.slot⟩] 1 A.slots.size := by
  refine Law.of_walk (plainFor_of_name (by decide +kernel)) (by decide +kernel) (by decide +kernel) (by decide) (fun _ _ h => by rw [h.1]; rfl) (fun _ U U' hal hh h => ⟨h.1, h.2.1.mv hal hh, h.2.2.1.al hal, h.2.2.2.1.al hal, h.2.2.2.2.1.mv hal hh, h.2.2.2.2.2.1.there hal hh, h.2.2.2.2.2.2⟩) (fun r U U' V V' h1 hal h2 h => Got.mv r U U' V V' h1 hal h2 h) ?_
  intro p e s m args below meth c s₁ X0 hexec hbytes hml hret hlk hnm hown hh0 W hP
  obtain ⟨rfl, hB, f1, f2, hA, s1, hz, l0, l2, hp⟩ := hP
  have c1 : Steps p.tables e below (s₁.setTop (entryFrame m #[.ref a, .ref b] 2)) (s₁.setTop (mkF m 0 #[.val (.ref a), .val (.ref b)] [])) := entry rfl
  have c2 : Steps p.tables e below (s₁.setTop (entryFrame m #[.ref a, .ref b] 2)) (s₁.setTop (mkF m 6 #[.val (.ref a), .val (.ref b)] [.null, .int (Int32.ofNat A.slots.size), .int 0, .ref b, .ref a])) := c1.trans (by
    refine XS.aloadN X0.here hexec rfl (hb hbytes d0) rfl rfl ?_
    refine XS.aloadN X0.here hexec rfl (hb hbytes d1) rfl rfl ?_
    refine iconstV X0.here hexec rfl 0 (hb hbytes d2) (by decide) ?_
    refine XS.aloadN X0.here hexec rfl (hb hbytes d3) rfl rfl ?_
    refine X0.alen hexec (hA.1.mv X0.warmed.alike hh0) rfl rfl (hb hbytes d4) ?_
    refine XS.aconstNull X0.here hexec rfl (hb hbytes d5) ?_
    exact Steps.refl _)
  obtain ⟨v3, T3, X3, E3, g3⟩ := X0.callN hexec (New4.law l a D fV fC b A z 0 A.slots.size) rfl hown (wks W (initW "java/lang/String" 27 New4.yN)) (W New4.tab (by simp only [site, List.mem_cons, List.mem_append, true_or, or_true])) (W := 0) (Nat.le_of_ble_eq_true rfl) (Nat.le_of_ble_eq_true rfl) (Nat.le_refl _) (by show 0 + A.slots.size ≤ A.slots.size; omega) (g := (mkF m 6 #[.val (.ref a), .val (.ref b)] [.null, .int (Int32.ofNat A.slots.size), .int (Int32.ofNat 0), .ref b, .ref a])) rfl (by rw [hml]; rfl) c2 (argsL := [.ref b, .int (Int32.ofNat 0), .int (Int32.ofNat A.slots.size), .null]) (rest := []) rfl rfl (by show 2 * 0 + 0 ≤ _; decide) (hb hbytes d6) (⟨rfl, hB.mv X0.warmed.alike hh0, f1.al X0.warmed.alike, f2.al X0.warmed.alike, hA.mv X0.warmed.alike hh0, s1.there X0.warmed.alike hh0, hz, l0, by omega, l2, fun i hi => by rw [Nat.zero_add]; exact hp i hi⟩)
  have e0 := Got.mv _ s₁ s _ _ hh0.symm (Vm.Alike.refl _) rfl E3
  obtain rfl := e0.1
  have c4 : Steps p.tables e below (s₁.setTop (entryFrame m #[.ref a, .ref b] 2)) (T3.setTop (mkF m 9 #[.val (.ref a), .val (.ref b)] [])) := g3
  exact ⟨T3, none, _, _, _, X3, by simp, rfl, by omega, (fun _ => rfl), e0, fun fs hl => c4.trans (X3.returnOut hexec hret (hb hbytes d9) hl)⟩
theorem pays {l : Launch} {R : Room} {p : Program} {e : Env} {below : List Frame} {s : State} {sargs : Array Value} {len W : Nat} (a : Addr) (D : Cell) (fV fC : Field) (b : Addr) (A : Cell) (z : Int32) (htab : tab.before sargs s = true) (hfr : 4 ≤ R.frames) (hlo : W + 65 ≤ R.locals) :
    Back l R p e below s sargs yN len W (fun A₁ a₁ => A₁.cells + 1 ≤ R.cells ∧ A₁.slots + A.slots.size ≤ R.slots ∧ P a D fV fC b A z a₁ A₁.U) (fun A₁ _ v₁ B₁ => E a D fV fC A v₁ A₁.U B₁.U ∧ B₁.locs = A₁.locs ++ [⟨a, fC.slot⟩, ⟨a, fV.slot⟩] ∧ B₁.cells = A₁.cells + 1 ∧ B₁.slots = A₁.slots + A.slots.size) :=
  (law l a D fV fC b A z).pays htab hfr (by omega)
end New1
/-- the byte, read back as charAt reads it, is the char -/
theorem lo8_mask {x : Int32} (h0 : ¬ x < 0) (h1 : ¬ 255 < x) : lo8 x &&& 255 = x := by
  have t : ∀ k : Fin 256, lo8 (Int32.ofNat k.val) &&& 255 = Int32.ofNat k.val := by decide +kernel
  rw [Int32.lt_iff_toInt_lt] at h0 h1
  have e0 : (0 : Int32).toInt = 0 := rfl
  have e1 : (255 : Int32).toInt = 255 := rfl
  obtain ⟨k, hk⟩ : ∃ k : Nat, x.toInt = k := ⟨x.toInt.toNat, by omega⟩
  have hx : x = Int32.ofNat k := Int32.toInt_inj.mp (by rw [hk, Int32.toInt_ofNat_small (by omega)])
  rw [hx]
  exact t ⟨k, by omega⟩
end StrChars
namespace StrChars.Road
open Jvm Sem ClassFile Op Lib Jvm.Stand Jvm.Free Jvm.Free.XT
open Jvm.Lib.Cold (StaticIs)
abbrev ST : String := "java/lang/String"
/-- every table word that New1's law asks, flat -/
abbrev words : List Jvm.Cond := [.code New1.yN New1.yB 2 none, .initialized ST, .methodLink ST 27 New4.yN, .instanceMethod New4.yN,
  .code New4.yN New4.yB 6 none, .fieldLink ST 38 ST "COMPACT_STRINGS" "Z", .laysFinal ST ST "value" "[B", .fieldLink ST 9 ST "value" "[B", .laysFinal ST ST "coder" "B", .fieldLink ST 15 ST "coder" "B",
  .methodLink ST 1 Lib.objectInit, .instanceMethod Lib.objectInit, .code Lib.objectInit ⟨#[0xb1]⟩ 1 none, .methodLink ST 177 Cmp3.yN, .static Cmp3.yN, .methodLink ST 47 CodL.yN, .static CodL.yN,
  .code Cmp3.yN Cmp3.yB 6 (some (.array .byte)), .initialized U16, .arrayClass .byte, .methodLink U16 115 Cmp5.yN, .static Cmp5.yN, .code Cmp5.yN Cmp5.yB 7 (some .int), .code CodL.yN CodL.yB 2 (some .byte)]
theorem tab_of {a : Array Value} {s : State} (h : ∀ w ∈ words, w.before a s = true) : New1.tab.before a s = true := by
  have h5 : Cmp5.tab.before a s = true := unparts (wk h (.code Cmp5.yN Cmp5.yB 7 (some .int))) (wks h (.initialized Cmp5.yN.cls :: Cmp5.site))
  have hc : CodL.tab.before a s = true := unparts (wk h (.code CodL.yN CodL.yB 2 (some .byte))) (wks h (.initialized CodL.yN.cls :: CodL.site))
  have q5 : ∀ w ∈ Cmp5.tab :: words, w.before a s = true := fun w hw => (List.mem_cons.mp hw).elim (fun e => e ▸ h5) (h w)
  have h3 : Cmp3.tab.before a s = true := unparts (wk q5 (.code Cmp3.yN Cmp3.yB 6 (some (.array .byte)))) (wks q5 (.initialized Cmp3.yN.cls :: Cmp3.site))
  have q3 : ∀ w ∈ Cmp3.tab :: CodL.tab :: words, w.before a s = true := fun w hw => (List.mem_cons.mp hw).elim (fun e => e ▸ h3) fun hw => (List.mem_cons.mp hw).elim (fun e => e ▸ hc) (h w)
  have h4 : New4.tab.before a s = true := unparts (wk q3 (.code New4.yN New4.yB 6 none)) (wks q3 (.initialized New4.yN.cls :: New4.site))
  have q4 : ∀ w ∈ New4.tab :: words, w.before a s = true := fun w hw => (List.mem_cons.mp hw).elim (fun e => e ▸ h4) (h w)
  exact unparts (wk q4 (.code New1.yN New1.yB 2 none)) (wks q4 (.initialized New1.yN.cls :: New1.site))
/-- the words ride from the start Z to the walk's own state -/
theorem moved {Z s : State} {a0 args : Array Value} (hZ : Z.Warmed39 s.vm) (hw : ∀ d ∈ words, d.before a0 Z = true) : ∀ d ∈ words, d.before args s = true := fun d hd => by
  have q := hw d hd
  have t : ∀ d ∈ words, d = .arrayClass .byte ∨ (d.onTables && d.keepsFace) = true := by decide +kernel
  rcases t d hd with rfl | t
  · exact RoadKit.mvA hZ q
  · exact RoadKit.mv hZ q t
/-- WHAT COMES BACK, over the tables of the start Z: h the heap at the call, h' behind it -/
def Q (Z : State) (x : Addr) (A : Cell) (h : Heap) (v : Option Value) (h' : Heap) (L : List Loc) : Prop := v = none ∧ (∀ y ∈ L, y.base = x) ∧ RoadKit.Keep h h' [x] ∧ h'.size = h.size + 1 ∧ RoadKit.Exa Z h' x ST ∧ RoadKit.Fld Z h' x ST "value" "[B" (.ref h.size) ∧ RoadKit.Fld Z h' x ST "coder" "B" (.int 0) ∧
  (∃ V : Cell, RoadKit.Arr Z h' h.size V .byte ∧ V.vm = .none ∧ Z.vm.findClass "[B" = some V.cls ∧ V.slots.size = A.slots.size ∧ ∀ j, j < A.slots.size → V.slots[j]? = some (.int (lo8 (cv A j)))) ∧
  ∀ (O n d : String) (w : Value), RoadKit.Fld Z h x O n d w → RoadKit.slotOf Z O n d ≠ RoadKit.slotOf Z ST "value" "[B" → RoadKit.slotOf Z O n d ≠ RoadKit.slotOf Z ST "coder" "B" → RoadKit.Fld Z h' x O n d w
/-- **new String(chars) AT A CALL, IN THE ROAD'S FORM**: for specialBack behind newO: x the fresh String, b the char[] with the cell A -/
theorem back {p : Program} {l : Launch} {e : Env} {R : Room} {s : State} {args : Array Value} {below : List Frame} {len W : Nat} {Z : State} {a0 : Array Value} {h : Heap} (hZ : Z.Warmed39 s.vm) (hw : ∀ d ∈ words, d.before a0 Z = true) {kI : Nat} (wi : (Jvm.Cond.instantiable ST kI).before a0 Z = true)
    {x b : Addr} {A : Cell} {z : Int32} {v0 c0 : Value} (E : RoadKit.Exa Z h x ST) (V : RoadKit.Fld Z h x ST "value" "[B" v0) (C : RoadKit.Fld Z h x ST "coder" "B" c0) (K : RoadKit.Arr Z h b A .char) (hty : Typed .char A) (S : RoadKit.Sta Z h ST "COMPACT_STRINGS" "Z" (.int z)) (hz : ¬ z = 0)
    (l0 : 0 < A.slots.size) (l2 : A.slots.size ≤ 536870912) (hp : ∀ i, i < A.slots.size → ¬ 255 < cv A i) (hfr : 4 ≤ R.frames) (hlo : W + 65 ≤ R.locals) :
    Back l R p e below s args New1.yN len W (fun P a => a = #[.ref x, .ref b] ∧ P.U.heap = h ∧ P.cells + 1 ≤ R.cells ∧ P.slots + A.slots.size ≤ R.slots)
      (fun P _ v B => ∃ L, Q Z x A h v B.U.heap L ∧ B.locs = P.locs ++ L ∧ B.cells = P.cells + 1 ∧ B.slots = P.slots + A.slots.size) := by
  intro m meth c P g ig mk a X hg hsize hdg hW hn hp'
  obtain ⟨rfl, rfl, r1, r2⟩ := hp'
  have al : Z.vm.Alike P.U.vm := hZ.alike.trans X.warmed.alike
  obtain ⟨D, cfV, kV, iV, fV, hD, gV, stV, knV, obV, asV, slV⟩ := id V
  obtain ⟨D', cfC, kC, iC, fC, hD', gC, stC, -, -, asC, slC⟩ := id C
  cases hD.symm.trans hD'
  obtain ⟨D2, kD, e1, e2, e3, e4, e5⟩ := id E
  cases hD.symm.trans e1
  obtain ⟨c2, k2, i1, i2, i3, -⟩ := Cond.instantiable_spec wi
  cases e2.symm.trans i1
  cases e3.symm.trans i2
  obtain ⟨kU, u1, u2⟩ := al.2.2 _ _ e3
  have hB : Blank ST x D P.U := ⟨hD, ⟨knV, fun q hq => by rw [hq] at obV; cases obV⟩, by rw [al.findClass]; exact e2, kU, u1, by rw [u2]; exact i3, by rw [u2]; exact e5 i3⟩
  have F1 : Found ST "value" "[B" fV P.U := ⟨SBG.found_only al ⟨cfV, kV, iV, gV⟩, stV⟩
  have F2 : Found ST "coder" "B" fC P.U := ⟨SBG.found_only al ⟨cfC, kC, iC, gC⟩, stC⟩
  have hA : Ch b A P.U := ⟨⟨K.1, State.isArrayOf_alike al K.2.1, K.2.2, by omega⟩, hty⟩
  have hS : StaticIs P.U ST "COMPACT_STRINGS" "Z" (.int z) := by
    obtain ⟨cfS, iS, kS, fS, st, cS, t1, t2, t3, t4, t5, t6, t7⟩ := S
    exact StaticIs.there (s := { Z with heap := P.U.heap }) ⟨cfS, iS, kS, fS, st, cS, t1, t2, t3, t4, t5, (fun q => by rw [q] at t6; cases t6), t7⟩ al rfl
  obtain ⟨v, B, X', ⟨⟨hv, E', V', q1, q2, q3, q4, q5, q6, q7, q8, q9, q10, q11⟩, hl, hc, hs⟩, st⟩ := New1.pays x D fV fC b A z (tab_of (moved hZ hw)) hfr hlo m meth c P g ig mk _ X hg hsize hdg hW hn ⟨r1, r2, rfl, hB, F1, F2, hA, hS, hz, l0, l2, hp⟩
  have al' : Z.vm.Alike B.U.vm := hZ.alike.trans X'.warmed.alike
  have hsz : E'.slots.size = D.slots.size := by
    obtain ⟨-, -, -, kB, w1, w2, w3⟩ := q1
    obtain ⟨kB', y1, y2⟩ := al'.2.2 _ _ e3
    rw [q2.2.1] at w1
    cases w1.symm.trans y1
    rw [w3, e5 i3, y2]
  refine ⟨v, B, X', ⟨_, ⟨hv, ?_, ⟨by omega, fun y cy hy hn' => q10 y cy (by simpa using hn') hy, fun y cy hy => ?_⟩, q11, ⟨E', _, q1.1, by rw [q2.2.1]; exact e2, by rw [q2.2.1]; exact e3, by rw [q2.1]; exact obV, fun _ => by rw [hsz]; exact e5 i3⟩,
    ⟨E', cfV, kV, iV, fV, q1.1, gV, stV, by rw [q2.1]; exact knV, by rw [q2.1]; exact obV, by rw [q2.2.1]; exact asV, q3⟩, ⟨E', cfC, kC, iC, fC, q1.1, gC, stC, by rw [q2.1]; exact knV, by rw [q2.1]; exact obV, by rw [q2.2.1]; exact asC, q4⟩,
    ⟨V', ⟨q5.1, State.isArrayOf_alike al'.symm q5.2.1, q5.2.2.1⟩, q6, by rw [← al'.findClass]; exact q7, q8, fun j hj => by have := q9 j hj; rwa [Nat.zero_add] at this⟩, fun O n d w F n1 n2 => ?_⟩, hl, hc, hs⟩, st⟩
  · intro y hy
    simp only [List.mem_cons, List.not_mem_nil, or_false] at hy
    rcases hy with rfl | rfl <;> rfl
  · by_cases q : y = x
    · subst q
      cases hD.symm.trans hy
      exact ⟨E', q1.1, q2.2.1, q2.1, hsz⟩
    · exact ⟨cy, q10 y cy q hy, rfl, rfl, rfl⟩
  · obtain ⟨D3, cf, k, i, f, g1, g2, g3, g4, g5, g6, g7⟩ := F
    cases hD.symm.trans g1
    simp only [RoadKit.slotOf, g2, gV, gC, Option.map_some, Option.getD_some] at n1 n2
    exact ⟨E', cf, k, i, f, q1.1, g2, g3, by rw [q2.1]; exact g4, by rw [q2.1]; exact g5, by rw [q2.2.1]; exact g6, by rw [q2.2.2 f.slot (by simp [n1, n2])]; exact g7⟩
end StrChars.Road
namespace StrChars.Road
open Jvm Sem ClassFile Op Lib Jvm.Stand Jvm.Free Jvm.Free.XT
/-- WHAT COMES BACK, the byte[] as a list of values -/
def QA (Z : State) (x : Addr) (zn : Int32) (cs : List Int32) (h : Heap) (v : Option Value) (h' : Heap) (L : List Loc) : Prop := v = none ∧ (∀ y ∈ L, y.base = x) ∧ RoadKit.Keep h h' [x] ∧ h'.size = h.size + 1 ∧ RoadKit.Exa Z h' x ST ∧ RoadKit.Fld Z h' x ST "value" "[B" (.ref h.size) ∧ RoadKit.Fld Z h' x ST "coder" "B" (.int 0) ∧
  (∃ kb, Z.vm.findClass "[B" = some kb ∧ RoadKit.Arv Z h' h.size kb .byte zn (cs.map fun c => .int (lo8 c)) (.int 0)) ∧
  ∀ (O n d : String) (w : Value), RoadKit.Fld Z h x O n d w → RoadKit.slotOf Z O n d ≠ RoadKit.slotOf Z ST "value" "[B" → RoadKit.slotOf Z O n d ≠ RoadKit.slotOf Z ST "coder" "B" → RoadKit.Fld Z h' x O n d w
/-- **new String(chars) AT A CALL, THE ARRAYS AS LISTS**: the char[] at b holds cs, not empty, no char above 255 -/
theorem backArv {p : Program} {l : Launch} {e : Env} {R : Room} {s : State} {args : Array Value} {below : List Frame} {len W : Nat} {Z : State} {a0 : Array Value} {h : Heap} (hZ : Z.Warmed39 s.vm) (hw : ∀ d ∈ words, d.before a0 Z = true) {kI : Nat} (wi : (Jvm.Cond.instantiable ST kI).before a0 Z = true)
    {x b : Addr} {k : ClassId} {zn z : Int32} {cs : List Int32} {dv v0 c0 : Value} (E : RoadKit.Exa Z h x ST) (V : RoadKit.Fld Z h x ST "value" "[B" v0) (C : RoadKit.Fld Z h x ST "coder" "B" c0) (K : RoadKit.Arv Z h b k .char zn (cs.map Value.int) dv) (S : RoadKit.Sta Z h ST "COMPACT_STRINGS" "Z" (.int z)) (hz : ¬ z = 0)
    (hlen : zn.toNatClampNeg = cs.length) (h0 : 0 < cs.length) (hbig : cs.length ≤ 536870912) (hall : ∀ c ∈ cs, ¬ 255 < c) (hfr : 4 ≤ R.frames) (hlo : W + 65 ≤ R.locals) :
    Back l R p e below s args New1.yN len W (fun P a => a = #[.ref x, .ref b] ∧ P.U.heap = h ∧ P.cells + 1 ≤ R.cells ∧ P.slots + cs.length ≤ R.slots)
      (fun P _ v B => ∃ L, QA Z x zn cs h v B.U.heap L ∧ B.locs = P.locs ++ L ∧ B.cells = P.cells + 1 ∧ B.slots = P.slots + cs.length) := by
  obtain ⟨A, K1, K2, K3, K4, K5, K6⟩ := K
  have e : A.slots.size = cs.length := K3.trans hlen
  have hat : ∀ (i : Nat) (hi : i < cs.length), A.slots[i]? = some (.int cs[i]) := fun i hi => by rw [K5 i (by omega)]; simp [List.getD_eq_getElem?_getD, hi]
  have hcv : ∀ (i : Nat) (hi : i < cs.length), cv A i = cs[i] := fun i hi => by unfold cv; rw [hat i hi]
  have hty : Typed .char A := fun i v hv => by
    have hi : i < A.slots.size := (Array.getElem?_eq_some_iff.mp hv).1
    have q := K5 i hi
    rw [hv] at q
    rw [Option.some.inj q]
    exact K6 i hi
  refine Back.mono (back hZ hw wi E V C K1 hty S hz (by omega) (by omega) (fun i hi => by rw [hcv i (by omega)]; exact hall _ (List.getElem_mem _)) hfr hlo) (fun P a hp => ⟨hp.1, hp.2.1, hp.2.2.1, by rw [e]; exact hp.2.2.2⟩) (fun P a v B hp hq => ?_)
  obtain ⟨L, ⟨q1, q2, q3, q4, q5, q6, q7, ⟨V', v1, v2, v3, v4, v5⟩, q9⟩, hl, hc, hs⟩ := hq
  refine ⟨L, ⟨q1, q2, q3, q4, q5, q6, q7, ⟨V'.cls, v3, V', v1, rfl, by rw [v4, e, hlen], K4, fun i hi => ?_, fun i hi => ?_⟩, q9⟩, hl, hc, by rw [hs, e]⟩
  · have hi' : i < cs.length := by omega
    rw [v5 i (by omega), hcv i hi']; simp [List.getD_eq_getElem?_getD, hi']
  · have hi' : i < cs.length := by omega
    simp only [List.getD_eq_getElem?_getD, List.getElem?_map, List.getElem?_eq_getElem hi', Option.map_some, Option.getD_some]
    exact fits_lo8 _
end StrChars.Road
namespace StrChars.Road
open Jvm Sem ClassFile Op Lib Jvm.Stand Jvm.Free Jvm.Free.XT
/-- WHAT COMES BACK, in the writer's own shape -/
def QV (Z : State) (x : Addr) (N : Int32) (bs : List Int32) (h : Heap) (n0 : Nat) (v : Option Value) (h' : Heap) (L : List Loc) : Prop := v = none ∧ RoadKit.Fr n0 L ∧ RoadKit.Keep h h' [x] ∧ RoadKit.Exa Z h' x ST ∧ RoadKit.Fld Z h' x ST "coder" "B" (.int 0) ∧
  ∃ (t : Addr) (kb : ClassId), n0 ≤ t ∧ h.size ≤ t ∧ ¬ t = x ∧ RoadKit.Fld Z h' x ST "value" "[B" (.ref t) ∧ RoadKit.Arv Z h' t kb .byte N (bs.map Value.int) (.int 0)
/-- **new String(chars) AT A CALL, FOR THE WRITER**: a char[] of n known ints, each 0 to 255 -/
theorem backV {p : Program} {l : Launch} {e : Env} {R : Room} {s : State} {args : Array Value} {below : List Frame} {len W : Nat} {Z : State} {a0 : Array Value} {h : Heap} (hZ : Z.Warmed39 s.vm) (hw : ∀ d ∈ words, d.before a0 Z = true) {kI : Nat} (wi : (Jvm.Cond.instantiable ST kI).before a0 Z = true)
    {x b : Addr} {kC : ClassId} {cs bs : List Int32} {d v0 c0 : Value} {z N : Int32} {n n0 : Nat} (hx0 : n0 ≤ x) (hh0 : n0 ≤ h.size) (E : RoadKit.Exa Z h x ST) (V : RoadKit.Fld Z h x ST "value" "[B" v0) (C : RoadKit.Fld Z h x ST "coder" "B" c0) (K : RoadKit.Arv Z h b kC .char N (cs.map Value.int) d) (S : RoadKit.Sta Z h ST "COMPACT_STRINGS" "Z" (.int z)) (hz : ¬ z = 0)
    (hn : cs.length = n) (hN : N = Int32.ofNat n) (l0 : 0 < n) (l2 : n ≤ 4000) (hp : ∀ c ∈ cs, ¬ c < 0 ∧ ¬ (255 : Int32) < c) (hb : bs = cs.map (fun c => c.toInt8.toInt32)) (hfr : 4 ≤ R.frames) (hlo : W + 65 ≤ R.locals) :
    Back l R p e below s args (⟨"java/lang/String", "<init>", "([C)V"⟩ : MethodName) len W (fun P a => a = #[.ref x, .ref b] ∧ P.U.heap = h ∧ P.cells + 1 ≤ R.cells ∧ P.slots + n ≤ R.slots)
      (fun P _ v B => ∃ L, QV Z x N bs h n0 v B.U.heap L ∧ B.locs = P.locs ++ L ∧ B.cells = P.cells + 1 ∧ B.slots = P.slots + n) := by
  subst hn hN hb
  refine Back.mono (backArv hZ hw wi E V C K S hz (n32 (by omega)) l0 (by omega) (fun c hc => (hp c hc).2) hfr hlo) (fun P a hp => hp) (fun P a v B hp hq => ?_)
  obtain ⟨L, ⟨q1, q2, q3, q4, q5, q6, q7, ⟨kb, v1, v2⟩, q9⟩, hl, hc, hs⟩ := hq
  exact ⟨L, ⟨q1, fun y hy => by rw [q2 y hy]; exact hx0, q3, q5, q7, h.size, kb, hh0, Nat.le_refl _, Nat.ne_of_gt E.lt, q6, by rw [List.map_map]; exact v2⟩, hl, hc, hs⟩
end StrChars.Road
namespace StrChars
open Jvm Sem ClassFile Op Lib Jvm.Stand Jvm.Free.XT Jvm.Free.ALB Jvm.Free.JM Jvm.Free
open Jvm.Lib.Cold (StaticIs)
def hi8 (x : Int32) : Int32 := lo8 (x >>> ((8 : Int32) &&& 31))
/-- what StringUTF16.getChar makes of two bytes -/
def pairCh (u v : Int32) : Int32 := (((u &&& 255) <<< ((0 : Int32) &&& 31)) ||| ((v &&& 255) <<< ((8 : Int32) &&& 31))).toUInt32.toUInt16.toUInt32.toInt32
theorem lo8_and (x : Int32) : (lo8 x &&& 255).toBitVec.toNat = x.toBitVec.toNat % 256 := by
  have h : (lo8 x).toBitVec = (x.toBitVec.signExtend 8).signExtend 32 := by rw [lo8, Int8.toBitVec_toInt32, Int32.toBitVec_toInt8]
  rw [Int32.toBitVec_and, BitVec.toNat_and, h]
  have e : ((x.toBitVec.signExtend 8).signExtend 32).toNat % 256 = x.toBitVec.toNat % 256 := by
    rw [BitVec.toNat_signExtend]
    have hlt := x.toBitVec.isLt
    simp only [BitVec.toNat_setWidth, BitVec.toNat_signExtend]
    split <;> split <;> omega
  rw [← e]
  exact Nat.and_two_pow_sub_one_eq_mod _ 8
theorem pair_says {c : Int32} (h0 : ¬ c < 0) (h1 : ¬ 65535 < c) : pairCh (lo8 c) (hi8 c) = c := by
  rw [Int32.lt_iff_toInt_lt] at h0 h1
  have e0 : (0 : Int32).toInt = 0 := rfl
  have e1 : (65535 : Int32).toInt = 65535 := rfl
  have hc : c.toInt = c.toBitVec.toNat := by
    have := c.toBitVec.isLt
    have e : c.toInt = c.toBitVec.toInt := rfl
    rw [e] at h0 h1
    rw [e]
    rw [BitVec.toInt_eq_toNat_cond] at h0 h1 ⊢
    split at h0 <;> split <;> omega
  have hn : c.toBitVec.toNat < 65536 := by omega
  have a1 := lo8_and c
  have a2 : (hi8 c &&& 255).toBitVec.toNat = c.toBitVec.toNat / 256 := by
    rw [hi8, lo8_and]
    have e : ((8 : Int32) &&& 31) = 8 := by decide
    rw [e, Int32.toBitVec_shiftRight]
    have e2 : ((8 : Int32).toBitVec.smod 32) = 8#32 := by decide
    rw [e2, BitVec.sshiftRight_eq', BitVec.toNat_sshiftRight_of_msb_false (by rw [BitVec.msb_eq_false_iff_two_mul_lt]; omega)]
    show c.toBitVec.toNat >>> 8 % 256 = _
    rw [Nat.shiftRight_eq_div_pow]
    omega
  unfold pairCh
  apply Int32.toBitVec_inj.mp
  apply BitVec.eq_of_toNat_eq
  have f0 : ((0 : Int32) &&& 31) = 0 := by decide
  have f8 : ((8 : Int32) &&& 31) = 8 := by decide
  rw [f0, f8]
  have g : (((lo8 c &&& 255) <<< (0 : Int32)) ||| ((hi8 c &&& 255) <<< (8 : Int32))).toBitVec.toNat = c.toBitVec.toNat := by
    rw [Int32.toBitVec_or, Int32.toBitVec_shiftLeft, Int32.toBitVec_shiftLeft]
    have s0 : ((0 : Int32).toBitVec.smod 32) = 0#32 := by decide
    have s8 : ((8 : Int32).toBitVec.smod 32) = 8#32 := by decide
    rw [s0, s8, BitVec.toNat_or]
    simp only [BitVec.shiftLeft_eq', BitVec.toNat_shiftLeft, a1, a2]
    show (c.toBitVec.toNat % 256) <<< 0 % 2 ^ 32 ||| (c.toBitVec.toNat / 256) <<< 8 % 2 ^ 32 = _
    rw [Nat.shiftLeft_zero, Nat.mod_eq_of_lt (show c.toBitVec.toNat % 256 < 2 ^ 32 by omega), Nat.mod_eq_of_lt (show (c.toBitVec.toNat / 256) <<< 8 < 2 ^ 32 by rw [Nat.shiftLeft_eq]; omega), Nat.or_comm, ← Nat.shiftLeft_add_eq_or_of_lt (by omega), Nat.shiftLeft_eq]
    omega
  show BitVec.toNat (((((lo8 c &&& 255) <<< (0 : Int32)) ||| ((hi8 c &&& 255) <<< (8 : Int32))).toBitVec.setWidth 16).setWidth 32) = _
  rw [BitVec.toNat_setWidth, BitVec.toNat_setWidth, g]
  omega
end StrChars
namespace StrChars
open Jvm Sem ClassFile Op Lib Jvm.Stand Jvm.Free.XT Jvm.Free.ALB Jvm.Free.JM Jvm.Free
open Jvm.Lib.Cold (StaticIs)
/-- charAt's cast of a byte read back -/
def chr8 (u : Int32) : Int32 := (u &&& 255).toUInt32.toUInt16.toUInt32.toInt32
theorem chr8_lo8 {c : Int32} (h0 : ¬ c < 0) (h1 : ¬ 255 < c) : chr8 (lo8 c) = c := by
  have t : ∀ k : Fin 256, (Int32.ofNat k.val).toUInt32.toUInt16.toUInt32.toInt32 = Int32.ofNat k.val := by decide +kernel
  unfold chr8
  rw [lo8_mask h0 h1]
  rw [Int32.lt_iff_toInt_lt] at h0 h1
  have e0 : (0 : Int32).toInt = 0 := rfl
  have e1 : (255 : Int32).toInt = 255 := rfl
  obtain ⟨k, hk⟩ : ∃ k : Nat, c.toInt = k := ⟨c.toInt.toNat, by omega⟩
  have hx : c = Int32.ofNat k := Int32.toInt_inj.mp (by rw [hk, Int32.toInt_ofNat_small (by omega)])
  rw [hx]
  exact t ⟨k, by omega⟩
theorem narrow_ch {c : Int32} (h0 : ¬ c < 0) (h1 : ¬ 65535 < c) : narrow .char (.int c) = .int c := by
  have q : narrow .char (.int (pairCh (lo8 c) (hi8 c))) = .int (pairCh (lo8 c) (hi8 c)) := narrow_c _
  rwa [pair_says h0 h1] at q
end StrChars
end Jvm.Pilot.@@N@@
namespace Jvm.OwnKit
open Jvm Jvm.ClassFile Sem Op Lib Jvm.Free Jvm.Stand Jvm.LawKit Jvm.RoadKit Bundle
/-- what is left to show of a walk that stands at S: it ends, and Q holds there -/
def Go (tb : Tables) (e : Env) (below : List Frame) (Q : Outcome → State → Prop) (S : State) : Prop :=
  ∃ (U : State) (o : Outcome), Steps tb e below S U ∧ U.status = .running ∧ Ended U below o ∧ Q o U
section
variable {tb : Tables} {e : Env} {below : List Frame} {Q : Outcome → State → Prop} {S S' : State}
theorem Go.st (f : ∀ {t : State}, Steps tb e below S' t → Steps tb e below S t) (h : Go tb e below Q S') : Go tb e below Q S := by
  obtain ⟨U, o, h1, h2⟩ := h
  exact ⟨U, o, f h1, h2⟩
theorem Go.to (f : ∀ t : State, Steps tb e below S' t → Steps tb e below S t) (h : Go tb e below Q S') : Go tb e below Q S := Go.st (fun {t} => f t) h
theorem Go.run (f : Steps tb e below S S') (h : Go tb e below Q S') : Go tb e below Q S := by
  obtain ⟨U, o, h1, h2⟩ := h
  exact ⟨U, o, f.trans h1, h2⟩
end
theorem castGo {tb : Tables} {e : Env} {below : List Frame} {Q : Outcome → State → Prop} {T : State} {g g' : JFrame} (q : g = g') (k : Go tb e below Q (T.setTop g')) : Go tb e below Q (T.setTop g) := q ▸ k
/-- the end of a plain walk -/
def PEnd (s : State) (Qc : Option Value → Heap → List Loc → Prop) (kc ks : Nat) (o : Outcome) (U : State) : Prop :=
  ∃ v L, o = .returned v ∧ Qc v U.heap L ∧ FrameEnd s o U L kc ks
/-- a plain contract: from the heap h with these arguments it returns, Qc holds, the room is kept -/
def Con (l : Launch) (Z : State) (y : MethodName) (bytes : ByteArray) (maxL : Nat) (ret : Option FieldType) (rm : Room) (as' : Array Value) (h : Heap) (Qc : Option Value → Heap → List Loc → Prop) : Prop :=
  ∀ ws : List Jvm.Cond, MetFree l y (head1 (Jvm.Cond.code y bytes maxL ret :: ws) rm) (fun a U => a = as' ∧ Z.Warmed39 U.vm ∧ U.heap = h) (fun _ _ _ _ _ => True) (fun _ U o U' => PEnd U Qc rm.cells rm.slots o U')
theorem Con.intro {l : Launch} {Z : State} {y : MethodName} {bytes : ByteArray} {maxL : Nat} {ret : Option FieldType} {rm : Room} {as' : Array Value} {h : Heap} {Qc : Option Value → Heap → List Loc → Prop} (pn : plainFor y = true)
    (body : ∀ (p : Program) (e : Env) (s : State) (m : MethodId) (below : List Frame) (meth : Method) (c : Code) (T : State), Stand p l e rm s m as' below meth c T [] 0 0 → p.tables.exec = Jvm.exec → c.code = bytes → c.maxLocals = maxL →
      s.vm.findClass y.cls = some m.cls → meth.name = y.name → meth.sig.returnType = ret → meth.locks = false → Z.Warmed39 s.vm → T.heap = h →
      Go p.tables e below (PEnd s Qc rm.cells rm.slots) (T.setTop (entryFrame m as' maxL))) : Con l Z y bytes maxL ret rm as' h Qc := by
  intro ws
  refine MetFree.of_bodySF pn hisR ?_
  intro p e s m args below meth c s₁ Bd hml0 hP hK
  obtain ⟨rfl, hZ, hh⟩ := hP
  exact body p e s m below meth c s₁ (Stand.of_body Bd) Bd.exec Bd.bytes hml0 (findClass_of_methodNamed Bd.named) (name_of_methodNamed Bd.named Bd.method).1 Bd.returns Bd.notSynchronized hZ (by rw [← hh, Bd.state]; rfl)
/-- the end of a walk that may have interned -/
def SEnd (Z : State) (EL : List (String × Nat)) (s : State) (Qc : Option Value → Heap → List Loc → Prop) (kc ks : Nat) (o : Outcome) (U : State) : Prop :=
  ∃ v L, o = .returned v ∧ Qc v U.heap L ∧ CHr Z EL s.vm s.heap U.vm U.heap ∧ ReturnedEndW s o U L kc ks
/-- a contract of a method that may load String constants; sl: cells that no constant uses -/
def ConS (l : Launch) (Z : State) (EL : List (String × Nat)) (y : MethodName) (bytes : ByteArray) (maxL : Nat) (ret : Option FieldType) (rm : Room) (as' : Array Value) (h : Heap) (sl : List Addr) (Qc : Option Value → Heap → List Loc → Prop) : Prop :=
  ∀ ws : List Jvm.Cond, MetFree l y (head1 (Jvm.Cond.code y bytes maxL ret :: ws) rm) (fun a U => a = as' ∧ Z.Warmed39 U.vm ∧ U.heap = h ∧ CHv Z EL U.vm h ∧ ∀ x ∈ sl, Safe Z EL U.vm h x) (fun _ _ _ _ _ => True) (fun _ U o U' => SEnd Z EL U Qc rm.cells rm.slots o U')
theorem ConS.intro {l : Launch} {Z : State} {EL : List (String × Nat)} {y : MethodName} {bytes : ByteArray} {maxL : Nat} {ret : Option FieldType} {rm : Room} {as' : Array Value} {h : Heap} {sl : List Addr} {Qc : Option Value → Heap → List Loc → Prop} (pn : plainFor y = true)
    (body : ∀ (p : Program) (e : Env) (s : State) (m : MethodId) (below : List Frame) (meth : Method) (c : Code) (T : State) (v0 : Vm), Stand p l e rm (s.setVm v0) m as' below meth c T [] 0 0 → p.tables.exec = Jvm.exec → c.code = bytes → c.maxLocals = maxL →
      v0.findClass y.cls = some m.cls → meth.name = y.name → meth.sig.returnType = ret → meth.locks = false → Z.Warmed39 v0 → T.heap = h → s.Since v0 0 → CHr Z EL s.vm s.heap v0 h → (∀ x ∈ sl, Safe Z EL v0 h x) →
      Go p.tables e below (SEnd Z EL s Qc rm.cells rm.slots) (T.setTop (entryFrame m as' maxL))) : ConS l Z EL y bytes maxL ret rm as' h sl Qc := by
  intro ws
  refine MetFree.of_bodySF pn hisR ?_
  intro p e s m args below meth c s₁ Bd hml0 hP hK
  obtain ⟨rfl, hZ, hh, hC, hs⟩ := hP
  exact body p e s m below meth c s₁ s.vm (Stand.of_body Bd) Bd.exec Bd.bytes hml0 (findClass_of_methodNamed Bd.named) (name_of_methodNamed Bd.named Bd.method).1 Bd.returns Bd.notSynchronized hZ (by rw [← hh, Bd.state]; rfl) ((State.WarmedH.refl s).since 0) (by rw [hh]; exact CHr.refl hC) hs
section Ends
variable {p : Program} {l : Launch} {e : Env} {R : Room} {s : State} {m : MethodId} {args : Array Value} {below : List Frame} {meth : Method} {c : Code} {T : State} {locs : List Loc} {cells slots : Nat} {Z : State} {a0 : Array Value} {EL : List (String × Nat)} {h : Heap} {Qc : Option Value → Heap → List Loc → Prop} {kc ks pc : Nat} {Ls : Array Slot} {rest : List Value} {vm1 : Vm} {n1 : Nat}
/-- any plain end, its last step given -/
theorem endP (X : Stand p l e R s m args below meth c T locs cells slots) (hlk : meth.locks = false) {v : Option Value} (hv : meth.sig.returnType = none → v = none) {S : State}
    (hst : ∀ fs : List Frame, (∀ (f : JFrame) (acts : List Action), f.method = m → f.locked = none → f.entered = [] → (doReturn e (T.setTop f) acts v).1 = T.setFrames fs) → Steps p.tables e below S (T.setFrames fs))
    (hq : Qc v T.heap locs) (h1 : cells ≤ kc) (h2 : slots ≤ ks) : Go p.tables e below (PEnd s Qc kc ks) S := by
  obtain ⟨fs, hr, hrun, hended, hW, hsame⟩ := X.leave (v := v) hv hlk
  exact ⟨_, _, hst fs hr, hrun, hended, _, _, rfl, hq, ⟨_, rfl⟩, hW, hsame.mono h1 h2⟩
theorem mono_sbn {s t : State} {L : List Loc} {k n k' n' : Nat} {o : Outcome} (h : ReturnedEndW s o t L k n) (h1 : k ≤ k') (h2 : n ≤ n') : ReturnedEndW s o t L k' n' := ⟨h.1, h.2.1, h.2.2.1, h.2.2.2.mono h1 h2⟩
theorem endC (X : Stand p l e R (s.setVm vm1) m args below meth c T locs cells slots) (hlk : meth.locks = false) (hS : s.Since vm1 n1) (hk : n1 ≤ T.heap.size) (hZ : Z.Warmed39 vm1) (w : EW Z a0 EL) (C : CHr Z EL s.vm s.heap vm1 T.heap) {v : Option Value} (hv : meth.sig.returnType = none → v = none) {S : State}
    (hst : ∀ fs : List Frame, (∀ (f : JFrame) (acts : List Action), f.method = m → f.locked = none → f.entered = [] → (doReturn e (T.setTop f) acts v).1 = T.setFrames fs) → Steps p.tables e below S (T.setFrames fs))
    (hq : Qc v T.heap locs) (h1 : cells ≤ kc) (h2 : slots ≤ ks) : Go p.tables e below (SEnd Z EL s Qc kc ks) S := by
  obtain ⟨fs, hr, hrun, hended, hW⟩ := X.leaveW hS hk (v := v) hv hlk
  have hC : CHr Z EL s.vm s.heap T.vm T.heap := C.trans (CHv.at X hZ w C.1)
  exact ⟨_, _, hst fs hr, hrun, hended, _, _, rfl, hq, hC, mono_sbn hW h1 h2⟩
/-- the last steps -/
theorem lastV (X : Stand p l e R s m args below meth c T locs cells slots) (hx : p.tables.exec = Jvm.exec) (hret : meth.sig.returnType = none) (hd : decode c.code pc = .ok (.return_, 1)) : ∀ fs : List Frame, (∀ (f : JFrame) (acts : List Action), f.method = m → f.locked = none → f.entered = [] → (doReturn e (T.setTop f) acts none).1 = T.setFrames fs) →
    Steps p.tables e below (T.setTop (mkF m pc Ls [])) (T.setFrames fs) := fun fs hr => X.returnOut hx hret hd hr
theorem lastN (X : Stand p l e R s m args below meth c T locs cells slots) (hx : p.tables.exec = Jvm.exec) {z z' : Int32} {t : FieldType} (hret : meth.sig.returnType = some t) (ht : t = .boolean ∨ t = .byte ∨ t = .char ∨ t = .short) (hz : nar t z = z') (hd : decode c.code pc = .ok (.ireturn, 1)) :
    ∀ fs : List Frame, (∀ (f : JFrame) (acts : List Action), f.method = m → f.locked = none → f.entered = [] → (doReturn e (T.setTop f) acts (some (.int z'))).1 = T.setFrames fs) → Steps p.tables e below (T.setTop (mkF m pc Ls (.int z :: rest))) (T.setFrames fs) := fun fs hr => by
  subst hz; exact retN X hx hret ht hd hr
theorem lastI (X : Stand p l e R s m args below meth c T locs cells slots) (hx : p.tables.exec = Jvm.exec) {z : Int32} (hret : meth.sig.returnType = some .int) (hd : decode c.code pc = .ok (.ireturn, 1)) :
    ∀ fs : List Frame, (∀ (f : JFrame) (acts : List Action), f.method = m → f.locked = none → f.entered = [] → (doReturn e (T.setTop f) acts (some (.int z))).1 = T.setFrames fs) → Steps p.tables e below (T.setTop (mkF m pc Ls (.int z :: rest))) (T.setFrames fs) := fun fs hr =>
  retOut X hx hret rfl (Or.inl ⟨rfl, Or.inl rfl, z, rfl⟩) hd hr
theorem lastA (X : Stand p l e R s m args below meth c T locs cells slots) (hx : p.tables.exec = Jvm.exec) {w : Value} {t : FieldType} (hret : meth.sig.returnType = some t) (ht : t.isReference = true) (hn : narrow t w = w) (hw : w.isRef = true) (hd : decode c.code pc = .ok (.areturn, 1)) :
    ∀ fs : List Frame, (∀ (f : JFrame) (acts : List Action), f.method = m → f.locked = none → f.entered = [] → (doReturn e (T.setTop f) acts (some w)).1 = T.setFrames fs) → Steps p.tables e below (T.setTop (mkF m pc Ls (w :: rest))) (T.setFrames fs) := fun fs hr =>
  retOut X hx hret hn (Or.inr (Or.inr (Or.inr (Or.inr ⟨rfl, ht, hw⟩)))) hd hr
end Ends
/-- what pays a call: from the heap h, k cells and n slots -/
abbrev BackQ (l : Launch) (R : Room) (p : Program) (e : Env) (below : List Frame) (s : State) (sargs : Array Value) (y : MethodName) (len W : Nat) (as' : Array Value) (h : Heap) (k n : Nat) (Q : Option Value → Heap → List Loc → Prop) : Prop :=
  Back l R p e below s sargs y len W (fun A a => a = as' ∧ A.U.heap = h ∧ A.cells + k ≤ R.cells ∧ A.slots + n ≤ R.slots) (fun A _ v B => ∃ L, Q v B.U.heap L ∧ B.locs = A.locs ++ L ∧ B.cells = A.cells + k ∧ B.slots = A.slots + n)
abbrev BackSQ (l : Launch) (R : Room) (p : Program) (e : Env) (below : List Frame) (s : State) (vm0 : Vm) (sargs : Array Value) (y : MethodName) (len W : Nat) (as' : Array Value) (h : Heap) (k n : Nat) (Z : State) (EL : List (String × Nat)) (Q : Option Value → Heap → List Loc → Prop) : Prop :=
  BackS l R p e below (s.setVm vm0) sargs y len W (fun A a => a = as' ∧ A.U.heap = h ∧ A.cells + k ≤ R.cells ∧ A.slots + n ≤ R.slots) (fun A _ v B => ∃ L, Q v B.U.heap L ∧ B.locs = A.locs ++ L ∧ B.cells = A.cells + k ∧ B.slots = A.slots + n ∧ CHr Z EL vm0 h B.U.vm B.U.heap)
section Calls
variable {p : Program} {l : Launch} {e : Env} {R : Room} {s : State} {m : MethodId} {args : Array Value} {below : List Frame} {meth : Method} {c : Code} {T : State} {locs : List Loc} {cells slots : Nat} {Z : State} {a0 : Array Value} {EL : List (String × Nat)} {h : Heap} {Qc : Option Value → Heap → List Loc → Prop} {vm0 : Vm} {n0 : Nat}
  {y z : MethodName} {bytes : ByteArray} {maxL : Nat} {ret : Option FieldType} {rm : Room} {as' : Array Value} {own C : String} {index count W k n len : Nat} {g : JFrame} {a : Addr} {argsL rest : List Value}
theorem Con.back (hM : Con l Z y bytes maxL ret rm as' h Qc) (hZ : Z.Warmed39 s.vm) (wc : (Jvm.Cond.code y bytes maxL ret).before a0 Z = true) (wz : (Jvm.Cond.initialized y.cls).before a0 Z = true) (hf : rm.frames + 1 ≤ R.frames) (hl : W + (maxL + 11) + rm.locals ≤ R.locals) :
    BackQ l R p e below s args y len W as' h rm.cells rm.slots Qc := backOf (Q := Qc) (hM []) hZ wc wz hf hl
theorem ConS.back {sl : List Addr} (hM : ConS l Z EL y bytes maxL ret rm as' h sl Qc) (hZ : Z.Warmed39 vm0) (wc : (Jvm.Cond.code y bytes maxL ret).before a0 Z = true) (wz : (Jvm.Cond.initialized y.cls).before a0 Z = true) (hf : rm.frames + 1 ≤ R.frames) (hl : W + (maxL + 11) + rm.locals ≤ R.locals) (hEL : EW Z a0 EL) (H : CHv Z EL vm0 h)
    (hs : ∀ x ∈ sl, Safe Z EL vm0 h x) (hlt : ∀ x ∈ sl, x < h.size) : BackSQ l R p e below s vm0 args y len W as' h rm.cells rm.slots Z EL Qc :=
  BackS.of_freeW (bytes := bytes) (maxL := maxL) (ret := ret) (E := fun _ first o t L k n => k = rm.cells ∧ n = rm.slots ∧ (∃ v, o = .returned v ∧ Qc v t.heap L) ∧ CHr Z EL first.vm first.heap t.vm t.heap) (hM []) hf hl
    (fun m meth c A a Y hp => have hU : Z.Warmed39 A.U.vm := wtrans (s := s.setVm vm0) hZ Y.warmed
      ⟨by show (Cond.and _ .tt).before a A.U = true; rw [Cond.before_and, mv hU wc]; rfl, mv hU wc, mv hU wz, hp.2.2.1, hp.2.2.2⟩)
    (fun m meth c A a g mk Y hp => ⟨hp.1, wtrans (s := s.setVm vm0) hZ Y.warmed, hp.2.1, (CHv.at Y hZ hEL H).1, fun x hx => (CHv.at Y hZ hEL H).safe (hlt x hx) (hs x hx)⟩) (fun _ _ _ _ _ _ _ _ _ => trivial)
    (fun _ _ _ _ ⟨v, L, h1, h2, h3, h4⟩ => ⟨L, _, _, h4, rfl, rfl, ⟨v, h1, h2⟩, h3⟩)
    (fun m meth c A a g mk v t L k n Y hp _ _ ⟨e1, e2, ⟨v', e3, e4⟩, e5⟩ => by
      cases e3; subst e1 e2
      refine ⟨L, e4, rfl, rfl, rfl, (CHv.at Y hZ hEL H).trans ?_⟩
      rw [← hp.2.1]; exact e5)
theorem callSp (X : Stand p l e R s m args below meth c T locs cells slots) (hx : p.tables.exec = Jvm.exec) (hZ : Z.Warmed39 s.vm) (hown : s.vm.findClass own = some m.cls) (hy1 : y.name = "<init>") (w1 : (Jvm.Cond.methodLink own index y).before a0 Z = true) (w2 : (Jvm.Cond.instanceMethod y).before a0 Z = true) (w3 : (Jvm.Cond.code y bytes maxL none).before a0 Z = true)
    (hyc : y.cls ≠ "java/lang/invoke/MethodHandle" ∧ y.cls ≠ "java/lang/invoke/VarHandle") (eT : T.heap = h) (hK : BackQ l R p e below s args y 3 W (.ref a :: argsL).toArray h k n Qc)
    (hg : g.method = m) (hsize : g.locals.size = c.maxLocals) (hlen : ∀ sig, parseMethodDescriptor y.desc = some sig → argsL.length = sig.parameters.length) (hstack : g.stack = argsL.reverse ++ .ref a :: rest) (hW : 2 * g.monitorRoom + (rest.map fun v => v.category).sum ≤ W)
    (hdg : decode c.code g.pc = .ok (.invokespecial index, 3)) (hc : cells + k ≤ R.cells) (hs : slots + n ≤ R.slots) :
    ∃ v T' L, Stand p l e R s m args below meth c T' (locs ++ L) (cells + k) (slots + n) ∧ Qc v T'.heap L ∧ Steps p.tables e below (T.setTop g) (T'.setTop { g with pc := g.pc + 3, stack := v.toList ++ rest }) := by
  obtain ⟨v, vm1, ⟨T', L', k', n'⟩, -, X', ⟨L, hQ, rfl, rfl, rfl⟩, st⟩ := X.specialBack hx hy1 hown (mvT hZ w1) (mvT hZ w2) (mvT hZ w3) hyc hK hg hsize (Steps.refl _) hlen hstack hW hdg (fun _ _ => ⟨rfl, eT, hc, hs⟩)
  exact ⟨v, T', L, X', hQ, st⟩
theorem callVi (X : Stand p l e R s m args below meth c T locs cells slots) (hx : p.tables.exec = Jvm.exec) (hZ : Z.Warmed39 s.vm) (hown : s.vm.findClass own = some m.cls) (w1 : (Jvm.Cond.methodLink own index y).before a0 Z = true) (w2 : (Jvm.Cond.declares y).before a0 Z = true) (nf : NotFace s y) (w4 : (Jvm.Cond.selects C y z).before a0 Z = true) (w5 : (Jvm.Cond.instanceMethod z).before a0 Z = true)
    (hyc : y.cls ≠ "java/lang/invoke/MethodHandle" ∧ y.cls ≠ "java/lang/invoke/VarHandle") (eT : T.heap = h) (E : Exa Z h a C) (hK : BackQ l R p e below s args z 3 W (.ref a :: argsL).toArray h k n Qc)
    (hg : g.method = m) (hsize : g.locals.size = c.maxLocals) (hlen : ∀ sig, parseMethodDescriptor y.desc = some sig → argsL.length = sig.parameters.length) (hstack : g.stack = argsL.reverse ++ .ref a :: rest) (hW : 2 * g.monitorRoom + (rest.map fun v => v.category).sum ≤ W)
    (hdg : decode c.code g.pc = .ok (.invokevirtual index, 3)) (hc : cells + k ≤ R.cells) (hs : slots + n ≤ R.slots) :
    ∃ v T' L, Stand p l e R s m args below meth c T' (locs ++ L) (cells + k) (slots + n) ∧ Qc v T'.heap L ∧ Steps p.tables e below (T.setTop g) (T'.setTop { g with pc := g.pc + 3, stack := v.toList ++ rest }) := by
  obtain ⟨cB, kB, q1, q2, q3⟩ := isOf hZ eT E
  obtain ⟨v, vm1, ⟨T', L', k', n'⟩, -, X', ⟨L, hQ, rfl, rfl, rfl⟩, st⟩ := X.virtualBack hx hown (mvT hZ w1) (mvT hZ w2) nf (mvT hZ w4) (mvT hZ w5) hyc hK q1 q3 hg hsize (Steps.refl _) hlen hstack hW hdg (fun _ _ => ⟨rfl, eT, hc, hs⟩)
  exact ⟨v, T', L, X', hQ, st⟩
theorem callSt (X : Stand p l e R s m args below meth c T locs cells slots) (hx : p.tables.exec = Jvm.exec) (hZ : Z.Warmed39 s.vm) (hown : s.vm.findClass own = some m.cls) (w1 : (Jvm.Cond.methodLink own index y).before a0 Z = true) (w2 : (Jvm.Cond.static y).before a0 Z = true) (w3 : (Jvm.Cond.initialized y.cls).before a0 Z = true) (w4 : (Jvm.Cond.code y bytes maxL ret).before a0 Z = true)
    (hyc : y.cls ≠ "java/lang/invoke/MethodHandle" ∧ y.cls ≠ "java/lang/invoke/VarHandle") (eT : T.heap = h) (hK : BackQ l R p e below s args y 3 W argsL.toArray h k n Qc)
    (hg : g.method = m) (hsize : g.locals.size = c.maxLocals) (hlen : ∀ sig, parseMethodDescriptor y.desc = some sig → argsL.length = sig.parameters.length) (hstack : g.stack = argsL.reverse ++ rest) (hW : 2 * g.monitorRoom + (rest.map fun v => v.category).sum ≤ W)
    (hdg : decode c.code g.pc = .ok (.invokestatic index, 3)) (hc : cells + k ≤ R.cells) (hs : slots + n ≤ R.slots) :
    ∃ v T' L, Stand p l e R s m args below meth c T' (locs ++ L) (cells + k) (slots + n) ∧ Qc v T'.heap L ∧ Steps p.tables e below (T.setTop g) (T'.setTop { g with pc := g.pc + 3, stack := v.toList ++ rest }) := by
  obtain ⟨v, vm1, ⟨T', L', k', n'⟩, -, X', ⟨L, hQ, rfl, rfl, rfl⟩, st⟩ := Jvm.LawKit.callS X hx hown (mvT hZ w1) (mvT hZ w2) (mvT hZ w3) (mvT hZ w4) hyc hK hg hsize hlen hstack hW hdg (fun _ _ => ⟨rfl, eT, hc, hs⟩)
  exact ⟨v, T', L, X', hQ, st _ (Steps.refl _)⟩
theorem callVu (X : Stand p l e R s m args below meth c T locs cells slots) (hx : p.tables.exec = Jvm.exec) (hZ : Z.Warmed39 s.vm) (hown : s.vm.findClass own = some m.cls) {owner : String} (w1 : (Jvm.Cond.methodLink own index y).before a0 Z = true) (w2 : (Jvm.Cond.sameMethod y.cls owner y.name y.desc).before a0 Z = true) (w3 : (Jvm.Cond.declares ⟨owner, y.name, y.desc⟩).before a0 Z = true) (hyc : owner ≠ "java/lang/invoke/MethodHandle" ∧ owner ≠ "java/lang/invoke/VarHandle") (w4 : (Jvm.Cond.selects C y z).before a0 Z = true) (w5 : (Jvm.Cond.instanceMethod z).before a0 Z = true)
    (eT : T.heap = h) (E : Exa Z h a C) (hK : BackQ l R p e below s args z 3 W (.ref a :: argsL).toArray h k n Qc)
    (hg : g.method = m) (hsize : g.locals.size = c.maxLocals) (hlen : ∀ sig, parseMethodDescriptor y.desc = some sig → argsL.length = sig.parameters.length) (hstack : g.stack = argsL.reverse ++ .ref a :: rest) (hW : 2 * g.monitorRoom + (rest.map fun v => v.category).sum ≤ W)
    (hdg : decode c.code g.pc = .ok (.invokevirtual index, 3)) (hc : cells + k ≤ R.cells) (hs : slots + n ≤ R.slots) :
    ∃ v T' L, Stand p l e R s m args below meth c T' (locs ++ L) (cells + k) (slots + n) ∧ Qc v T'.heap L ∧ Steps p.tables e below (T.setTop g) (T'.setTop { g with pc := g.pc + 3, stack := v.toList ++ rest }) := by
  obtain ⟨cB, kB, q1, q2, q3⟩ := isOf hZ eT E
  obtain ⟨v, vm1, ⟨T', L', k', n'⟩, -, X', ⟨L, hQ, rfl, rfl, rfl⟩, st⟩ := X.virtualBackUp hx hown (mvT hZ w1) (mvT hZ w2) (mvT hZ w3) hyc (mvT hZ w4) (mvT hZ w5) hK q1 q3 hg hsize (Steps.refl _) hlen hstack hW hdg (fun _ _ => ⟨rfl, eT, hc, hs⟩)
  exact ⟨v, T', L, X', hQ, st⟩
/-- what stands behind a call that may have interned -/
def AfterS (p : Program) (l : Launch) (e : Env) (R : Room) (s : State) (m : MethodId) (args : Array Value) (below : List Frame) (meth : Method) (c : Code) (Z : State) (EL : List (String × Nat)) (own : String) (vm0 : Vm) (h : Heap) (T' : State) (locs : List Loc) (cells slots : Nat) : Prop :=
  Stand p l e R (s.setVm T'.vm) m args below meth c T' locs cells slots ∧ s.Since T'.vm T'.heap.size ∧ Z.Warmed39 T'.vm ∧ T'.vm.findClass own = some m.cls ∧ CHr Z EL vm0 h T'.vm T'.heap
theorem callSpS (X : Stand p l e R (s.setVm vm0) m args below meth c T locs cells slots) (hx : p.tables.exec = Jvm.exec) (hZ : Z.Warmed39 vm0) (hown : vm0.findClass own = some m.cls) (hS : s.Since vm0 n0) (hk : n0 ≤ h.size) (hy1 : y.name = "<init>") (w1 : (Jvm.Cond.methodLink own index y).before a0 Z = true) (w2 : (Jvm.Cond.instanceMethod y).before a0 Z = true) (w3 : (Jvm.Cond.code y bytes maxL none).before a0 Z = true)
    (hyc : y.cls ≠ "java/lang/invoke/MethodHandle" ∧ y.cls ≠ "java/lang/invoke/VarHandle") (eT : T.heap = h) (hK : BackSQ l R p e below s vm0 args y 3 W (.ref a :: argsL).toArray h k n Z EL Qc)
    (hg : g.method = m) (hsize : g.locals.size = c.maxLocals) (hlen : ∀ sig, parseMethodDescriptor y.desc = some sig → argsL.length = sig.parameters.length) (hstack : g.stack = argsL.reverse ++ .ref a :: rest) (hW : 2 * g.monitorRoom + (rest.map fun v => v.category).sum ≤ W)
    (hdg : decode c.code g.pc = .ok (.invokespecial index, 3)) (hc : cells + k ≤ R.cells) (hs : slots + n ≤ R.slots) :
    ∃ v T' L, AfterS p l e R s m args below meth c Z EL own vm0 h T' (locs ++ L) (cells + k) (slots + n) ∧ Qc v T'.heap L ∧ Steps p.tables e below (T.setTop g) (T'.setTop { g with pc := g.pc + 3, stack := v.toList ++ rest }) := by
  obtain ⟨v, vm1, ⟨T', L', k', n'⟩, -, X', h2, gr, ⟨L, hQ, rfl, rfl, rfl, hC⟩, st⟩ := X.specialBackS hx hy1 hown (mvT hZ w1) (mvT hZ w2) (mvT hZ w3) hyc hK hg hsize (Steps.refl _) hlen hstack hW hdg (fun _ _ => ⟨rfl, eT, hc, hs⟩)
  obtain ⟨b1, b2, b3, b4⟩ := rebS hS (eT ▸ hk) X' h2 gr hZ hown
  exact ⟨v, T', L, ⟨b1, b2, b3, b4, hC⟩, hQ, st⟩
theorem callStS (X : Stand p l e R (s.setVm vm0) m args below meth c T locs cells slots) (hx : p.tables.exec = Jvm.exec) (hZ : Z.Warmed39 vm0) (hown : vm0.findClass own = some m.cls) (hS : s.Since vm0 n0) (hk : n0 ≤ h.size) (w1 : (Jvm.Cond.methodLink own index y).before a0 Z = true) (w2 : (Jvm.Cond.static y).before a0 Z = true) (w3 : (Jvm.Cond.initialized y.cls).before a0 Z = true) (w4 : (Jvm.Cond.code y bytes maxL ret).before a0 Z = true)
    (hyc : y.cls ≠ "java/lang/invoke/MethodHandle" ∧ y.cls ≠ "java/lang/invoke/VarHandle") (eT : T.heap = h) (hK : BackSQ l R p e below s vm0 args y 3 W argsL.toArray h k n Z EL Qc)
    (hg : g.method = m) (hsize : g.locals.size = c.maxLocals) (hlen : ∀ sig, parseMethodDescriptor y.desc = some sig → argsL.length = sig.parameters.length) (hstack : g.stack = argsL.reverse ++ rest) (hW : 2 * g.monitorRoom + (rest.map fun v => v.category).sum ≤ W)
    (hdg : decode c.code g.pc = .ok (.invokestatic index, 3)) (hc : cells + k ≤ R.cells) (hs : slots + n ≤ R.slots) :
    ∃ v T' L, AfterS p l e R s m args below meth c Z EL own vm0 h T' (locs ++ L) (cells + k) (slots + n) ∧ Qc v T'.heap L ∧ Steps p.tables e below (T.setTop g) (T'.setTop { g with pc := g.pc + 3, stack := v.toList ++ rest }) := by
  obtain ⟨v, vm1, ⟨T', L', k', n'⟩, -, X', h2, gr, ⟨L, hQ, rfl, rfl, rfl, hC⟩, st⟩ := callSS X hx hown (mvT hZ w1) (mvT hZ w2) (mvT hZ w3) (mvT hZ w4) hyc hK hg hsize hlen hstack hW hdg (fun _ _ => ⟨rfl, eT, hc, hs⟩)
  obtain ⟨b1, b2, b3, b4⟩ := rebS hS (eT ▸ hk) X' h2 gr hZ hown
  exact ⟨v, T', L, ⟨b1, b2, b3, b4, hC⟩, hQ, st⟩
end Calls
section Arrays
variable {p : Program} {l : Launch} {e : Env} {R : Room} {s : State} {m : MethodId} {args : Array Value} {below : List Frame} {meth : Method} {c : Code} {T : State} {locs : List Loc} {cells slots : Nat} {Z : State} {a0 : Array Value} {h : Heap} {g : JFrame} {rest : List Value} {a : Addr} {k : ClassId} {ty : FieldType} {z j x x' : Int32} {i : Nat} {vs : List Value} {d v : Value}
theorem newArr (X : Stand p l e R s m args below meth c T locs cells slots) (hx : p.tables.exec = Jvm.exec) (hZ : Z.Warmed39 s.vm) {aty : ArrayType} (w : (Jvm.Cond.arrayClass (newarray.typeOf aty)).before a0 Z = true) (eT : T.heap = h) (hg : g.method = m) (hd : decode c.code g.pc = .ok (.newarray aty, 2)) {n : Int32} (hs : g.stack = .int n :: rest)
    (hn : ¬ n < 0) {q : Nat} (hq : n.toNatClampNeg = q) (hb : q * 8 ≤ 536870912) (hc : cells + 1 ≤ R.cells) (hl : slots + q ≤ R.slots) :
    ∃ T' h' cA, Stand p l e R s m args below meth c T' locs (cells + 1) (slots + q) ∧ T'.heap = h' ∧ Ext h h' ∧ Arv Z h' h.size cA (newarray.typeOf aty) n (List.replicate q (defaultValue (newarray.typeOf aty))) (defaultValue (newarray.typeOf aty)) ∧
      ∀ target, Steps p.tables e below (T'.setTop { g with pc := g.pc + 2, stack := .ref h.size :: rest }) target → Steps p.tables e below (T.setTop g) target := by
  obtain ⟨T', h', cA, X', e', E', A', st⟩ := newP X hx hZ w eT hg hd hs hn (cap := q) (Nat.le_of_eq hq) hb hc hl
  exact ⟨T', h', cA, X', e', E', (Arv.new A' hn).pad (fun i => by have := pad_rep [] (defaultValue (newarray.typeOf aty)) q i; simpa using this), st⟩
theorem setC (X : Stand p l e R s m args below meth c T locs cells slots) (hx : p.tables.exec = Jvm.exec) (hZ : Z.Warmed39 s.vm) (eT : T.heap = h) (A : Arv Z h a k .char z vs d) (hj : j.toNatClampNeg = i) (h0 : ¬ j < 0) (hjz : j < z) (hi : i < vs.length) (hn : nar .char x = x') (hg : g.method = m) (hs : g.stack = .int x :: .int j :: .ref a :: rest) (hd : decode c.code g.pc = .ok (.castore, 1)) :
    ∃ T' h', Stand p l e R s m args below meth c T' (locs ++ [⟨a, i⟩]) cells slots ∧ T'.heap = h' ∧ Wr h h' a i (.int x') ∧ Arv Z h' a k .char z (vs.set i (.int x')) d ∧ ∀ target, Steps p.tables e below (T'.setTop { g with pc := g.pc + 1, stack := rest }) target → Steps p.tables e below (T.setTop g) target := by
  subst hj hn
  obtain ⟨cl, A1, A2, A3, A4, A5, A6⟩ := A
  obtain ⟨T', h', X', e', W', st⟩ := stC X hx hZ eT A1 (inb_of A3 ⟨h0, hjz⟩) hg hs hd
  exact ⟨T', h', X', e', W', Arv.set A1 A2 A3 A4 A5 A6 (fits_nar_char x) W' _ rfl hi, st⟩
theorem setB (X : Stand p l e R s m args below meth c T locs cells slots) (hx : p.tables.exec = Jvm.exec) (hZ : Z.Warmed39 s.vm) (eT : T.heap = h) (A : Arv Z h a k .byte z vs d) (hj : j.toNatClampNeg = i) (h0 : ¬ j < 0) (hjz : j < z) (hi : i < vs.length) (hn : nar .byte x = x') (hg : g.method = m) (hs : g.stack = .int x :: .int j :: .ref a :: rest) (hd : decode c.code g.pc = .ok (.bastore, 1)) :
    ∃ T' h', Stand p l e R s m args below meth c T' (locs ++ [⟨a, i⟩]) cells slots ∧ T'.heap = h' ∧ Wr h h' a i (.int x') ∧ Arv Z h' a k .byte z (vs.set i (.int x')) d ∧ ∀ target, Steps p.tables e below (T'.setTop { g with pc := g.pc + 1, stack := rest }) target → Steps p.tables e below (T.setTop g) target := by
  subst hj hn
  obtain ⟨cl, A1, A2, A3, A4, A5, A6⟩ := A
  obtain ⟨T', h', X', e', W', st⟩ := stB X hx hZ eT A1 (inb_of A3 ⟨h0, hjz⟩) hg hs hd
  exact ⟨T', h', X', e', W', Arv.set A1 A2 A3 A4 A5 A6 (fits_nar_byte x) W' _ rfl hi, st⟩
theorem ldC (X : Stand p l e R s m args below meth c T locs cells slots) (hx : p.tables.exec = Jvm.exec) (hZ : Z.Warmed39 s.vm) (eT : T.heap = h) (A : Arv Z h a k .char z vs d) (hj : j.toNatClampNeg = i) (h0 : ¬ j < 0) (hjz : j < z) (hv : vs.getD i d = v) (hg : g.method = m) (hs : g.stack = .int j :: .ref a :: rest) (hd : decode c.code g.pc = .ok (.caload, 1)) :
    ∀ target, Steps p.tables e below (T.setTop { g with pc := g.pc + 1, stack := v :: rest }) target → Steps p.tables e below (T.setTop g) target := by
  subst hj hv
  obtain ⟨cl, A1, A2, A3, A4, A5, A6⟩ := A
  exact X.caload hx (by rw [eT]; exact A1.1) (State.isArrayOf_alike hZ.alike A1.2.1) A1.2.2 (inb_of A3 ⟨h0, hjz⟩) (A5.at (inb_of A3 ⟨h0, hjz⟩) rfl) hg hs hd
theorem ldB (X : Stand p l e R s m args below meth c T locs cells slots) (hx : p.tables.exec = Jvm.exec) (hZ : Z.Warmed39 s.vm) (eT : T.heap = h) (A : Arv Z h a k .byte z vs d) (hj : j.toNatClampNeg = i) (h0 : ¬ j < 0) (hjz : j < z) (hv : vs.getD i d = v) (hg : g.method = m) (hs : g.stack = .int j :: .ref a :: rest) (hd : decode c.code g.pc = .ok (.baload, 1)) :
    ∀ target, Steps p.tables e below (T.setTop { g with pc := g.pc + 1, stack := v :: rest }) target → Steps p.tables e below (T.setTop g) target := by
  subst hj hv
  obtain ⟨cl, A1, A2, A3, A4, A5, A6⟩ := A
  exact X.baloadBytes hx (by rw [eT]; exact A1.1) (State.isArrayOf_alike hZ.alike A1.2.1) A1.2.2 (inb_of A3 ⟨h0, hjz⟩) (A5.at (inb_of A3 ⟨h0, hjz⟩) rfl) hg hs hd
theorem alen (X : Stand p l e R s m args below meth c T locs cells slots) (hx : p.tables.exec = Jvm.exec) (hZ : Z.Warmed39 s.vm) (eT : T.heap = h) (A : Arv Z h a k ty z vs d) (hg : g.method = m) (hs : g.stack = .ref a :: rest) (hd : decode c.code g.pc = .ok (.arraylength, 1)) :
    ∀ target, Steps p.tables e below (T.setTop { g with pc := g.pc + 1, stack := .int z :: rest }) target → Steps p.tables e below (T.setTop g) target := fun t ht => by
  obtain ⟨cl, A1, A2, A3, A4, A5, A6⟩ := A
  refine X.arraylength hx (by rw [eT]; exact A1.1) (State.isArrayOf_alike hZ.alike A1.2.1) hg hs hd t ?_
  rw [len_of A3 A4]; exact ht
end Arrays
theorem own_nref {C : String} {v : Value} (h : v.isRef = true) : narrow (.object C) v = v := by
  rcases ref_cases h with rfl | ⟨_, rfl⟩ <;> rfl
theorem own_fref {C : String} {v : Value} (h : v.isRef = true) : fits (.object C) v = true := by
  rcases ref_cases h with rfl | ⟨_, rfl⟩ <;> rfl
end Jvm.OwnKit

namespace Jvm.OwnKit
open Jvm Jvm.ClassFile Sem Op Lib Jvm.Free Jvm.Stand Jvm.LawKit Jvm.RoadKit Bundle
section Steps1
variable {p : Program} {l : Launch} {e : Env} {R : Room} {s : State} {m : MethodId} {args : Array Value} {below : List Frame} {meth : Method} {c : Code} {T : State} {locs : List Loc} {cells slots : Nat} {Z : State} {a0 : Array Value} {EL : List (String × Nat)} {h : Heap} {Q : Outcome → State → Prop} {pc q : Nat} {Ls Ls' : Array Slot} {st : List Value} {x y z : Int32} {jx jy jz : Int64} {a : Addr} {v w : Value} {k : Nat} {k4 : Fin 4} {i : Nat} {vs : List Value} {d : Value} {ty : FieldType} {kc : ClassId} {own C O f dd : String} {index : Nat}
theorem aL (X : Stand p l e R s m args below meth c T locs cells slots) (hx : p.tables.exec = Jvm.exec) (hd : decode c.code pc = .ok (.aload_n k4, 1)) (hq : pc + 1 = q) (hl : Ls[k4.val]? = some (.val v)) (hv : v.isRef = true) (kk : Go p.tables e below Q (T.setTop (mkF m q Ls (v :: st)))) : Go p.tables e below Q (T.setTop (mkF m pc Ls st)) := by
  subst hq; exact Go.st (XS.aloadN X.here hx rfl hd hl hv) kk
theorem aLw (X : Stand p l e R s m args below meth c T locs cells slots) (hx : p.tables.exec = Jvm.exec) (hd : decode c.code pc = .ok (.aload k, 2)) (hq : pc + 2 = q) (hl : Ls[k]? = some (.val v)) (hv : v.isRef = true) (kk : Go p.tables e below Q (T.setTop (mkF m q Ls (v :: st)))) : Go p.tables e below Q (T.setTop (mkF m pc Ls st)) := by
  subst hq; exact Go.st (XS.aload X.here hx rfl hd hl hv) kk
theorem iL (X : Stand p l e R s m args below meth c T locs cells slots) (hx : p.tables.exec = Jvm.exec) (hd : decode c.code pc = .ok (.iload_n k4, 1)) (hq : pc + 1 = q) (hl : Ls[k4.val]? = some (.val (.int x))) (kk : Go p.tables e below Q (T.setTop (mkF m q Ls (.int x :: st)))) : Go p.tables e below Q (T.setTop (mkF m pc Ls st)) := by
  subst hq; exact Go.st (XS.iloadN X.here hx rfl hd hl) kk
theorem iLw (X : Stand p l e R s m args below meth c T locs cells slots) (hx : p.tables.exec = Jvm.exec) (hd : decode c.code pc = .ok (.iload k, 2)) (hq : pc + 2 = q) (hl : Ls[k]? = some (.val (.int x))) (kk : Go p.tables e below Q (T.setTop (mkF m q Ls (.int x :: st)))) : Go p.tables e below Q (T.setTop (mkF m pc Ls st)) := by
  subst hq; exact Go.st (XS.iload X.here hx rfl hd hl) kk
theorem sI (X : Stand p l e R s m args below meth c T locs cells slots) (hx : p.tables.exec = Jvm.exec) (hd : decode c.code pc = .ok (.istore_n k4, 1)) (hq : pc + 1 = q) (hl : storeLocals Ls k4.val (.int x) = some Ls') (kk : Go p.tables e below Q (T.setTop (mkF m q Ls' st))) : Go p.tables e below Q (T.setTop (mkF m pc Ls (.int x :: st))) := by
  subst hq; exact Go.st (XS.istoreN X.here hx rfl hd rfl hl) kk
theorem sIw (X : Stand p l e R s m args below meth c T locs cells slots) (hx : p.tables.exec = Jvm.exec) (hd : decode c.code pc = .ok (.istore k, 2)) (hq : pc + 2 = q) (hl : storeLocals Ls k (.int x) = some Ls') (kk : Go p.tables e below Q (T.setTop (mkF m q Ls' st))) : Go p.tables e below Q (T.setTop (mkF m pc Ls (.int x :: st))) := by
  subst hq; exact Go.st (XS.istore X.here hx rfl hd rfl hl) kk
theorem sA (X : Stand p l e R s m args below meth c T locs cells slots) (hx : p.tables.exec = Jvm.exec) (hd : decode c.code pc = .ok (.astore_n k4, 1)) (hq : pc + 1 = q) (hv : v.isRef = true) (hl : storeLocals Ls k4.val v = some Ls') (kk : Go p.tables e below Q (T.setTop (mkF m q Ls' st))) : Go p.tables e below Q (T.setTop (mkF m pc Ls (v :: st))) := by
  subst hq; exact Go.st (XS.astoreN X.here hx rfl hd rfl hv hl) kk
theorem sAw (X : Stand p l e R s m args below meth c T locs cells slots) (hx : p.tables.exec = Jvm.exec) (hd : decode c.code pc = .ok (.astore k, 2)) (hq : pc + 2 = q) (hv : v.isRef = true) (hl : storeLocals Ls k v = some Ls') (kk : Go p.tables e below Q (T.setTop (mkF m q Ls' st))) : Go p.tables e below Q (T.setTop (mkF m pc Ls (v :: st))) := by
  subst hq; exact Go.st (XS.astore X.here hx rfl hd rfl hv hl) kk
theorem cI (X : Stand p l e R s m args below meth c T locs cells slots) (hx : p.tables.exec = Jvm.exec) {j : Int} (hd : decode c.code pc = .ok (.iconst j, 1)) (hq : pc + 1 = q) (hz : Int32.ofInt j = z) (kk : Go p.tables e below Q (T.setTop (mkF m q Ls (.int z :: st)))) : Go p.tables e below Q (T.setTop (mkF m pc Ls st)) := by
  subst hq hz; exact Go.st (XS.iconst X.here hx rfl hd) kk
theorem bI (X : Stand p l e R s m args below meth c T locs cells slots) (hx : p.tables.exec = Jvm.exec) {j : Int} (hd : decode c.code pc = .ok (.bipush j, 2)) (hq : pc + 2 = q) (hz : (Int8.ofInt j).toInt32 = z) (kk : Go p.tables e below Q (T.setTop (mkF m q Ls (.int z :: st)))) : Go p.tables e below Q (T.setTop (mkF m pc Ls st)) := by
  subst hq hz; exact Go.st (XS.bipush X.here hx rfl hd) kk
theorem pI (X : Stand p l e R s m args below meth c T locs cells slots) (hx : p.tables.exec = Jvm.exec) {j : Int} (hd : decode c.code pc = .ok (.sipush j, 3)) (hq : pc + 3 = q) (hz : (Int16.ofInt j).toInt32 = z) (kk : Go p.tables e below Q (T.setTop (mkF m q Ls (.int z :: st)))) : Go p.tables e below Q (T.setTop (mkF m pc Ls st)) := by
  subst hq hz; exact Go.st (XS.sipush X.here hx rfl hd) kk
theorem cN (X : Stand p l e R s m args below meth c T locs cells slots) (hx : p.tables.exec = Jvm.exec) (hd : decode c.code pc = .ok (.aconst_null, 1)) (hq : pc + 1 = q) (kk : Go p.tables e below Q (T.setTop (mkF m q Ls (.null :: st)))) : Go p.tables e below Q (T.setTop (mkF m pc Ls st)) := by
  subst hq; exact Go.st (XS.aconstNull X.here hx rfl hd) kk
theorem g_iadd (X : Stand p l e R s m args below meth c T locs cells slots) (hx : p.tables.exec = Jvm.exec) (hd : decode c.code pc = .ok (.iadd, 1)) (hq : pc + 1 = q) (hz : x + y = z) (kk : Go p.tables e below Q (T.setTop (mkF m q Ls (.int z :: st)))) : Go p.tables e below Q (T.setTop (mkF m pc Ls (.int y :: .int x :: st))) := by
  subst hq hz; exact Go.st (XS.iadd X.here hx rfl hd rfl) kk
theorem g_isub (X : Stand p l e R s m args below meth c T locs cells slots) (hx : p.tables.exec = Jvm.exec) (hd : decode c.code pc = .ok (.isub, 1)) (hq : pc + 1 = q) (hz : x - y = z) (kk : Go p.tables e below Q (T.setTop (mkF m q Ls (.int z :: st)))) : Go p.tables e below Q (T.setTop (mkF m pc Ls (.int y :: .int x :: st))) := by
  subst hq hz; exact Go.st (XS.isub X.here hx rfl hd rfl) kk
theorem g_iand (X : Stand p l e R s m args below meth c T locs cells slots) (hx : p.tables.exec = Jvm.exec) (hd : decode c.code pc = .ok (.iand, 1)) (hq : pc + 1 = q) (hz : x &&& y = z) (kk : Go p.tables e below Q (T.setTop (mkF m q Ls (.int z :: st)))) : Go p.tables e below Q (T.setTop (mkF m pc Ls (.int y :: .int x :: st))) := by
  subst hq hz; exact Go.st (XS.iand X.here hx rfl hd rfl) kk
theorem g_ior (X : Stand p l e R s m args below meth c T locs cells slots) (hx : p.tables.exec = Jvm.exec) (hd : decode c.code pc = .ok (.ior, 1)) (hq : pc + 1 = q) (hz : x ||| y = z) (kk : Go p.tables e below Q (T.setTop (mkF m q Ls (.int z :: st)))) : Go p.tables e below Q (T.setTop (mkF m pc Ls (.int y :: .int x :: st))) := by
  subst hq hz; exact Go.st (XS.ior X.here hx rfl hd rfl) kk
theorem g_ishl (X : Stand p l e R s m args below meth c T locs cells slots) (hx : p.tables.exec = Jvm.exec) (hd : decode c.code pc = .ok (.ishl, 1)) (hq : pc + 1 = q) (hz : x <<< (y &&& 31) = z) (kk : Go p.tables e below Q (T.setTop (mkF m q Ls (.int z :: st)))) : Go p.tables e below Q (T.setTop (mkF m pc Ls (.int y :: .int x :: st))) := by
  subst hq hz; exact Go.st (XS.ishl X.here hx rfl hd rfl) kk
theorem g_ishr (X : Stand p l e R s m args below meth c T locs cells slots) (hx : p.tables.exec = Jvm.exec) (hd : decode c.code pc = .ok (.ishr, 1)) (hq : pc + 1 = q) (hz : x >>> (y &&& 31) = z) (kk : Go p.tables e below Q (T.setTop (mkF m q Ls (.int z :: st)))) : Go p.tables e below Q (T.setTop (mkF m pc Ls (.int y :: .int x :: st))) := by
  subst hq hz; exact Go.st (XS.ishr X.here hx rfl hd rfl) kk
theorem g_iushr (X : Stand p l e R s m args below meth c T locs cells slots) (hx : p.tables.exec = Jvm.exec) (hd : decode c.code pc = .ok (.iushr, 1)) (hq : pc + 1 = q) (hz : (x.toUInt32 >>> (y &&& 31).toUInt32).toInt32 = z) (kk : Go p.tables e below Q (T.setTop (mkF m q Ls (.int z :: st)))) : Go p.tables e below Q (T.setTop (mkF m pc Ls (.int y :: .int x :: st))) := by
  subst hq hz; exact Go.st (XS.iushr X.here hx rfl hd rfl) kk
theorem g_i2b (X : Stand p l e R s m args below meth c T locs cells slots) (hx : p.tables.exec = Jvm.exec) (hd : decode c.code pc = .ok (.i2b, 1)) (hq : pc + 1 = q) (hz : x.toInt8.toInt32 = z) (kk : Go p.tables e below Q (T.setTop (mkF m q Ls (.int z :: st)))) : Go p.tables e below Q (T.setTop (mkF m pc Ls (.int x :: st))) := by
  subst hq hz; exact Go.st (XS.i2b X.here hx rfl hd rfl) kk
theorem g_i2c (X : Stand p l e R s m args below meth c T locs cells slots) (hx : p.tables.exec = Jvm.exec) (hd : decode c.code pc = .ok (.i2c, 1)) (hq : pc + 1 = q) (hz : x.toUInt32.toUInt16.toUInt32.toInt32 = z) (kk : Go p.tables e below Q (T.setTop (mkF m q Ls (.int z :: st)))) : Go p.tables e below Q (T.setTop (mkF m pc Ls (.int x :: st))) := by
  subst hq hz; exact Go.st (XS.i2c X.here hx rfl hd rfl) kk
theorem g_iinc (X : Stand p l e R s m args below meth c T locs cells slots) (hx : p.tables.exec = Jvm.exec) {j : Int} (hd : decode c.code pc = .ok (.iinc k j, 3)) (hq : pc + 3 = q) (hl : Ls[k]? = some (.val (.int x))) (hz : x + Int32.ofInt j = z) (hl2 : storeLocals Ls k (.int z) = some Ls') (kk : Go p.tables e below Q (T.setTop (mkF m q Ls' st))) : Go p.tables e below Q (T.setTop (mkF m pc Ls st)) := by
  subst hq hz; exact Go.st (XS.iinc X.here hx rfl hd hl hl2) kk
theorem g_dup (X : Stand p l e R s m args below meth c T locs cells slots) (hx : p.tables.exec = Jvm.exec) (hd : decode c.code pc = .ok (.dup, 1)) (hq : pc + 1 = q) (hc : v.category = 1) (kk : Go p.tables e below Q (T.setTop (mkF m q Ls (v :: v :: st)))) : Go p.tables e below Q (T.setTop (mkF m pc Ls (v :: st))) := by
  subst hq; exact Go.st (XS.dup X.here hx rfl hd rfl hc) kk
theorem g_pop (X : Stand p l e R s m args below meth c T locs cells slots) (hx : p.tables.exec = Jvm.exec) (hd : decode c.code pc = .ok (.pop, 1)) (hq : pc + 1 = q) (hc : v.category = 1) (kk : Go p.tables e below Q (T.setTop (mkF m q Ls st))) : Go p.tables e below Q (T.setTop (mkF m pc Ls (v :: st))) := by
  subst hq; exact Go.st (XS.pop X.here hx rfl hd rfl hc) kk
theorem g_goto (X : Stand p l e R s m args below meth c T locs cells slots) (hx : p.tables.exec = Jvm.exec) {j : Int} (hd : decode c.code pc = .ok (.goto j, 3)) (ho : 0 ≤ (pc : Int) + j) (hp : ((pc : Int) + j).toNat = q) (kk : Go p.tables e below Q (T.setTop (mkF m q Ls st))) : Go p.tables e below Q (T.setTop (mkF m pc Ls st)) := by
  exact Go.st (XS.goto X.here hx rfl rfl hd ho hp) kk
theorem ifY (X : Stand p l e R s m args below meth c T locs cells slots) (hx : p.tables.exec = Jvm.exec) {j : Int} {cd : ClassFile.Cond} (hd : decode c.code pc = .ok (.ifCond cd j, 3)) (ho : 0 ≤ (pc : Int) + j) (hp : ((pc : Int) + j).toNat = q) (hc : ifCond.holds cd x = true) (kk : Go p.tables e below Q (T.setTop (mkF m q Ls st))) : Go p.tables e below Q (T.setTop (mkF m pc Ls (.int x :: st))) := by
  exact Go.st (XS.ifYes X.here hx rfl rfl hd rfl hc ho hp) kk
theorem ifN (X : Stand p l e R s m args below meth c T locs cells slots) (hx : p.tables.exec = Jvm.exec) {j : Int} {cd : ClassFile.Cond} (hd : decode c.code pc = .ok (.ifCond cd j, 3)) (hq : pc + 3 = q) (hc : ifCond.holds cd x = false) (kk : Go p.tables e below Q (T.setTop (mkF m q Ls st))) : Go p.tables e below Q (T.setTop (mkF m pc Ls (.int x :: st))) := by
  subst hq; exact Go.st (XS.ifNo X.here hx rfl hd rfl hc) kk
theorem icY (X : Stand p l e R s m args below meth c T locs cells slots) (hx : p.tables.exec = Jvm.exec) {j : Int} {cd : ClassFile.Cond} (hd : decode c.code pc = .ok (.if_icmp cd j, 3)) (ho : 0 ≤ (pc : Int) + j) (hp : ((pc : Int) + j).toNat = q) (hc : if_icmp.holds cd x y = true) (kk : Go p.tables e below Q (T.setTop (mkF m q Ls st))) : Go p.tables e below Q (T.setTop (mkF m pc Ls (.int y :: .int x :: st))) := by
  exact Go.st (XS.icmpYes X.here hx rfl rfl hd rfl hc ho hp) kk
theorem icN (X : Stand p l e R s m args below meth c T locs cells slots) (hx : p.tables.exec = Jvm.exec) {j : Int} {cd : ClassFile.Cond} (hd : decode c.code pc = .ok (.if_icmp cd j, 3)) (hq : pc + 3 = q) (hc : if_icmp.holds cd x y = false) (kk : Go p.tables e below Q (T.setTop (mkF m q Ls st))) : Go p.tables e below Q (T.setTop (mkF m pc Ls (.int y :: .int x :: st))) := by
  subst hq; exact Go.st (XS.icmpNo X.here hx rfl hd rfl hc) kk
theorem nnY (X : Stand p l e R s m args below meth c T locs cells slots) (hx : p.tables.exec = Jvm.exec) {j : Int} (hd : decode c.code pc = .ok (.ifnonnull j, 3)) (ho : 0 ≤ (pc : Int) + j) (hp : ((pc : Int) + j).toNat = q) (kk : Go p.tables e below Q (T.setTop (mkF m q Ls st))) : Go p.tables e below Q (T.setTop (mkF m pc Ls (.ref a :: st))) := by
  exact Go.st (XS.ifnonnullYes X.here hx rfl rfl hd rfl ho hp) kk
theorem g_acmp (X : Stand p l e R s m args below meth c T locs cells slots) (hx : p.tables.exec = Jvm.exec) {j : Int} {cd : ACond} (hd : decode c.code pc = .ok (.if_acmp cd j, 3)) (h1 : v.isRef = true) (h2 : w.isRef = true) {same : Bool} (hs : decide (v = w) = same) (ho : 0 ≤ (pc : Int) + j) (hp : q = if acV cd same = true then ((pc : Int) + j).toNat else pc + 3) (kk : Go p.tables e below Q (T.setTop (mkF m q Ls st))) : Go p.tables e below Q (T.setTop (mkF m pc Ls (w :: v :: st))) := by
  exact Go.st (acmp X hx rfl h1 h2 rfl hd rfl hs ho hp) kk
theorem g_new (X : Stand p l e R s m args below meth c T locs cells slots) (hx : p.tables.exec = Jvm.exec) (hZ : Z.Warmed39 s.vm) (hown : s.vm.findClass own = some m.cls) (w1 : (Jvm.Cond.classLink own index C).before a0 Z = true) (w2 : (Jvm.Cond.instantiable C k).before a0 Z = true) (w3 : (Jvm.Cond.initialized C).before a0 Z = true) (hc : cells + 1 ≤ R.cells) (hl : slots + k ≤ R.slots) (eT : T.heap = h) (hd : decode c.code pc = .ok (.new index, 3)) (hq : pc + 3 = q) (kk : ∀ (T' : State) (h' : Heap) (b : Addr), b = h.size → Stand p l e R s m args below meth c T' locs (cells + 1) (slots + k) → T'.heap = h' → Ext h h' → Exa Z h' b C → (∀ {O nm d : String} {ty : FieldType}, Laid Z a0 C O nm d → parseFieldDescriptor d = some ty → Fld Z h' b O nm d (defaultValue ty)) → Go p.tables e below Q (T'.setTop (mkF m q Ls (.ref b :: st)))) : Go p.tables e below Q (T.setTop (mkF m pc Ls st)) := by
  subst hq
  obtain ⟨T', h', X', e', E', A', D', -, st'⟩ := newO X hx hZ hown w1 w2 w3 eT (g := mkF m pc Ls st) rfl hd hc hl
  exact Go.to st' (kk T' h' _ rfl X' e' E' A' D')
theorem g_newA (X : Stand p l e R s m args below meth c T locs cells slots) (hx : p.tables.exec = Jvm.exec) (hZ : Z.Warmed39 s.vm) {aty : ArrayType} (w1 : (Jvm.Cond.arrayClass (newarray.typeOf aty)).before a0 Z = true) (hn : ¬ z < 0) {n : Nat} (hk : z.toNatClampNeg = n) (hb : n * 8 ≤ 536870912) (hc : cells + 1 ≤ R.cells) (hl : slots + n ≤ R.slots) (eT : T.heap = h) (hd : decode c.code pc = .ok (.newarray aty, 2)) (hq : pc + 2 = q) (kk : ∀ (T' : State) (h' : Heap) (kc : ClassId) (b : Addr), b = h.size → Stand p l e R s m args below meth c T' locs (cells + 1) (slots + n) → T'.heap = h' → Ext h h' → Arv Z h' b kc (newarray.typeOf aty) z (List.replicate n (defaultValue (newarray.typeOf aty))) (defaultValue (newarray.typeOf aty)) → Go p.tables e below Q (T'.setTop (mkF m q Ls (.ref b :: st)))) : Go p.tables e below Q (T.setTop (mkF m pc Ls (.int z :: st))) := by
  subst hq
  obtain ⟨T', h', kc, X', e', E', V', st'⟩ := newArr X hx hZ w1 eT (g := mkF m pc Ls (.int z :: st)) rfl hd rfl hn hk hb hc hl
  exact Go.to st' (kk T' h' kc _ rfl X' e' E' V')
theorem g_stC (X : Stand p l e R s m args below meth c T locs cells slots) (hx : p.tables.exec = Jvm.exec) (hZ : Z.Warmed39 s.vm) (A : Arv Z h a kc .char z vs d) {j : Int32} (hj : j.toNatClampNeg = i) (h0 : ¬ j < 0) (hjz : j < z) (hi : i < vs.length) (hn : nar .char x = y) (eT : T.heap = h) (hd : decode c.code pc = .ok (.castore, 1)) (hq : pc + 1 = q) (kk : ∀ (T' : State) (h' : Heap), Stand p l e R s m args below meth c T' (locs ++ [⟨a, i⟩]) cells slots → T'.heap = h' → Wr h h' a i (.int y) → Arv Z h' a kc .char z (vs.set i (.int y)) d → Go p.tables e below Q (T'.setTop (mkF m q Ls st))) : Go p.tables e below Q (T.setTop (mkF m pc Ls (.int x :: .int j :: .ref a :: st))) := by
  subst hq
  obtain ⟨T', h', X', e', W', V', st'⟩ := setC X hx hZ eT A hj h0 hjz hi hn (g := mkF m pc Ls (.int x :: .int j :: .ref a :: st)) rfl rfl hd
  exact Go.to st' (kk T' h' X' e' W' V')
theorem g_stB (X : Stand p l e R s m args below meth c T locs cells slots) (hx : p.tables.exec = Jvm.exec) (hZ : Z.Warmed39 s.vm) (A : Arv Z h a kc .byte z vs d) {j : Int32} (hj : j.toNatClampNeg = i) (h0 : ¬ j < 0) (hjz : j < z) (hi : i < vs.length) (hn : nar .byte x = y) (eT : T.heap = h) (hd : decode c.code pc = .ok (.bastore, 1)) (hq : pc + 1 = q) (kk : ∀ (T' : State) (h' : Heap), Stand p l e R s m args below meth c T' (locs ++ [⟨a, i⟩]) cells slots → T'.heap = h' → Wr h h' a i (.int y) → Arv Z h' a kc .byte z (vs.set i (.int y)) d → Go p.tables e below Q (T'.setTop (mkF m q Ls st))) : Go p.tables e below Q (T.setTop (mkF m pc Ls (.int x :: .int j :: .ref a :: st))) := by
  subst hq
  obtain ⟨T', h', X', e', W', V', st'⟩ := setB X hx hZ eT A hj h0 hjz hi hn (g := mkF m pc Ls (.int x :: .int j :: .ref a :: st)) rfl rfl hd
  exact Go.to st' (kk T' h' X' e' W' V')
theorem g_ldC (X : Stand p l e R s m args below meth c T locs cells slots) (hx : p.tables.exec = Jvm.exec) (hZ : Z.Warmed39 s.vm) (A : Arv Z h a kc .char z vs d) {j : Int32} (hj : j.toNatClampNeg = i) (h0 : ¬ j < 0) (hjz : j < z) (hv : vs.getD i d = v) (eT : T.heap = h) (hd : decode c.code pc = .ok (.caload, 1)) (hq : pc + 1 = q) (kk : Go p.tables e below Q (T.setTop (mkF m q Ls (v :: st)))) : Go p.tables e below Q (T.setTop (mkF m pc Ls (.int j :: .ref a :: st))) := by
  subst hq
  exact Go.to (ldC X hx hZ eT A hj h0 hjz hv (g := mkF m pc Ls (.int j :: .ref a :: st)) rfl rfl hd) kk
theorem g_ldB (X : Stand p l e R s m args below meth c T locs cells slots) (hx : p.tables.exec = Jvm.exec) (hZ : Z.Warmed39 s.vm) (A : Arv Z h a kc .byte z vs d) {j : Int32} (hj : j.toNatClampNeg = i) (h0 : ¬ j < 0) (hjz : j < z) (hv : vs.getD i d = v) (eT : T.heap = h) (hd : decode c.code pc = .ok (.baload, 1)) (hq : pc + 1 = q) (kk : Go p.tables e below Q (T.setTop (mkF m q Ls (v :: st)))) : Go p.tables e below Q (T.setTop (mkF m pc Ls (.int j :: .ref a :: st))) := by
  subst hq
  exact Go.to (ldB X hx hZ eT A hj h0 hjz hv (g := mkF m pc Ls (.int j :: .ref a :: st)) rfl rfl hd) kk
theorem g_len (X : Stand p l e R s m args below meth c T locs cells slots) (hx : p.tables.exec = Jvm.exec) (hZ : Z.Warmed39 s.vm) (A : Arv Z h a kc ty z vs d) (eT : T.heap = h) (hd : decode c.code pc = .ok (.arraylength, 1)) (hq : pc + 1 = q) (kk : Go p.tables e below Q (T.setTop (mkF m q Ls (.int z :: st)))) : Go p.tables e below Q (T.setTop (mkF m pc Ls (.ref a :: st))) := by
  subst hq
  exact Go.to (alen X hx hZ eT A (g := mkF m pc Ls (.ref a :: st)) rfl rfl hd) kk
theorem g_getF (X : Stand p l e R s m args below meth c T locs cells slots) (hx : p.tables.exec = Jvm.exec) (hZ : Z.Warmed39 s.vm) (hown : s.vm.findClass own = some m.cls) {R0 host : String} (wl : (Jvm.Cond.fieldLink own index R0 f dd).before a0 Z = true ∨ (Jvm.Cond.fieldLinkNest own index R0 f dd host).before a0 Z = true) (via : Via Z R0 O f dd) (F : Fld Z h a O f dd v) (eT : T.heap = h) (hd : decode c.code pc = .ok (.getfield index, 3)) (hq : pc + 3 = q) (kk : ∀ (T' : State), Stand p l e R s m args below meth c T' locs cells slots → T'.heap = h → Go p.tables e below Q (T'.setTop (mkF m q Ls (v :: st)))) : Go p.tables e below Q (T.setTop (mkF m pc Ls (.ref a :: st))) := by
  subst hq
  obtain ⟨T', X', e', st'⟩ := getF X hx hZ hown wl via eT F (g := mkF m pc Ls (.ref a :: st)) rfl rfl hd
  exact Go.to st' (kk T' X' e')
theorem g_putF (X : Stand p l e R s m args below meth c T locs cells slots) (hx : p.tables.exec = Jvm.exec) (hZ : Z.Warmed39 s.vm) (hown : s.vm.findClass own = some m.cls) {R0 host : String} {kk2 : Nat} (wl : (Jvm.Cond.fieldLink own index R0 f dd).before a0 Z = true ∨ (Jvm.Cond.fieldLinkNest own index R0 f dd host).before a0 Z = true) (via : Via Z R0 O f dd) {old : Value} (F : Fld Z h a O f dd old) (E : Exa Z h a C) (L : (Jvm.Cond.lays C O f dd).before a0 Z = true ∨ ((Jvm.Cond.laysFinal C O f dd).before a0 Z = true ∧ own = O ∧ meth.name = "<init>")) (wi : (Jvm.Cond.instantiable C kk2).before a0 Z = true) (hty : parseFieldDescriptor dd = some ty) (hn : narrow ty v = v) (hf : fits ty v = true) (eT : T.heap = h) (hd : decode c.code pc = .ok (.putfield index, 3)) (hq : pc + 3 = q) (kk : ∀ (T' : State) (h' : Heap), Stand p l e R s m args below meth c T' (locs ++ [⟨a, Jvm.RoadKit.slotOf Z O f dd⟩]) cells slots → T'.heap = h' → Wr h h' a (Jvm.RoadKit.slotOf Z O f dd) v → Go p.tables e below Q (T'.setTop (mkF m q Ls st))) : Go p.tables e below Q (T.setTop (mkF m pc Ls (v :: .ref a :: st))) := by
  subst hq
  obtain ⟨T', h', X', e', W', st'⟩ := putF X hx hZ hown wl via eT F E L wi hty hn hf (g := mkF m pc Ls (v :: .ref a :: st)) rfl rfl hd
  exact Go.to st' (kk T' h' X' e' W')
theorem g_getS (X : Stand p l e R s m args below meth c T locs cells slots) (hx : p.tables.exec = Jvm.exec) (hZ : Z.Warmed39 s.vm) (hown : s.vm.findClass own = some m.cls) {R0 host : String} (wl : (Jvm.Cond.fieldLink own index R0 f dd).before a0 Z = true ∨ (Jvm.Cond.fieldLinkNest own index R0 f dd host).before a0 Z = true) (via : Via Z R0 O f dd) (F : Sta Z h O f dd v) (eT : T.heap = h) (hd : decode c.code pc = .ok (.getstatic index, 3)) (hq : pc + 3 = q) (kk : ∀ (T' : State), Stand p l e R s m args below meth c T' locs cells slots → T'.heap = h → Go p.tables e below Q (T'.setTop (mkF m q Ls (v :: st)))) : Go p.tables e below Q (T.setTop (mkF m pc Ls st)) := by
  subst hq
  obtain ⟨T', X', e', st'⟩ := getS2 X hx hZ hown wl via eT F (g := mkF m pc Ls st) rfl hd
  exact Go.to st' (kk T' X' e')
theorem g_cast (X : Stand p l e R s m args below meth c T locs cells slots) (hx : p.tables.exec = Jvm.exec) (hZ : Z.Warmed39 s.vm) (hown : s.vm.findClass own = some m.cls) {K : String} (w1 : (Jvm.Cond.classLink own index K).before a0 Z = true) (I : Ins Z h a K true) (eT : T.heap = h) (hd : decode c.code pc = .ok (.checkcast index, 3)) (hq : pc + 3 = q) (kk : ∀ (T' : State), Stand p l e R s m args below meth c T' locs cells slots → T'.heap = h → Go p.tables e below Q (T'.setTop (mkF m q Ls (.ref a :: st)))) : Go p.tables e below Q (T.setTop (mkF m pc Ls (.ref a :: st))) := by
  subst hq
  obtain ⟨T', X', e', st'⟩ := castY X hx hZ hown w1 eT I (g := mkF m pc Ls (.ref a :: st)) rfl rfl hd
  exact Go.to st' (kk T' X' e')
theorem g_insY (X : Stand p l e R s m args below meth c T locs cells slots) (hx : p.tables.exec = Jvm.exec) (hZ : Z.Warmed39 s.vm) (hown : s.vm.findClass own = some m.cls) {K : String} (w1 : (Jvm.Cond.classLink own index K).before a0 Z = true) (I : Ins Z h a K true) (eT : T.heap = h) (hd : decode c.code pc = .ok (.instanceof index, 3)) (hq : pc + 3 = q) (kk : ∀ (T' : State), Stand p l e R s m args below meth c T' locs cells slots → T'.heap = h → Go p.tables e below Q (T'.setTop (mkF m q Ls (.int 1 :: st)))) : Go p.tables e below Q (T.setTop (mkF m pc Ls (.ref a :: st))) := by
  subst hq
  obtain ⟨T', X', e', st'⟩ := instY X hx hZ hown w1 eT I (g := mkF m pc Ls (.ref a :: st)) rfl rfl hd
  exact Go.to st' (kk T' X' e')
theorem g_init0 (X : Stand p l e R s m args below meth c T locs cells slots) (hx : p.tables.exec = Jvm.exec) (hZ : Z.Warmed39 s.vm) (hown : s.vm.findClass own = some m.cls) (w1 : (Jvm.Cond.methodLink own index Lib.objectInit).before a0 Z = true) (w2 : (Jvm.Cond.instanceMethod Lib.objectInit).before a0 Z = true) (w3 : (Jvm.Cond.code Lib.objectInit ⟨#[0xb1]⟩ 1 none).before a0 Z = true) (hsize : Ls.size = c.maxLocals) (hf : 1 ≤ R.frames) {W : Nat} (hW : (st.map fun v => v.category).sum ≤ W) (hl : W + 12 ≤ R.locals) (eT : T.heap = h) (hd : decode c.code pc = .ok (.invokespecial index, 3)) (hq : pc + 3 = q) (kk : ∀ (T' : State), Stand p l e R s m args below meth c T' locs cells slots → T'.heap = h → Go p.tables e below Q (T'.setTop (mkF m q Ls st))) : Go p.tables e below Q (T.setTop (mkF m pc Ls (.ref a :: st))) := by
  subst hq
  obtain ⟨T', X', e', st'⟩ := initO X hx hZ hown w1 w2 w3 eT (g := mkF m pc Ls (.ref a :: st)) rfl hsize rfl hd hf (W := W) (by show 2 * 0 + _ ≤ _; omega) hl
  exact Go.to st' (kk T' X' e')
theorem g_ldc {vm0 : Vm} (X : Stand p l e R (s.setVm vm0) m args below meth c T locs cells slots) (hx : p.tables.exec = Jvm.exec) (hZ : Z.Warmed39 vm0) (hown : vm0.findClass own = some m.cls) {text : String} (w : (Jvm.Cond.stringLink own index text).before a0 Z = true) (wS : ∀ a ∈ Bundle.stringAtoms, a.before a0 Z = true) {k0 : Nat} (hS : s.Since vm0 k0) (hk : k0 ≤ h.size) (hEL : EW Z a0 EL) (hmem : (own, index) ∈ EL) (H : CHv Z EL vm0 h) (ht : (∀ c ∈ text.toList, c.toNat < 256) ∧ text.toList.map (fun c => Value.int (Jvm.Lit.byteI c.toNat.toUInt16)) = vs) (hz : ¬ z < 0) (hl : z.toNatClampNeg = vs.length) {n : Nat} (hn : 4 * text.toList.length ≤ n) (hbig : n ≤ 536870912) (hc : cells + 2 ≤ R.cells) (hl' : slots + (n + 4) ≤ R.slots) (eT : T.heap = h) (hd : decode c.code pc = .ok (.ldc index, 2)) (hq : pc + 2 = q) (kk : ∀ (a : Addr) (T' : State) (h' : Heap) (k1 : Nat) (b : Addr) (k : ClassId), Stand p l e R (s.setVm T'.vm) m args below meth c T' locs (cells + 2) (slots + (n + 4)) → T'.heap = h' → Ext h h' → s.Since T'.vm k1 → k1 ≤ h'.size → Z.Warmed39 T'.vm → T'.vm.findClass own = some m.cls → Exa Z h' a "java/lang/String" → Fld Z h' a "java/lang/String" "coder" "B" (.int 0) → Fld Z h' a "java/lang/String" "value" "[B" (.ref b) → Arv Z h' b k .byte z vs (.int 0) → a < h'.size → b < h'.size → CHr Z EL vm0 h T'.vm h' → (∀ x, Safe Z EL T'.vm h' x → x ≠ a ∧ x ≠ b) → Go p.tables e below Q (T'.setTop (mkF m q Ls (.ref a :: st)))) : Go p.tables e below Q (T.setTop (mkF m pc Ls st)) := by
  subst hq
  obtain ⟨a, T', h', k1, b, k, X', e', E', S', hk', hZ', ho', A', F1, F2, V', l1, l2, R', -, sn, st'⟩ := ldcCH X hx hZ hown w wS eT hS hk hEL hmem H ht hz hl (g := mkF m pc Ls st) rfl hd hn hbig hc hl'
  exact Go.to st' (kk a T' h' k1 b k X' e' E' S' hk' hZ' ho' A' F1 F2 V' l1 l2 R' sn)
theorem g_ldcI (X : Stand p l e R s m args below meth c T locs cells slots) (hx : p.tables.exec = Jvm.exec) {a1 : Array Value} (hZ : Z.Warmed39 s.vm) (hown : s.vm.findClass own = some m.cls) (w : (Jvm.Cond.constant own index z).before a0 Z = true) (hd : decode c.code pc = .ok (.ldc index, 2)) (hq : pc + 2 = q) (kk : Go p.tables e below Q (T.setTop (mkF m q Ls (.int z :: st)))) : Go p.tables e below Q (T.setTop (mkF m pc Ls st)) := by
  subst hq; exact Go.to (X.ldcInt hx hown (mvT hZ w) (g := mkF m pc Ls st) rfl hd) kk
theorem g_sp {y : MethodName} {bytes : ByteArray} {maxL : Nat} {W nk ns : Nat} {argsL st0 : List Value} {Qc : Option Value → Heap → List Loc → Prop} (X : Stand p l e R s m args below meth c T locs cells slots) (hx : p.tables.exec = Jvm.exec) (hZ : Z.Warmed39 s.vm) (hown : s.vm.findClass own = some m.cls) (w1 : (Jvm.Cond.methodLink own index y).before a0 Z = true) (w2 : (Jvm.Cond.instanceMethod y).before a0 Z = true) (w3 : (Jvm.Cond.code y bytes maxL none).before a0 Z = true) (hy1 : y.name = "<init>") (hyc : y.cls ≠ "java/lang/invoke/MethodHandle" ∧ y.cls ≠ "java/lang/invoke/VarHandle") (eT : T.heap = h) (hK : BackQ l R p e below s args y 3 W ((.ref a :: argsL).toArray) h nk ns Qc) (hsize : Ls.size = c.maxLocals) (hlen : ∀ sig, parseMethodDescriptor y.desc = some sig → argsL.length = sig.parameters.length) (hst : st0 = argsL.reverse ++ .ref a :: st) (hW : (st.map fun v => v.category).sum ≤ W) (hd : decode c.code pc = .ok (.invokespecial index, 3)) (hq : pc + 3 = q) (hc : cells + nk ≤ R.cells) (hs : slots + ns ≤ R.slots) (kk : ∀ (v : Option Value) (T' : State) (L : List Loc), Stand p l e R s m args below meth c T' (locs ++ L) (cells + nk) (slots + ns) → Qc v T'.heap L → Go p.tables e below Q (T'.setTop (mkF m q Ls (v.toList ++ st)))) : Go p.tables e below Q (T.setTop (mkF m pc Ls st0)) := by
  subst hq
  obtain ⟨v, T', L, X', hQ, st'⟩ := callSp X hx hZ hown hy1 w1 w2 w3 hyc eT hK (g := mkF m pc Ls st0) rfl hsize hlen hst (by show 2 * 0 + _ ≤ _; omega) hd hc hs
  exact Go.run st' (kk v T' L X' hQ)
theorem g_st {y : MethodName} {bytes : ByteArray} {maxL : Nat} {ret : Option FieldType} {W nk ns : Nat} {argsL st0 : List Value} {Qc : Option Value → Heap → List Loc → Prop} (X : Stand p l e R s m args below meth c T locs cells slots) (hx : p.tables.exec = Jvm.exec) (hZ : Z.Warmed39 s.vm) (hown : s.vm.findClass own = some m.cls) (w1 : (Jvm.Cond.methodLink own index y).before a0 Z = true) (w2 : (Jvm.Cond.static y).before a0 Z = true) (w3 : (Jvm.Cond.initialized y.cls).before a0 Z = true) (w4 : (Jvm.Cond.code y bytes maxL ret).before a0 Z = true) (hyc : y.cls ≠ "java/lang/invoke/MethodHandle" ∧ y.cls ≠ "java/lang/invoke/VarHandle") (eT : T.heap = h) (hK : BackQ l R p e below s args y 3 W (argsL.toArray) h nk ns Qc) (hsize : Ls.size = c.maxLocals) (hlen : ∀ sig, parseMethodDescriptor y.desc = some sig → argsL.length = sig.parameters.length) (hst : st0 = argsL.reverse ++ st) (hW : (st.map fun v => v.category).sum ≤ W) (hd : decode c.code pc = .ok (.invokestatic index, 3)) (hq : pc + 3 = q) (hc : cells + nk ≤ R.cells) (hs : slots + ns ≤ R.slots) (kk : ∀ (v : Option Value) (T' : State) (L : List Loc), Stand p l e R s m args below meth c T' (locs ++ L) (cells + nk) (slots + ns) → Qc v T'.heap L → Go p.tables e below Q (T'.setTop (mkF m q Ls (v.toList ++ st)))) : Go p.tables e below Q (T.setTop (mkF m pc Ls st0)) := by
  subst hq
  obtain ⟨v, T', L, X', hQ, st'⟩ := callSt X hx hZ hown w1 w2 w3 w4 hyc eT hK (g := mkF m pc Ls st0) rfl hsize hlen hst (by show 2 * 0 + _ ≤ _; omega) hd hc hs
  exact Go.run st' (kk v T' L X' hQ)
theorem g_vi {y z : MethodName} {W nk ns : Nat} {argsL st0 : List Value} {Qc : Option Value → Heap → List Loc → Prop} (X : Stand p l e R s m args below meth c T locs cells slots) (hx : p.tables.exec = Jvm.exec) (hZ : Z.Warmed39 s.vm) (hown : s.vm.findClass own = some m.cls) (w1 : (Jvm.Cond.methodLink own index y).before a0 Z = true) (w2 : (Jvm.Cond.declares y).before a0 Z = true) (nf : NotFace s y) (w4 : (Jvm.Cond.selects C y z).before a0 Z = true) (w5 : (Jvm.Cond.instanceMethod z).before a0 Z = true) (hyc : y.cls ≠ "java/lang/invoke/MethodHandle" ∧ y.cls ≠ "java/lang/invoke/VarHandle") (E : Exa Z h a C) (eT : T.heap = h) (hK : BackQ l R p e below s args z 3 W ((.ref a :: argsL).toArray) h nk ns Qc) (hsize : Ls.size = c.maxLocals) (hlen : ∀ sig, parseMethodDescriptor y.desc = some sig → argsL.length = sig.parameters.length) (hst : st0 = argsL.reverse ++ .ref a :: st) (hW : (st.map fun v => v.category).sum ≤ W) (hd : decode c.code pc = .ok (.invokevirtual index, 3)) (hq : pc + 3 = q) (hc : cells + nk ≤ R.cells) (hs : slots + ns ≤ R.slots) (kk : ∀ (v : Option Value) (T' : State) (L : List Loc), Stand p l e R s m args below meth c T' (locs ++ L) (cells + nk) (slots + ns) → Qc v T'.heap L → Go p.tables e below Q (T'.setTop (mkF m q Ls (v.toList ++ st)))) : Go p.tables e below Q (T.setTop (mkF m pc Ls st0)) := by
  subst hq
  obtain ⟨v, T', L, X', hQ, st'⟩ := callVi X hx hZ hown w1 w2 nf w4 w5 hyc eT E hK (g := mkF m pc Ls st0) rfl hsize hlen hst (by show 2 * 0 + _ ≤ _; omega) hd hc hs
  exact Go.run st' (kk v T' L X' hQ)
theorem g_vu {y z : MethodName} {W nk ns : Nat} {argsL st0 : List Value} {Qc : Option Value → Heap → List Loc → Prop} (X : Stand p l e R s m args below meth c T locs cells slots) (hx : p.tables.exec = Jvm.exec) (hZ : Z.Warmed39 s.vm) (hown : s.vm.findClass own = some m.cls) {owner : String} (w1 : (Jvm.Cond.methodLink own index y).before a0 Z = true) (w2 : (Jvm.Cond.sameMethod y.cls owner y.name y.desc).before a0 Z = true) (w3 : (Jvm.Cond.declares ⟨owner, y.name, y.desc⟩).before a0 Z = true) (hyc : owner ≠ "java/lang/invoke/MethodHandle" ∧ owner ≠ "java/lang/invoke/VarHandle") (w4 : (Jvm.Cond.selects C y z).before a0 Z = true) (w5 : (Jvm.Cond.instanceMethod z).before a0 Z = true) (E : Exa Z h a C) (eT : T.heap = h) (hK : BackQ l R p e below s args z 3 W ((.ref a :: argsL).toArray) h nk ns Qc) (hsize : Ls.size = c.maxLocals) (hlen : ∀ sig, parseMethodDescriptor y.desc = some sig → argsL.length = sig.parameters.length) (hst : st0 = argsL.reverse ++ .ref a :: st) (hW : (st.map fun v => v.category).sum ≤ W) (hd : decode c.code pc = .ok (.invokevirtual index, 3)) (hq : pc + 3 = q) (hc : cells + nk ≤ R.cells) (hs : slots + ns ≤ R.slots) (kk : ∀ (v : Option Value) (T' : State) (L : List Loc), Stand p l e R s m args below meth c T' (locs ++ L) (cells + nk) (slots + ns) → Qc v T'.heap L → Go p.tables e below Q (T'.setTop (mkF m q Ls (v.toList ++ st)))) : Go p.tables e below Q (T.setTop (mkF m pc Ls st0)) := by
  subst hq
  obtain ⟨v, T', L, X', hQ, st'⟩ := callVu X hx hZ hown w1 w2 w3 hyc w4 w5 eT E hK (g := mkF m pc Ls st0) rfl hsize hlen hst (by show 2 * 0 + _ ≤ _; omega) hd hc hs
  exact Go.run st' (kk v T' L X' hQ)
theorem g_spS {vm0 : Vm} {y : MethodName} {bytes : ByteArray} {maxL : Nat} {W nk ns : Nat} {argsL st0 : List Value} {Qc : Option Value → Heap → List Loc → Prop} (X : Stand p l e R (s.setVm vm0) m args below meth c T locs cells slots) (hx : p.tables.exec = Jvm.exec) (hZ : Z.Warmed39 vm0) (hown : vm0.findClass own = some m.cls) {n0 : Nat} (hS : s.Since vm0 n0) (hk : n0 ≤ h.size) (w1 : (Jvm.Cond.methodLink own index y).before a0 Z = true) (w2 : (Jvm.Cond.instanceMethod y).before a0 Z = true) (w3 : (Jvm.Cond.code y bytes maxL none).before a0 Z = true) (hy1 : y.name = "<init>") (hyc : y.cls ≠ "java/lang/invoke/MethodHandle" ∧ y.cls ≠ "java/lang/invoke/VarHandle") (eT : T.heap = h) (hK : BackSQ l R p e below s vm0 args y 3 W ((.ref a :: argsL).toArray) h nk ns Z EL Qc) (hsize : Ls.size = c.maxLocals) (hlen : ∀ sig, parseMethodDescriptor y.desc = some sig → argsL.length = sig.parameters.length) (hst : st0 = argsL.reverse ++ .ref a :: st) (hW : (st.map fun v => v.category).sum ≤ W) (hd : decode c.code pc = .ok (.invokespecial index, 3)) (hq : pc + 3 = q) (hc : cells + nk ≤ R.cells) (hs : slots + ns ≤ R.slots) (kk : ∀ (v : Option Value) (T' : State) (L : List Loc), AfterS p l e R s m args below meth c Z EL own vm0 h T' (locs ++ L) (cells + nk) (slots + ns) → Qc v T'.heap L → Go p.tables e below Q (T'.setTop (mkF m q Ls (v.toList ++ st)))) : Go p.tables e below Q (T.setTop (mkF m pc Ls st0)) := by
  subst hq
  obtain ⟨v, T', L, X', hQ, st'⟩ := callSpS X hx hZ hown hS hk hy1 w1 w2 w3 hyc eT hK (g := mkF m pc Ls st0) rfl hsize hlen hst (by show 2 * 0 + _ ≤ _; omega) hd hc hs
  exact Go.run st' (kk v T' L X' hQ)
theorem g_stS {vm0 : Vm} {y : MethodName} {bytes : ByteArray} {maxL : Nat} {ret : Option FieldType} {W nk ns : Nat} {argsL st0 : List Value} {Qc : Option Value → Heap → List Loc → Prop} (X : Stand p l e R (s.setVm vm0) m args below meth c T locs cells slots) (hx : p.tables.exec = Jvm.exec) (hZ : Z.Warmed39 vm0) (hown : vm0.findClass own = some m.cls) {n0 : Nat} (hS : s.Since vm0 n0) (hk : n0 ≤ h.size) (w1 : (Jvm.Cond.methodLink own index y).before a0 Z = true) (w2 : (Jvm.Cond.static y).before a0 Z = true) (w3 : (Jvm.Cond.initialized y.cls).before a0 Z = true) (w4 : (Jvm.Cond.code y bytes maxL ret).before a0 Z = true) (hyc : y.cls ≠ "java/lang/invoke/MethodHandle" ∧ y.cls ≠ "java/lang/invoke/VarHandle") (eT : T.heap = h) (hK : BackSQ l R p e below s vm0 args y 3 W (argsL.toArray) h nk ns Z EL Qc) (hsize : Ls.size = c.maxLocals) (hlen : ∀ sig, parseMethodDescriptor y.desc = some sig → argsL.length = sig.parameters.length) (hst : st0 = argsL.reverse ++ st) (hW : (st.map fun v => v.category).sum ≤ W) (hd : decode c.code pc = .ok (.invokestatic index, 3)) (hq : pc + 3 = q) (hc : cells + nk ≤ R.cells) (hs : slots + ns ≤ R.slots) (kk : ∀ (v : Option Value) (T' : State) (L : List Loc), AfterS p l e R s m args below meth c Z EL own vm0 h T' (locs ++ L) (cells + nk) (slots + ns) → Qc v T'.heap L → Go p.tables e below Q (T'.setTop (mkF m q Ls (v.toList ++ st)))) : Go p.tables e below Q (T.setTop (mkF m pc Ls st0)) := by
  subst hq
  obtain ⟨v, T', L, X', hQ, st'⟩ := callStS X hx hZ hown hS hk w1 w2 w3 w4 hyc eT hK (g := mkF m pc Ls st0) rfl hsize hlen hst (by show 2 * 0 + _ ≤ _; omega) hd hc hs
  exact Go.run st' (kk v T' L X' hQ)
theorem g_cp (X : Stand p l e R s m args below meth c T locs cells slots) (hx : p.tables.exec = Jvm.exec) (hZ : Z.Warmed39 s.vm) (hown : s.vm.findClass own = some m.cls) (w1 : (Jvm.Cond.methodLink own index Jvm.Stand.acN).before a0 Z = true) (w2 : (Jvm.Cond.native Jvm.Stand.acN).before a0 Z = true) (w3 : (Jvm.Cond.static Jvm.Stand.acN).before a0 Z = true) (w4 : (Jvm.Cond.initialized "java/lang/System").before a0 Z = true) {b : Addr} {k' : ClassId} {ty' : FieldType} {z' sp dp nn : Int32} {vd us : List Value} {d2 : Value} (A : Arv Z h a kc ty z vs d) (B : Arv Z h b k' ty' z' vd d2) (hty : (ty = ty' ∧ refKind ty = false) ∨ (refKind ty = true ∧ refKind ty' = true ∧ StoL Z h b us)) (h1 : ¬ sp < 0) (h2 : ¬ dp < 0) (h3 : ¬ nn < 0) (h4 : sp.toNatClampNeg + nn.toNatClampNeg ≤ z.toNatClampNeg) (h5 : dp.toNatClampNeg + nn.toNatClampNeg ≤ z'.toNatClampNeg) (hus : us = (List.range nn.toNatClampNeg).map fun i => vs.getD (sp.toNatClampNeg + i) d) (hl : dp.toNatClampNeg + nn.toNatClampNeg ≤ vd.length) {n0 : Nat} (N : Fr n0 locs) (ge : n0 ≤ b) (hsize : Ls.size = c.maxLocals) (hf : 1 ≤ R.frames) {W : Nat} (hW : (st.map fun v => v.category).sum ≤ W) (hlo : W + (nativeFrameWords "java/lang/System" "arraycopy" 5 + 11) ≤ R.locals) (eT : T.heap = h) (hd : decode c.code pc = .ok (.invokestatic index, 3)) (hq : pc + 3 = q) (kk : ∀ (T' : State) (h' : Heap) (L : List Loc), Stand p l e R s m args below meth c T' L cells slots → T'.heap = h' → Fr n0 L → Keep h h' [b] → Arv Z h' b k' ty' z' (vd.take dp.toNatClampNeg ++ us ++ vd.drop (dp.toNatClampNeg + nn.toNatClampNeg)) d2 → Go p.tables e below Q (T'.setTop (mkF m q Ls st))) : Go p.tables e below Q (T.setTop (mkF m pc Ls (.int nn :: .int dp :: .ref b :: .int sp :: .ref a :: st))) := by
  subst hq
  obtain ⟨T', h', L, X', e', N', K', V', st'⟩ := cpA X hx hZ hown w1 w2 w3 w4 eT A B hty h1 h2 h3 h4 h5 hus hl N ge (g := mkF m pc Ls (.int nn :: .int dp :: .ref b :: .int sp :: .ref a :: st)) rfl hsize rfl hd hf (W := W) (by show 2 * 0 + _ ≤ _; omega) hlo
  exact Go.to st' (kk T' h' L X' e' N' K' V')
end Steps1
end Jvm.OwnKit

namespace Jvm.OwnKit
open Jvm Jvm.ClassFile Sem Op Lib Jvm.Free Jvm.Stand Jvm.LawKit Jvm.RoadKit Bundle Jvm.Free.Exc
/-- a contract of a method beneath which a stack trace is filled in -/
def ConK (l : Launch) (Z : State) (EL : List (String × Nat)) (y : MethodName) (bytes : ByteArray) (maxL : Nat) (ret : Option FieldType) (rm : Room) (as' : Array Value) (h : Heap) (sl : List Addr) (Qc : Option Value → Heap → List Loc → Prop) : Prop :=
  ∀ ws : List Jvm.Cond, MetFree l y (head1 (Jvm.Cond.code y bytes maxL ret :: ws) rm) (fun a U => a = as' ∧ Z.Warmed39 U.vm ∧ U.heap = h ∧ CHv Z EL U.vm h ∧ ∀ x ∈ sl, Safe Z EL U.vm h x) (fun _ _ bl s _ => s.vm.MethodsKnown ∧ s.vm.FramesKnown bl) (fun _ U o U' => SEnd Z EL U Qc rm.cells rm.slots o U')
theorem ConK.intro {l : Launch} {Z : State} {EL : List (String × Nat)} {y : MethodName} {bytes : ByteArray} {maxL : Nat} {ret : Option FieldType} {rm : Room} {as' : Array Value} {h : Heap} {sl : List Addr} {Qc : Option Value → Heap → List Loc → Prop} (pn : plainFor y = true)
    (body : ∀ (p : Program) (e : Env) (s : State) (m : MethodId) (below : List Frame) (meth : Method) (c : Code) (T : State) (v0 : Vm), Stand p l e rm (s.setVm v0) m as' below meth c T [] 0 0 → p.tables.exec = Jvm.exec → c.code = bytes → c.maxLocals = maxL →
      v0.findClass y.cls = some m.cls → meth.name = y.name → meth.sig.returnType = ret → meth.locks = false → Z.Warmed39 v0 → T.heap = h → s.Since v0 0 → CHr Z EL s.vm s.heap v0 h → (∀ x ∈ sl, Safe Z EL v0 h x) → s.heap = h → v0.MethodsKnown → v0.FramesKnown below →
      Go p.tables e below (SEnd Z EL s Qc rm.cells rm.slots) (T.setTop (entryFrame m as' maxL))) : ConK l Z EL y bytes maxL ret rm as' h sl Qc := by
  intro ws
  refine MetFree.of_bodySF pn hisR ?_
  intro p e s m args below meth c s₁ Bd hml0 hP hK
  obtain ⟨rfl, hZ, hh, hC, hs⟩ := hP
  exact body p e s m below meth c s₁ s.vm (Stand.of_body Bd) Bd.exec Bd.bytes hml0 (findClass_of_methodNamed Bd.named) (name_of_methodNamed Bd.named Bd.method).1 Bd.returns Bd.notSynchronized hZ (by rw [← hh, Bd.state]; rfl) ((State.WarmedH.refl s).since 0) (by rw [hh]; exact CHr.refl hC) hs hh hK.1 hK.2
section
variable {p : Program} {l : Launch} {e : Env} {R : Room} {s : State} {m : MethodId} {args : Array Value} {below : List Frame} {meth : Method} {c : Code} {T : State} {locs : List Loc} {cells slots : Nat} {Z : State} {a0 : Array Value} {EL : List (String × Nat)} {h : Heap} {Qc : Option Value → Heap → List Loc → Prop} {vm0 : Vm} {n0 : Nat}
  {y z : MethodName} {bytes : ByteArray} {maxL : Nat} {ret : Option FieldType} {rm : Room} {as' : Array Value} {own C : String} {index count W k n len : Nat} {g : JFrame} {a : Addr} {argsL rest : List Value}
theorem ConK.back {sl : List Addr} (hM : ConK l Z EL y bytes maxL ret rm as' h sl Qc) (hZ : Z.Warmed39 vm0) (wc : (Jvm.Cond.code y bytes maxL ret).before a0 Z = true) (wz : (Jvm.Cond.initialized y.cls).before a0 Z = true) (hf : rm.frames + 1 ≤ R.frames) (hl : W + (maxL + 11) + rm.locals ≤ R.locals) (hEL : EW Z a0 EL) (H : CHv Z EL vm0 h)
    (hs : ∀ x ∈ sl, Safe Z EL vm0 h x) (hlt : ∀ x ∈ sl, x < h.size) (hTK : vm0.MethodsKnown) (hBelow : vm0.FramesKnown below) : BackSQ l R p e below s vm0 args y len W as' h rm.cells rm.slots Z EL Qc :=
  BackS.of_freeWG (bytes := bytes) (maxL := maxL) (ret := ret) (E := fun _ first o t L k n => k = rm.cells ∧ n = rm.slots ∧ (∃ v, o = .returned v ∧ Qc v t.heap L) ∧ CHr Z EL first.vm first.heap t.vm t.heap) (hM []) hf hl
    (fun m meth c A a Y hp => have hU : Z.Warmed39 A.U.vm := wtrans (s := s.setVm vm0) hZ Y.warmed
      ⟨by show (Cond.and _ .tt).before a A.U = true; rw [Cond.before_and, mv hU wc]; rfl, mv hU wc, mv hU wz, hp.2.2.1, hp.2.2.2⟩)
    (fun m meth c A a g mk Y hp => ⟨hp.1, wtrans (s := s.setVm vm0) hZ Y.warmed, hp.2.1, (CHv.at Y hZ hEL H).1, fun x hx => (CHv.at Y hZ hEL H).safe (hlt x hx) (hs x hx)⟩) (fun m meth c A a g mk Y _ hg => known_frames Y hg hTK hBelow)
    (fun _ _ _ _ ⟨v, L, h1, h2, h3, h4⟩ => ⟨L, _, _, h4, rfl, rfl, ⟨v, h1, h2⟩, h3⟩)
    (fun m meth c A a g mk v t L k n Y hp _ _ ⟨e1, e2, ⟨v', e3, e4⟩, e5⟩ => by
      cases e3; subst e1 e2
      refine ⟨L, e4, rfl, rfl, rfl, (CHv.at Y hZ hEL H).trans ?_⟩
      rw [← hp.2.1]; exact e5)
end
def sub (vs : List Value) (sp n : Nat) (d : Value) : List Value := (List.range n).map fun i => vs.getD (sp + i) d
def ins (vd us : List Value) (p n : Nat) : List Value := vd.take p ++ us ++ vd.drop (p + n)
theorem sub_len {vs : List Value} {sp n : Nat} {d : Value} : (sub vs sp n d).length = n := by simp [sub]
theorem ins_len {vd us : List Value} {p n : Nat} (h : us.length = n) (h2 : p + n ≤ vd.length) : (ins vd us p n).length = vd.length := by
  simp only [ins, List.length_append, List.length_take, List.length_drop, h]
  omega
section
variable {p : Program} {l : Launch} {e : Env} {R : Room} {s : State} {m : MethodId} {args : Array Value} {below : List Frame} {meth : Method} {c : Code} {T : State} {locs : List Loc} {cells slots : Nat} {Z : State} {a0 : Array Value} {h : Heap} {Q : Outcome → State → Prop} {pc q : Nat} {Ls : Array Slot} {st : List Value} {own C : String} {index k : Nat} {a : Addr}
theorem g_newU (X : Stand p l e R s m args below meth c T locs cells slots) (hx : p.tables.exec = Jvm.exec) (hZ : Z.Warmed39 s.vm) (hown : s.vm.findClass own = some m.cls) (w1 : (Jvm.Cond.classLink own index C).before a0 Z = true) (w2 : (Jvm.Cond.instantiable C k).before a0 Z = true) (w3 : (Jvm.Cond.initialized C).before a0 Z = true) (hc : cells + 1 ≤ R.cells) (hl : slots + k ≤ R.slots) (eT : T.heap = h) (hd : decode c.code pc = .ok (.new index, 3)) (hq : pc + 3 = q)
    (kk : ∀ (T' : State) (h' : Heap) (b : Addr), b = h.size → Stand p l e R s m args below meth c T' locs (cells + 1) (slots + k) → T'.heap = h' → Ext h h' → Exa Z h' b C → (∀ {O nm d : String} {ty : FieldType}, Laid Z a0 C O nm d → parseFieldDescriptor d = some ty → Fld Z h' b O nm d (defaultValue ty)) → Unt h' b → Go p.tables e below Q (T'.setTop (mkF m q Ls (.ref b :: st)))) : Go p.tables e below Q (T.setTop (mkF m pc Ls st)) := by
  subst hq
  obtain ⟨T', h', X', e', E', A', D', U', st'⟩ := newO X hx hZ hown w1 w2 w3 eT (g := mkF m pc Ls st) rfl hd hc hl
  exact Go.to st' (kk T' h' _ rfl X' e' E' A' D' U')
theorem g_newE (X : Stand p l e R s m args below meth c T locs cells slots) (hx : p.tables.exec = Jvm.exec) (hZ : Z.Warmed39 s.vm) {aty : ArrayType} {z : Int32} (w1 : (Jvm.Cond.arrayClass (newarray.typeOf aty)).before a0 Z = true) (hn : ¬ z < 0) {n : Nat} (hk : z.toNatClampNeg = n) (hb : n * 8 ≤ 536870912) (hc : cells + 1 ≤ R.cells) (hl : slots + n ≤ R.slots) {ad : String} (had : "[" ++ (newarray.typeOf aty).toString = ad) (eT : T.heap = h) (hd : decode c.code pc = .ok (.newarray aty, 2)) (hq : pc + 2 = q)
    (kk : ∀ (T' : State) (h' : Heap) (kc : ClassId) (b : Addr), b = h.size → Stand p l e R s m args below meth c T' locs (cells + 1) (slots + n) → T'.heap = h' → Ext h h' → Arv Z h' b kc (newarray.typeOf aty) z (List.replicate n (defaultValue (newarray.typeOf aty))) (defaultValue (newarray.typeOf aty)) → Exa Z h' b ad → Go p.tables e below Q (T'.setTop (mkF m q Ls (.ref b :: st)))) : Go p.tables e below Q (T.setTop (mkF m pc Ls (.int z :: st))) := by
  subst hq
  obtain ⟨T', h', cA, X', e', E', A', G', st'⟩ := newPE X hx hZ w1 eT (g := mkF m pc Ls (.int z :: st)) rfl hd rfl hn (cap := n) (Nat.le_of_eq hk) hb hc hl had
  exact Go.to st' (kk T' h' cA _ rfl X' e' E' ((Arv.new A' hn).pad (fun i => by have := pad_rep [] (defaultValue (newarray.typeOf aty)) n i; simpa using this)) G')
theorem g_clone {ad : String} {kc : ClassId} {ty : FieldType} {z : Int32} {vs : List Value} {dv : Value} (X : Stand p l e R s m args below meth c T locs cells slots) (hx : p.tables.exec = Jvm.exec) (hZ : Z.Warmed39 s.vm) (hown : s.vm.findClass own = some m.cls)
    (w1 : (Jvm.Cond.methodLink own index ⟨ad, "clone", "()Ljava/lang/Object;"⟩).before a0 Z = true) (w2 : (Jvm.Cond.sameMethod ad "java/lang/Object" "clone" "()Ljava/lang/Object;").before a0 Z = true) (w3 : (Jvm.Cond.native ⟨"java/lang/Object", "clone", "()Ljava/lang/Object;"⟩).before a0 Z = true)
    (w4 : (Jvm.Cond.instanceMethod ⟨"java/lang/Object", "clone", "()Ljava/lang/Object;"⟩).before a0 Z = true) (w5 : (Jvm.Cond.selects ad ⟨ad, "clone", "()Ljava/lang/Object;"⟩ ⟨"java/lang/Object", "clone", "()Ljava/lang/Object;"⟩).before a0 Z = true) (w6 : (Jvm.Cond.castable ad "java/lang/Cloneable").before a0 Z = true)
    (F : Arv Z h a kc ty z vs dv) (E : Exa Z h a ad) (hsize : Ls.size = c.maxLocals) (hf : 1 ≤ R.frames) {W cap : Nat} (hW : (st.map fun v => v.category).sum ≤ W) (hl : W + 14 ≤ R.locals) (hcap : z.toNatClampNeg = cap) (hc : cells + 1 ≤ R.cells) (hsl : slots + cap ≤ R.slots) (eT : T.heap = h) (hd : decode c.code pc = .ok (.invokevirtual index, 3)) (hq : pc + 3 = q)
    (kk : ∀ (T' : State) (h' : Heap) (b : Addr), b = h.size → Stand p l e R s m args below meth c T' locs (cells + 1) (slots + cap) → T'.heap = h' → Ext h h' → Arv Z h' b kc ty z vs dv → Exa Z h' b ad → Go p.tables e below Q (T'.setTop (mkF m q Ls (.ref b :: st)))) : Go p.tables e below Q (T.setTop (mkF m pc Ls (.ref a :: st))) := by
  subst hq
  obtain ⟨cl, A, q1, S, q3, H, G⟩ := F
  have FC : FitC Z cl := fitC_of A fun i hi v hv => by rw [H i hi] at hv; cases hv; exact G i hi
  obtain ⟨T', h', X', e', ex, A', E', st'⟩ := cloneA X hx hZ hown w1 w2 w3 w4 w5 w6 eT A E FC (g := mkF m pc Ls (.ref a :: st)) rfl hsize rfl hd hf (W := W) (by show 2 * 0 + _ ≤ _; omega) hl (by rw [S, hcap]; exact Nat.le_refl _) hc hsl
  exact Go.to st' (kk T' h' _ rfl X' e' ex ⟨cloneOf cl, A', q1, S, q3, H, G⟩ E')
theorem g_pvC {y : MethodName} {bytes : ByteArray} {maxL : Nat} {ret : Option FieldType} {W nk ns : Nat} {argsL st0 : List Value} {Qc : Option Value → Heap → List Loc → Prop} {K : String} (X : Stand p l e R s m args below meth c T locs cells slots) (hx : p.tables.exec = Jvm.exec) (hZ : Z.Warmed39 s.vm) (hown : s.vm.findClass own = some m.cls) (w1 : (Jvm.Cond.methodLink own index y).before a0 Z = true) (w2 : (Jvm.Cond.instanceMethod y).before a0 Z = true) (w3 : (Jvm.Cond.selects K y y).before a0 Z = true) (w4 : (Jvm.Cond.privateMethod y).before a0 Z = true) (w5 : (Jvm.Cond.code y bytes maxL ret).before a0 Z = true)
    (hyc : y.cls ≠ "java/lang/invoke/MethodHandle" ∧ y.cls ≠ "java/lang/invoke/VarHandle") (E : Exa Z h a C) (eT : T.heap = h) (hK : BackQ l R p e below s args y 3 W (.ref a :: argsL).toArray h nk ns Qc) (hsize : Ls.size = c.maxLocals) (hlen : ∀ sig, parseMethodDescriptor y.desc = some sig → argsL.length = sig.parameters.length) (hst : st0 = argsL.reverse ++ .ref a :: st) (hW : (st.map fun v => v.category).sum ≤ W) (hd : decode c.code pc = .ok (.invokevirtual index, 3)) (hq : pc + 3 = q) (hc : cells + nk ≤ R.cells) (hs : slots + ns ≤ R.slots)
    (kk : ∀ (v : Option Value) (T' : State) (L : List Loc), Stand p l e R s m args below meth c T' (locs ++ L) (cells + nk) (slots + ns) → Qc v T'.heap L → Go p.tables e below Q (T'.setTop (mkF m q Ls (v.toList ++ st)))) : Go p.tables e below Q (T.setTop (mkF m pc Ls st0)) := by
  subst hq
  obtain ⟨cell, k0, q1, q0, q2, q3, q4⟩ := E
  have hobj : ∀ q, cell.vm ≠ .statics q := fun q hq => by rw [hq] at q3; cases q3
  obtain ⟨mk, mM, hn, hm, ha, hb⟩ := Cond.instanceMethod_spec (mvT hZ w2 (args := args))
  obtain ⟨mM', cM, hm', -, -, -, -, -, -, hsig⟩ := Cond.code_spec hn (mvT hZ w5 (args := args))
  cases hm.symm.trans hm'
  obtain ⟨c2, r2, m2, -, -, p3, -, kP, hkP, hkPi⟩ := Cond.selects_spec (mvT hZ w3 (args := args))
  cases hn.symm.trans p3
  have hsel : selectMethod e.platform s.vm cell.cls mk = .method mk := selectMethod_private hm (Cond.privateMethod_at (mvP hZ w4 (args := #[])) mk mM hn hm)
  obtain ⟨vm1, X1, st1⟩ := X.invokevirtual hx hown (mvT hZ w1) hn hm ha hkP hkPi hyc (a := a) (cell := cell) (by rw [eT]; exact q1) hobj hsel hm hb hkP hkPi (g := mkF m pc Ls st0) rfl (argsL := argsL) (rest := st) (hlen _ hsig) hst hd
  obtain ⟨v, ⟨T', L', k', n'⟩, X', ⟨L, hQ, rfl, rfl, rfl⟩, st2⟩ := hK m meth c ⟨T.setVm vm1, locs, cells, slots⟩ (mkF m pc Ls st) (.invokevirtual index) mk (.ref a :: argsL).toArray X1 rfl hsize hd (by show 2 * 0 + (st.map fun v => v.category).sum ≤ _; omega) (X1.named hn) ⟨rfl, eT, hc, hs⟩
  exact Go.run ((st1 _ fun acts => by rw [doInvoke_state]; exact Steps.refl _).trans st2) (kk v T' L X' hQ)
theorem same_self {y y0 : MethodName} {K : String} (wi : (Jvm.Cond.instanceMethod y).before a0 Z = true) (w0 : (Jvm.Cond.selects K y0 y0).before a0 Z = true) (e : y0.cls = y.cls) (hy : y.cls ≠ "java/lang/invoke/MethodHandle" ∧ y.cls ≠ "java/lang/invoke/VarHandle") : (Jvm.Cond.sameMethod y.cls y.cls y.name y.desc).before a0 Z = true := by
  obtain ⟨mk, mM, hn, -⟩ := Cond.instanceMethod_spec wi
  obtain ⟨c2, r2, m2, -, -, p3, -⟩ := Cond.selects_spec w0
  obtain ⟨kr, hkr, hni⟩ := notFace_of_selects w0 m2 p3
  have hf := State.methodFound?_of_named hn hy
  have hc := findClass_of_methodNamed hn
  have hc0 := findClass_of_methodNamed p3
  rw [e, hc] at hc0
  have ec : mk.cls = m2.cls := Option.some.inj hc0
  have hn2 : Z.methodNamed? ⟨y.cls, y.name, y.desc⟩ = some mk := hn
  simp [Cond.before, Cond.holds, Cond.value, hc, hf, hn2, ec, hkr, hni]
theorem g_su {y : MethodName} {bytes : ByteArray} {maxL : Nat} {ret : Option FieldType} {W nk ns : Nat} {argsL st0 : List Value} {Qc : Option Value → Heap → List Loc → Prop} (X : Stand p l e R s m args below meth c T locs cells slots) (hx : p.tables.exec = Jvm.exec) (hZ : Z.Warmed39 s.vm) (hown : s.vm.findClass own = some m.cls) (w1 : (Jvm.Cond.methodLink own index y).before a0 Z = true) (w2 : (Jvm.Cond.sameMethod y.cls y.cls y.name y.desc).before a0 Z = true) (w3 : (Jvm.Cond.instanceMethod y).before a0 Z = true) (w4 : (Jvm.Cond.superclass own y.cls).before a0 Z = true) (w5 : (Jvm.Cond.code y bytes maxL ret).before a0 Z = true) (hn : y.name ≠ "<init>")
    (E : Exa Z h a C) (eT : T.heap = h) (hK : BackQ l R p e below s args y 3 W (.ref a :: argsL).toArray h nk ns Qc) (hsize : Ls.size = c.maxLocals) (hlen : ∀ sig, parseMethodDescriptor y.desc = some sig → argsL.length = sig.parameters.length) (hst : st0 = argsL.reverse ++ .ref a :: st) (hW : (st.map fun v => v.category).sum ≤ W) (hd : decode c.code pc = .ok (.invokespecial index, 3)) (hq : pc + 3 = q) (hc : cells + nk ≤ R.cells) (hs : slots + ns ≤ R.slots)
    (kk : ∀ (v : Option Value) (T' : State) (L : List Loc), Stand p l e R s m args below meth c T' (locs ++ L) (cells + nk) (slots + ns) → Qc v T'.heap L → Go p.tables e below Q (T'.setTop (mkF m q Ls (v.toList ++ st)))) : Go p.tables e below Q (T.setTop (mkF m pc Ls st0)) := by
  subst hq
  obtain ⟨v, vm1, ⟨T', L', k', n'⟩, -, X', ⟨L, hQ, rfl, rfl, rfl⟩, st'⟩ := superBack X hx hZ hown w1 w2 w3 w4 hn hK eT (Ins.self E) (g := mkF m pc Ls st0) rfl hsize w5 hlen hst (by show 2 * 0 + (st.map fun v => v.category).sum ≤ _; omega) hd (fun _ _ => ⟨rfl, eT, hc, hs⟩)
  exact Go.run st' (kk v T' L X' hQ)
theorem nf_of {y y0 : MethodName} {K : String} {as : Array Value} {y1 : MethodName} (w0 : (Jvm.Cond.selects K y1 y0).before as s = true) (e : y0.cls = y.cls) : NotFace s y := fun r0 h0 => by
  obtain ⟨c2, r2, m2, -, -, p3, -, kr, hkr, hni⟩ := Cond.selects_spec w0
  have hc := findClass_of_methodNamed h0
  have hc0 := findClass_of_methodNamed p3
  rw [e, hc] at hc0
  have ec : r0.cls = m2.cls := Option.some.inj hc0
  exact ⟨kr, by rw [ec]; exact hkr, hni⟩
end
end Jvm.OwnKit

namespace Jvm.OwnKit
open Jvm Jvm.ClassFile Sem Op Lib Jvm.Free Jvm.Stand Jvm.LawKit Jvm.RoadKit Bundle Jvm.Free.Exc
/-- the words that the filling in of a stack trace asks, for an object of the class rc -/
def fillAtoms (rc : String) : List Jvm.Cond := [.instanceMethod tFill, .codeSync tFill LibCode.Throwable.Fill.code 1 (some (.object tN)), .instanceMethod tFill0, .native tFill0, .instanceMethod oInit, .code oInit ⟨#[0xb1]⟩ 1 none,
  .methodLink tN 1 oInit, .methodLink tN 27 tFill, .methodLink tN 202 tFill0, .initialized tN, .superclass tN "java/lang/Object", .fieldLink tN 7 tN "cause" thD, .fieldLink tN 17 tN "stackTrace" steD, .fieldLink tN 24 tN "suppressedExceptions" listD, .fieldLink tN 198 tN "backtrace" obD,
  .fieldLink tN 13 tN "UNASSIGNED_STACK" steD, .laysStatic tN "UNASSIGNED_STACK" steD, .fieldLink tN 20 tN "SUPPRESSED_SENTINEL" listD, .laysStatic tN "SUPPRESSED_SENTINEL" listD,
  .lays rc tN "cause" thD, .lays rc tN "stackTrace" steD, .lays rc tN "suppressedExceptions" listD, .lays rc tN "detailMessage" msgD, .lays rc tN "backtrace" obD, .lays rc tN "depth" "I",
  .arrayOver (.object "java/lang/Object"), .soleField tN "backtrace", .soleField tN "depth", .declares tFill, .selects rc tFill0 tFill0, .selects rc tFill tFill]
theorem fill_ok {rc : String} : (fillAtoms rc).all xOk = true := rfl
theorem links_of {args : Array Value} {s : State} {pl : Platform} {rc : String} (p1 : pl.frameOwnsMonitors = true) (p2 : pl.finalization = false) (p3 : pl.magicAccessors = ({} : Platform).magicAccessors) (w : ∀ d ∈ fillAtoms rc, d.before args s = true) :
    ∃ T : ThrowableC, T.Links pl s ∧ s.vm.findClass tN = some T.cT ∧ s.methodNamed? tFill = some T.fill ∧ s.methodNamed? tFill0 = some T.fill0 ∧ s.fieldFound? tN "stackTrace" steD = some (T.cT, T.kT, T.i17, T.fStack) ∧ s.fieldFound? tN "UNASSIGNED_STACK" steD = some (T.cT, T.kT, T.i13, T.fUnassigned) := by
  have at_ : ∀ {i : Nat} {d : Jvm.Cond}, (fillAtoms rc)[i]? = some d → d.holds args s none s [] = true := fun q => w _ (List.mem_of_getElem? q)
  obtain ⟨⟨cT, jF⟩, mF, nF, gF, sF, aF⟩ := Cond.instanceMethod_spec (at_ (i := 0) rfl)
  have fT : s.vm.findClass tN = some cT := findClass_of_methodNamed nF
  obtain ⟨kT, hk, hnm⟩ := Vm.findClass_spec fT
  have atM : ∀ {j : Nat} {mm : Method}, s.vm.method? ⟨cT, j⟩ = some mm → kT.methods[j]? = some mm := fun {j mm} q => by simpa [Vm.method?, hk] using q
  obtain ⟨mF', cF, gF', cF1, cF2, cF3, cF4, cF5, -, cF6⟩ := Cond.codeSync_spec nF (at_ (i := 1) rfl)
  cases gF.symm.trans gF'
  obtain ⟨j0, m0, n0, g0, at0, s0, a0, nm0, ds0⟩ := Cond.ownMethod (x := tFill0) fT hk (at_ (i := 2) rfl)
  obtain ⟨_, m0', n0', g0', v0, v1, v2, v3⟩ := Cond.native_spec (at_ (i := 3) rfl)
  cases n0.symm.trans n0'
  cases g0.symm.trans g0'
  obtain ⟨mo, mO, nO, gO, sO, aO⟩ := Cond.instanceMethod_spec (at_ (i := 4) rfl)
  obtain ⟨mO', cO, gO', cO1, cO2, -, -, cO5, -, cO6⟩ := Cond.code_spec nO (at_ (i := 5) rfl)
  cases gO.symm.trans gO'
  obtain ⟨kO, hkO, hnO⟩ := Vm.findClass_spec (findClass_of_methodNamed nO)
  obtain ⟨nmO, dsO⟩ := name_of_methodNamed nO gO
  obtain ⟨c1, e1, cf, l1, r1, hcf, q1⟩ := Cond.linkedMethod fT hk nO (at_ (i := 6) rfl) pl p3
  obtain ⟨c2, e2, cf2, l2, r2, hcf2, q2⟩ := Cond.linkedMethod fT hk nF (at_ (i := 7) rfl) pl p3
  cases hcf.symm.trans hcf2
  obtain ⟨c3, e3, cf3, l3, r3, hcf3, q3⟩ := Cond.linkedMethod fT hk n0 (at_ (i := 8) rfl) pl p3
  cases hcf.symm.trans hcf3
  have hi := Cond.initialized_spec fT hk (at_ (i := 9) rfl)
  obtain ⟨_, k2, _, _, hk2, _, _, -, _, hni⟩ := Cond.superclass_spec fT (at_ (i := 10) rfl)
  cases hk.symm.trans hk2
  obtain ⟨c7, i7, f7, u1, u2, u3, u4, u5, -, -, -⟩ := Cond.ownField (t := .object tN) fT hk (by decide +kernel) (at_ (i := 11) rfl) (at_ (i := 19) rfl) pl p3
  obtain ⟨c17, i17, f17, x1, x2, x3, x4, x5, x6, -, x8⟩ := Cond.ownField (t := .array (.object "java/lang/StackTraceElement")) fT hk (by decide +kernel) (at_ (i := 12) rfl) (at_ (i := 20) rfl) pl p3
  obtain ⟨c24, i24, f24, y1, y2, y3, y4, y5, y6, -, y8⟩ := Cond.ownField (t := .object "java/util/List") fT hk (by decide +kernel) (at_ (i := 13) rfl) (at_ (i := 21) rfl) pl p3
  obtain ⟨c13, i13, f13, aS, _, z1, z2, z3, z4, -, -, z7, -, -, -, -, z8⟩ := Cond.ownStatic (t := .array (.object "java/lang/StackTraceElement")) fT hk (by decide +kernel) (at_ (i := 15) rfl) (at_ (i := 16) rfl) pl p3
  obtain ⟨c20, i20, f20, _, _, t1, t2, t3, t4, -⟩ := Cond.ownStatic (t := .object "java/util/List") fT hk (by decide +kernel) (at_ (i := 17) rfl) (at_ (i := 18) rfl) pl p3
  obtain ⟨cR, kR, _, _, _, _, fR, hkR, -⟩ := Cond.lays_spec (at_ (i := 20) rfl)
  obtain ⟨-, b1, b2, b3⟩ := Cond.laysAt fR hkR x8 (at_ (i := 20) rfl)
  obtain ⟨-, b4, b5, b6⟩ := Cond.laysAt fR hkR y8 (at_ (i := 21) rfl)
  refine ⟨{ cT := cT, kT := kT, cO := cT, aS := aS, fillIdx := jF, fill0Idx := j0, initSIdx := j0, obj := mo, kObj := kO, methFill := mF, methFill0 := m0, methInitS := m0, methObj := mO, codeFill := cF, codeInitS := cF, codeObj := cO,
              fBack := f7, fDepth := f7, fStack := f17, fCause := f7, fSupp := f24, fMsg := f7, fUnassigned := f13, fSentinel := f20, cfT := cf, ci1 := c1, n1 := e1, ci27 := c2, n27 := e2, ci202 := c3, n202 := e3,
              ci7 := c7, i7 := i7, ci13 := c13, i13 := i13, ci17 := c17, i17 := i17, ci20 := c20, i20 := i20, ci24 := c24, i24 := i24 }, ?_, fT, nF, n0, x8, z8⟩
  have pF : mF.sig = ⟨[], some (.object tN)⟩ := Option.some.inj (cF6.symm.trans (by decide +kernel))
  have p0 : m0.sig = ⟨[.int], some (.object tN)⟩ := Option.some.inj (v3.symm.trans (by decide +kernel))
  have pO : mO.sig = ⟨[], none⟩ := Option.some.inj (cO6.symm.trans (by decide +kernel))
  exact { owns := p1, noFinalization := p2, cls := hk, name := hnm, boot := Vm.findClass_boot fT hk, notInterface := hni, initialized := hi, statics := z7, file := hcf,
          fillAt := atM gF, fillCode := cF1, fillBytes := cF2, fillLocals := cF3, fillLocks := cF5, fillStatic := sF, fillAbstract := aF, fillReturns := cF4, fillParams := congrArg (·.parameters) pF,
          fill0At := at0, fill0Name := nm0, fill0Desc := ds0, fill0Params := congrArg (·.parameters) p0, fill0Static := s0, fill0Native := v0, fill0Code := v1, fill0Locks := v2, fill0Abstract := a0,
          objClass := hkO, objClassName := hnO, objMethod := gO, objName := nmO, objStatic := sO, objAbstract := aO, objFound := dsO ▸ lookupSpecial_of_named nO gO sO, objParams := by show mO.sig.parameters.length = 0; rw [pO]; rfl, objCode := cO1, objBytes := cO2, objLocks := cO5,
          stackInstance := x4, stackNotFinal := x5, causeInstance := u4, causeNotFinal := u5, suppInstance := y4, suppNotFinal := y5, msgInstance := u4, msgNotFinal := u5, unassignedStatic := z4, sentinelStatic := t4, stackApartSupp := Cond.laysApart b2 b5 b3 b6 (by rw [x6, y6]; decide),
          mlink1 := l1, mright1 := r1, pool1 := q1, mlink27 := l2, mright27 := r2, pool27 := q2, mlink202 := l3, mright202 := r3, pool202 := q3,
          link7 := u1, right7 := u2, at7 := u3, link13 := z1, right13 := z2, at13 := z3, link17 := x1, right17 := x2, at17 := x3, link20 := t1, right20 := t2, at20 := t3, link24 := y1, right24 := y2, at24 := y3 }
/-- what the constructors of Throwable read of its statics -/
def ThSt (Z : State) : Prop := (∃ u : Value, u.isRef = true ∧ Sta Z Z.heap tN "UNASSIGNED_STACK" steD u) ∧ ∃ u : Value, u.isRef = true ∧ Sta Z Z.heap tN "SUPPRESSED_SENTINEL" listD u
theorem thst_of {Z : State} {a0 : Array Value} {rc : String} (w : ∀ d ∈ fillAtoms rc, d.before a0 Z = true) (r : ∀ d ∈ twoRefs, d.before a0 Z = true) : ThSt Z := by
  have one : ∀ {F D : String}, (Jvm.Cond.laysStatic tN F D).before a0 Z = true → (Jvm.Cond.isRef (.static tN F D)).before a0 Z = true → ∃ u : Value, u.isRef = true ∧ Sta Z Z.heap tN F D u := fun hl hr => by
          obtain ⟨u, cf, i, k, f, sa, ce, q1, q2, q3, q4, q5, -, q7⟩ := staticIs_of (w _ (List.mem_of_getElem? (i := 9) rfl)) hl hr
          obtain ⟨_, _, _, _, _, _, -, g1, -, g4, g5, g6, -⟩ := Cond.laysStatic_spec hl
          cases q1.symm.trans g1
          cases q4.symm.trans g4
          cases q5.symm.trans g5
          exact ⟨u.v, u.ok, cf, i, k, f, sa, ce, q1, q2, q3, q4, q5, g6, q7⟩
  exact ⟨one (w _ (List.mem_of_getElem? (i := 16) rfl)) (r _ (List.mem_of_getElem? (i := 0) rfl)), one (w _ (List.mem_of_getElem? (i := 18) rfl)) (r _ (List.mem_of_getElem? (i := 1) rfl))⟩
theorem own_nrefA {t : FieldType} {v : Value} (h : v.isRef = true) : narrow (.array t) v = v := narrow_refV _ ⟨v, h⟩
theorem own_frefA {t : FieldType} {v : Value} (h : v.isRef = true) : fits (.array t) v = true := fits_refV_array _ ⟨v, h⟩
section
variable {p : Program} {l : Launch} {e : Env} {R : Room} {s : State} {m : MethodId} {args : Array Value} {below : List Frame} {meth : Method} {c : Code} {T : State} {locs : List Loc} {cells slots : Nat} {Z : State} {a0 : Array Value} {h h0 h' : Heap} {Q : Outcome → State → Prop} {pc q : Nat} {Ls : Array Slot} {st : List Value} {a : Addr}
/-- no cell but a has changed -/
def Only (h h' : Heap) (a : Addr) : Prop := h'.size = h.size ∧ ∀ y : Addr, y ≠ a → h'[y]? = h[y]?
theorem Only.same (q : h0 = h) : Only h0 h a := by subst q; exact ⟨rfl, fun _ _ => rfl⟩
theorem Only.wr {sl : Nat} {v : Value} (F : Only h0 h a) (W : Wr h h' a sl v) : Only h0 h' a := by
  obtain ⟨cell, -, -, -, rfl⟩ := W
  exact ⟨by simpa using F.1, fun y hy => by rw [Array.getElem?_setIfInBounds_ne (Ne.symm hy)]; exact F.2 y hy⟩
theorem based {sl : Nat} (F : ∀ x ∈ locs, x.base = a) (X : Stand p l e R s m args below meth c T (locs ++ [⟨a, sl⟩]) cells slots) : ∀ x ∈ locs ++ [⟨a, sl⟩], x.base = a := fun x hx => (List.mem_append.mp hx).elim (F x) fun q => by cases List.mem_singleton.mp q; rfl
set_option maxHeartbeats 4000000 in
/-- 'fillInStackTrace()' of Throwable, called in a constructor of Throwable -/
theorem g_fill (X : Stand p l e R s m args below meth c T locs cells slots) (hx : p.tables.exec = Jvm.exec) (hl : l.stackTraces = true) (hZ : Z.Warmed39 s.vm) (hown : s.vm.findClass tN = some m.cls) {rc : String} {n : Nat} (W0 : ∀ d ∈ fillAtoms rc, d.before a0 Z = true) (wi : (Jvm.Cond.instantiable rc n).before a0 Z = true)
    (hT0 : ThS Z s.heap) (hTK : s.vm.MethodsKnown) (hBelow : s.vm.FramesKnown below) (eT : T.heap = h) (E : Exa Z h a rc) (N : Unt h a) (B : Fld Z h a tN "backtrace" obD .null) (B2 : Fld Z h a tN "detailMessage" msgD .null) {u : Value} (hu : u.isRef = true) (G : Fld Z h a tN "stackTrace" steD u) (S : Sta Z h tN "UNASSIGNED_STACK" steD u)
    (F : ∀ x ∈ locs, x.base = a) (O : Only s.heap h a) (hsize : Ls.size = c.maxLocals) (hd : decode c.code pc = .ok (.invokevirtual 27, 3)) (hq : pc + 3 = q) (hf : 3 ≤ R.frames) {W : Nat} (hW : (st.map fun v => v.category).sum ≤ W) (hlo : W + 42 ≤ R.locals) (hc : cells + 1 ≤ R.cells) (hsl : slots + 2752 ≤ R.slots)
    (kk : ∀ (T' : State) (h' : Heap) (L : List Loc), Stand p l e R s m args below meth c T' (locs ++ L) (cells + 1) (slots + 2752) → T'.heap = h' → (∀ x ∈ L, x.base = a) → Keep h h' [a] → Fld Z h' a tN "detailMessage" msgD .null → Go p.tables e below Q (T'.setTop (mkF m q Ls (.ref a :: st)))) : Go p.tables e below Q (T.setTop (mkF m pc Ls (.ref a :: st))) := by
  subst hq
  have hp := X.admits.platform
  have ws : ∀ d ∈ fillAtoms rc, d.before args s = true := fun d hd => mvX hT0 hZ (List.all_eq_true.mp fill_ok d hd) (W0 d hd)
  have at_ : ∀ {i : Nat} {d : Jvm.Cond}, (fillAtoms rc)[i]? = some d → d.holds args s none s [] = true := fun q => ws _ (List.mem_of_getElem? q)
  obtain ⟨TT, LL, fT, nF, n0, x8, z8⟩ := links_of (pl := e.platform) (by rw [hp]) (by rw [hp]) (by rw [hp]) ws
  obtain ⟨cl, k0, E1, E2, E3, E4, E5⟩ := E
  obtain ⟨_, N1, N2, N3⟩ := N
  cases E1.symm.trans N1
  obtain ⟨_, cB, kB, iB, fB, B1, B3, -, -, -, -, B7⟩ := B
  cases E1.symm.trans B1
  obtain ⟨_, cM, kM, iM, fM, M1, M3, M4, M5, M6, M7, M8⟩ := B2
  cases E1.symm.trans M1
  obtain ⟨_, cG, kG, iG, fG, G1, G3, -, -, -, -, G7⟩ := G
  cases E1.symm.trans G1
  obtain ⟨cS, iS, kS, fS, sa, sc, S1, S2, S3, S4, S5, S6, S7⟩ := S
  obtain ⟨_, _, i1, i2, i3, -⟩ := Cond.instantiable_spec wi
  cases E2.symm.trans i1
  cases E3.symm.trans i2
  obtain ⟨kR, r1, r2⟩ := hZ.alike.2.2 _ _ E3
  have fR : s.vm.findClass rc = some cl.cls := by rw [hZ.alike.findClass]; exact E2
  obtain ⟨kG', G4, -⟩ := State.fieldFound?_setVm (s := Z) hZ.alike G3
  cases (show s.fieldFound? tN "stackTrace" steD = _ from G4).symm.trans x8
  obtain ⟨kS', S8, S9⟩ := State.fieldFound?_setVm (s := Z) hZ.alike S1
  cases (show s.fieldFound? tN "UNASSIGNED_STACK" steD = _ from S8).symm.trans z8
  obtain rfl : sa = TT.aS := Option.some.inj (S4.symm.trans ((congrArg Class.statics S9).symm.trans LL.statics))
  obtain ⟨ci, ib, fb, b1, b2, b3, b4, -, b5, b6, b7⟩ := Cond.ownField (t := .object "java/lang/Object") fT LL.cls (by decide +kernel) (at_ (i := 14) rfl) (at_ (i := 23) rfl) e.platform (by rw [hp])
  obtain ⟨kB', B4, -⟩ := State.fieldFound?_setVm (s := Z) hZ.alike B3
  cases (show s.fieldFound? tN "backtrace" obD = _ from B4).symm.trans b7
  obtain ⟨kM', M9, -⟩ := State.fieldFound?_setVm (s := Z) hZ.alike M3
  have M9' : s.fieldFound? tN "detailMessage" msgD = some (cM, kM', iM, fM) := M9
  obtain ⟨_, _, cD, kD, iD, fD, -, -, D3, D4, -⟩ := Cond.lays_spec (at_ (i := 24) rfl)
  cases (Cond.lays_declared (at_ (i := 24) rfl) D3).symm.trans fT
  obtain ⟨D5, D6⟩ := State.fieldFound?_spec D3
  cases D5.symm.trans LL.cls
  obtain ⟨D7, D8⟩ := State.fieldFound?_type D3 (t := .int) (by decide +kernel)
  obtain ⟨Y1, Y2⟩ := State.fieldFound?_type x8 (t := .array (.object "java/lang/StackTraceElement")) (by decide +kernel)
  obtain ⟨Y3, -⟩ := State.fieldFound?_type M9' (t := .object "java/lang/String") (by decide +kernel)
  obtain ⟨tS, _, lS, lS'⟩ := Cond.laysAt fR r1 x8 (at_ (i := 20) rfl)
  obtain ⟨tB, _, lB, lB'⟩ := Cond.laysAt fR r1 b7 (at_ (i := 23) rfl)
  obtain ⟨tD, _, lD, lD'⟩ := Cond.laysAt fR r1 D3 (at_ (i := 24) rfl)
  obtain ⟨tM, _, lM, lM'⟩ := Cond.laysAt fR r1 M9' (at_ (i := 22) rfl)
  have tk : ∀ {f : Field} {v : Value}, kR.instanceTypes[f.slot]? = some f.type → fits f.type v = true → Jvm.Takes s cl f v := fun {f v} q1 q2 => by
    obtain ⟨q3, q4⟩ := Takes.of_laid (v := v) r1 (by rw [r2]; exact i3) q1 q2
    refine ⟨?_, by rw [N2]; exact q4⟩
    have q5 : f.slot < kR.instanceTypes.size := by simpa using q3
    rw [r2] at q5
    exact (E5 i3).symm ▸ q5
  obtain ⟨comp, cO, kO, -, -, hkO, hkindO, hO⟩ := Cond.arrayOver_spec (at_ (i := 25) rfl)
  have hsel : selectMethod e.platform s.vm cl.cls TT.fill0 = .method TT.fill0 := by
    obtain ⟨_, _, _, q1, q2, q3, q4, -⟩ := Cond.selects_spec (at_ (i := 29) rfl)
    cases q1.symm.trans fR
    cases q2.symm.trans (State.methodFound?_of_named n0 (by decide))
    cases q3.symm.trans n0
    rw [Launch.admits_selectMethod X.admits]; exact q4
  have hne : TT.aS ≠ a := fun q => by rw [q, E1] at S5; cases S5; rw [N2] at S6; cases S6
  obtain ⟨v, vm1, ⟨T', L', k', n'⟩, -, X', ⟨hv, D, nn, hn, C1, C2, C3, C4, C5, hL, hcc, hnn⟩, st'⟩ := X.virtualBack hx (own := tN) (C := rc) (index := 27) (y := tFill) (z := tFill) hown (at_ (i := 7) rfl) (at_ (i := 28) rfl) (notFace_of_selects (at_ (i := 30) rfl)) (at_ (i := 30) rfl) (at_ (i := 0) rfl) (by decide)
    (fillPaysAny (l := l) (W := W) hx (by rw [hp]; exact hl) TT LL nF (u0 := ⟨u, hu⟩) (self := a) (cell := cl) (cellS := sc) (fun _ => by rw [N2]; simp) (by rw [N2]; simp) (by rw [N3]) (by rw [N3]) G7 hsel hne (fun q => by rw [q] at S6; cases S6) S7 (tk tS (by rw [Y2]; exact fits_refV_array _ ⟨u, hu⟩))
      ⟨{ ci198 := ci, i198 := iB, fBack := fB }, ⟨b1, b2, b3, b4⟩, B7⟩ hTK hBelow fT hO hkO hkindO (Cond.soleField_find fT LL.cls (at_ (i := 26) rfl) b3 b5 b4) (Cond.soleField_find fT LL.cls (at_ (i := 27) rfl) D6 D7 D4)
      (fun x => tk tB (by rw [b6]; rfl)) (fun x => tk tD (by rw [D8]; rfl)) (by omega) hlo)
    (b := a) (cB := cl.cls) fR ⟨cl, by rw [eT]; exact E1, rfl, E4⟩ (g := mkF m pc Ls (.ref a :: st)) rfl hsize (Steps.refl _) (argsL := []) (rest := st)
    (fun sig q => by rw [show parseMethodDescriptor tFill.desc = some ⟨[], some (.object tN)⟩ from by decide +kernel] at q; rw [← Option.some.inj q]; rfl) rfl (by show 2 * 0 + _ ≤ _; omega) hd
    (fun vmx _ => ⟨rfl, hc, hsl, by show T.heap[a]? = _; rw [eT]; exact E1, by show T.heap[TT.aS]? = _; rw [eT]; exact S5⟩)
  dsimp only [Pt.U, Pt.locs, Pt.cells, Pt.slots] at X' C1 hL hcc hnn st'
  subst hv hL hcc hnn
  have hB : ∀ x ∈ [(⟨a, fB.slot⟩ : Loc), ⟨a, fD.slot⟩, ⟨a, TT.fStack.slot⟩], x.base = a := fun x hx => by
    simp only [List.mem_cons, List.not_mem_nil, or_false] at hx
    rcases hx with rfl | rfl | rfl <;> rfl
  have hA : ∀ x ∈ locs ++ [(⟨a, fB.slot⟩ : Loc), ⟨a, fD.slot⟩, ⟨a, TT.fStack.slot⟩], x.base = a := fun x hx => (List.mem_append.mp hx).elim (F x) (hB x)
  refine Go.run st' (kk T' T'.heap _ (X'.more (Nat.le_refl _) (Nat.add_le_add_left hn _)) rfl hB ⟨?_, ?_, ?_⟩ ?_)
  · rw [O.1]; exact X'.same.2.1
  · intro x cx h1 h2
    have h3 : x ≠ a := fun q => h2 (by rw [q]; exact List.mem_singleton.mpr rfl)
    obtain ⟨c', q1, q2, q3, q4⟩ := X'.same.2.2.2.2.2 x cx (by rw [← O.2 x h3]; exact h1)
    have q5 : c'.slots = cx.slots := Array.ext_getElem? fun i => q4 i fun hm => h3 (hA _ hm : (⟨x, i⟩ : Loc).base = a)
    rw [show T'.heap[x]? = some c' from q1, q2, q5]
  · intro x cx h1
    by_cases h3 : x = a
    · subst h3
      cases h1.symm.trans E1
      exact ⟨D, C1, C2, C3, C4⟩
    · obtain ⟨c', q1, q2, q3, q4⟩ := X'.same.2.2.2.2.2 x cx (by rw [← O.2 x h3]; exact h1)
      exact ⟨c', q1, by rw [q2], by rw [q2], q3⟩
  · exact ⟨D, cM, kM, iM, fM, C1, M3, M4, by rw [C3]; exact M5, by rw [C3]; exact M6, by rw [C2]; exact M7, (C5 _ (Cond.laysApart lM lB lM' lB' (by rw [Y3, b5]; decide)) (Cond.laysApart lM lD lM' lD' (by rw [Y3, D7]; decide)) (Cond.laysApart lM lS lM' lS' (by rw [Y3, Y1]; decide))).trans M8⟩
end
end Jvm.OwnKit
namespace Jvm.OwnKit
theorem on_int {i : Nat} (h : i < 2147483648) : (Int32.ofNat i).toInt = i := by
  rw [Int32.toInt_ofNat']
  have sz : Int32.size = 4294967296 := rfl
  exact Int.bmod_eq_of_le (by omega) (by omega)
theorem on_clamp {i : Nat} (h : i < 2147483648) : (Int32.ofNat i).toNatClampNeg = i := by
  show (Int32.ofNat i).toInt.toNat = i
  rw [on_int h]; rfl
theorem on_nn {i : Nat} (h : i < 2147483648) : ¬ Int32.ofNat i < 0 := by
  have e0 : (0 : Int32).toInt = 0 := by decide
  rw [Int32.lt_iff_toInt_lt, on_int h, e0]; omega
theorem on_lt {i n : Nat} (h : i < n) (hn : n < 2147483648) : Int32.ofNat i < Int32.ofNat n := by
  rw [Int32.lt_iff_toInt_lt, on_int hn, on_int (by omega)]; omega
theorem on_ne {i n : Nat} (h : i < n) (hn : n < 2147483648) : ¬ Int32.ofNat i = Int32.ofNat n := fun q => by
  have q1 := congrArg Int32.toInt q
  rw [on_int hn, on_int (by omega)] at q1
  omega
theorem lt_irr {x : Int32} : ¬ x < x := by rw [Int32.lt_iff_toInt_lt]; omega
end Jvm.OwnKit
namespace Jvm.OwnKit
open Jvm Jvm.ClassFile Sem Op Lib Jvm.Free Jvm.Stand Jvm.LawKit Jvm.RoadKit
theorem cp_le {x y z : Int32} {a b c : Nat} (h1 : x.toNatClampNeg = a) (h2 : y.toNatClampNeg = b) (h3 : z.toNatClampNeg = c) (h : a + b ≤ c) : x.toNatClampNeg + y.toNatClampNeg ≤ z.toNatClampNeg := by rw [h1, h2, h3]; exact h
theorem cp_len {x y : Int32} {a b n : Nat} {vd : List Value} (h1 : x.toNatClampNeg = a) (h2 : y.toNatClampNeg = b) (h3 : vd.length = n) (h : a + b ≤ n) : x.toNatClampNeg + y.toNatClampNeg ≤ vd.length := by rw [h1, h2, h3]; exact h
theorem cp_us {x y : Int32} {a b : Nat} {vs : List Value} {d : Value} (h1 : x.toNatClampNeg = a) (h2 : y.toNatClampNeg = b) : sub vs a b d = (List.range y.toNatClampNeg).map fun i => vs.getD (x.toNatClampNeg + i) d := by rw [h1, h2]; rfl
theorem cp_ins {Z : State} {h : Heap} {q : Addr} {kc : ClassId} {ty : FieldType} {z x y : Int32} {a b : Nat} {vd us : List Value} {d : Value} (h1 : x.toNatClampNeg = a) (h2 : y.toNatClampNeg = b) (V : Arv Z h q kc ty z (vd.take x.toNatClampNeg ++ us ++ vd.drop (x.toNatClampNeg + y.toNatClampNeg)) d) : Arv Z h q kc ty z (ins vd us a b) d := by rw [h1, h2] at V; exact V
end Jvm.OwnKit

namespace Jvm.Pilot.@@N@@
open Jvm Jvm.ClassFile Sem Op Lib Jvm.Free Jvm.Stand Jvm.LawKit Jvm.RoadKit Jvm.OwnKit Bundle Jvm.Pilot.@@N@@.Jvm.D
abbrev HW (a0 : Array Value) (Z : State) : Prop := ∀ d ∈ tables_1, d.before a0 Z = true
abbrev tSC (Z : State) (zC : Int32) : Prop := Sta Z Z.heap "java/lang/String" "COMPACT_STRINGS" "Z" (.int zC)
abbrev tSF (Z : State) (vF : Value) : Prop := Sta Z Z.heap "jdk/internal/util/Preconditions" "SIOOBE_FORMATTER" "Ljava/util/function/BiFunction;" vF
abbrev tSA (Z : State)  : Prop := Sta Z Z.heap "java/lang/StringUTF16" "$assertionsDisabled" "Z" (.int (1 : Int32))
abbrev tSH (Z : State)  : Prop := Sta Z Z.heap "java/lang/StringUTF16" "HI_BYTE_SHIFT" "I" (.int (0 : Int32))
abbrev tSL (Z : State)  : Prop := Sta Z Z.heap "java/lang/StringUTF16" "LO_BYTE_SHIFT" "I" (.int (8 : Int32))
set_option maxRecDepth 65536
set_option maxHeartbeats 40000000
abbrev iv (x : Int32) : Value := .int x
abbrev sT0 : String := "java/lang/AbstractStringBuilder"
abbrev sT1 : String := "java/lang/String"
abbrev sT2 : String := "java/lang/StringBuilder"
abbrev sT3 : String := "java/lang/Throwable"
abbrev sT4 : String := "com/example/anteriorita/anteriorita/InputException"
def ExW (a0 : Array Value) (Z : State) : Prop := (∀ d ∈ fillAtoms sT4, d.before a0 Z = true) ∧ ThSt Z
def GB (l : Launch) (a0 : Array Value) (Z : State) (zC : Int32) (vF : Value) : Prop := (l.stackTraces = true) ∧ (tSC Z zC) ∧ (¬ zC = (0 : Int32)) ∧ (vF = .null ∨ ∃ a, vF = .ref a) ∧ (tSF Z vF) ∧ (tSA Z ) ∧ (tSH Z ) ∧ (tSL Z ) ∧ (ExW a0 Z)
abbrev kC0 : ByteArray := jdk_42_method_149_code
abbrev kC1 : ByteArray := jdk_42_method_154_code
abbrev kC2 : ByteArray := jdk_42_method_147_code
abbrev kC3 : ByteArray := jdk_65_method_121_code
abbrev kC4 : ByteArray := jdk_42_method_157_code
abbrev kC5 : ByteArray := jdk_65_method_132_code
abbrev kC6 : ByteArray := jdk_42_method_152_code
abbrev kC7 : ByteArray := jdk_42_method_155_code
abbrev kC8 : ByteArray := jdk_42_method_150_code
abbrev kC9 : ByteArray := jdk_68_method_22_code
abbrev kC10 : ByteArray := jdk_42_method_53_code
abbrev kC11 : ByteArray := prog_17_method_3_code
abbrev kC12 : ByteArray := jdk_68_method_68_code
abbrev kC13 : ByteArray := jdk_42_method_56_code
abbrev kC14 : ByteArray := jdk_52_method_16_code
abbrev kC15 : ByteArray := jdk_52_method_21_code
abbrev kC16 : ByteArray := jdk_42_method_66_code
abbrev kC17 : ByteArray := jdk_29_method_65_code
abbrev kC18 : ByteArray := jdk_68_method_10_code
abbrev kC19 : ByteArray := jdk_29_method_69_code
abbrev kC20 : ByteArray := jdk_43_method_13_code
abbrev kC21 : ByteArray := jdk_41_method_11_code
abbrev kC22 : ByteArray := jdk_52_method_83_code
abbrev kC23 : ByteArray := jdk_68_method_71_code
abbrev kC24 : ByteArray := jdk_68_method_73_code
abbrev kC25 : ByteArray := jdk_43_method_50_code
abbrev kC26 : ByteArray := jdk_68_method_11_code
abbrev kC27 : ByteArray := jdk_41_method_13_code
abbrev kC28 : ByteArray := jdk_52_method_15_code
abbrev kC29 : ByteArray := jdk_52_method_14_code
abbrev kC30 : ByteArray := jdk_42_method_54_code
abbrev kC31 : ByteArray := jdk_52_method_91_code
abbrev kC32 : ByteArray := jdk_52_method_86_code
abbrev kC33 : ByteArray := jdk_52_method_94_code
abbrev kC34 : ByteArray := jdk_67_method_42_code
abbrev kC35 : ByteArray := jdk_48_method_27_code
abbrev kC36 : ByteArray := jdk_68_method_64_code
abbrev kC37 : ByteArray := jdk_67_method_93_code
abbrev kC38 : ByteArray := jdk_78_method_2_code
abbrev kC39 : ByteArray := jdk_52_method_5_code
abbrev kC40 : ByteArray := jdk_52_method_3_code
abbrev kC41 : ByteArray := jdk_52_method_2_code
abbrev kC42 : ByteArray := jdk_52_method_4_code
abbrev kC43 : ByteArray := jdk_68_method_2_code
abbrev kC44 : ByteArray := jdk_52_method_6_code
abbrev kC45 : ByteArray := jdk_43_method_2_code
abbrev kC46 : ByteArray := jdk_59_method_2_code
abbrev kC47 : ByteArray := object_method_1_code
abbrev kC48 : ByteArray := jdk_67_method_1_code
abbrev kC49 : ByteArray := jdk_68_method_9_code
abbrev kC50 : ByteArray := prog_8_method_1_code
abbrev kC51 : ByteArray := jdk_78_method_6_code
abbrev kC52 : ByteArray := jdk_42_method_3_code
abbrev kC53 : ByteArray := jdk_67_method_7_code
abbrev kC54 : ByteArray := jdk_68_method_6_code
abbrev kC55 : ByteArray := method_3_code
theorem wat {a0 : Array Value} {Z : State} (hw : HW a0 Z) (i : Nat) {d : Jvm.Cond} (q : tables_1[i]? = some d) : d.before a0 Z = true := hw _ (List.mem_of_getElem? q)
abbrev BW (a0 : Array Value) (Z : State) (d : Jvm.Cond) : Prop := d.before a0 Z = true
variable {a0 : Array Value} {Z : State}
abbrev sT5 : String := "java/lang/StringUTF16"
abbrev sT6 : String := "com/example/anteriorita/anteriorita/RecordIdsDuplicatePinLaw"
abbrev sT7 : String := "com/example/anteriorita/anteriorita/RecordIds"
abbrev sT8 : String := "(Ljava/lang/String;)V"
abbrev sT9 : String := "(Ljava/lang/String;Ljava/lang/String;Ljava/lang/String;)Lcom/example/anteriorita/anteriorita/InputException;"
abbrev sT10 : String := "java/lang/StringLatin1"
abbrev sT11 : String := "()Ljava/lang/String;"
abbrev sT12 : String := "(Ljava/lang/String;)Ljava/lang/StringBuilder;"
abbrev sT13 : String := "jdk/internal/util/Preconditions"
def chr (x : Int32) : Int32 := (x &&& 255).toUInt32.toUInt16.toUInt32.toInt32
theorem chr_eq (x : Int32) : chr x = x &&& 255 := i2c_mask x
theorem chr_rng (x : Int32) : ¬ chr x < 0 ∧ ¬ (255 : Int32) < chr x := by
  rw [chr_eq]
  have h := c_mask x 255 8 (by decide) (by decide)
  simp only [Int32.lt_iff_toInt_lt]
  have h0 : (0 : Int32).toInt = 0 := by decide
  have h1 : (255 : Int32).toInt = 255 := by decide
  rw [h, h0, h1]
  have : (2 ^ 8 : Nat) = 256 := by decide
  omega
theorem chr_nar (x : Int32) : nar .char (chr x) = chr x := by simp only [nar, chr, UInt32.toUInt32_toInt32, UInt16.toUInt16_toUInt32]
theorem al0 {P : Int32 → Prop} : ∀ c ∈ ([] : List Int32), P c := fun _ q => nomatch q
theorem alS {P : Int32 → Prop} {y : Int32} {L : List Int32} (q : P y) (r : ∀ x ∈ L, P x) : ∀ x ∈ y :: L, P x := fun x z => (List.mem_cons.mp z).elim (fun u => u ▸ q) (r x)
theorem shr_zero (x : Int32) : x >>> ((0 : Int32) &&& 31) = x := by
  rw [show ((0 : Int32) &&& 31) = 0 from by decide]
  exact Int32.toInt_inj.mp (by rw [show x >>> (0 : Int32) = x >>> ((0 : Int32) &&& 31) from by rw [show ((0 : Int32) &&& 31) = 0 from by decide], c_ishr x 0 0 (by decide)]; simp)
theorem lo8_nar (x : Int32) : nar .byte (StrChars.lo8 x) = StrChars.lo8 x := by simp [nar, StrChars.lo8]
theorem rng16 (x : Int32) : ¬ x.toUInt32.toUInt16.toUInt32.toInt32 < 0 ∧ ¬ (65535 : Int32) < x.toUInt32.toUInt16.toUInt32.toInt32 := by
  have h := c_i2c x
  have h0 : (0 : Int32).toInt = 0 := by decide
  have h1 : (65535 : Int32).toInt = 65535 := by decide
  simp only [Int32.lt_iff_toInt_lt, h0, h1]
  omega
theorem nar_of {c : Int32} (h0 : ¬ c < 0) (h1 : ¬ (65535 : Int32) < c) : nar .char c = c := by
  have := StrChars.narrow_ch h0 h1
  exact Value.int.inj this
theorem lt_up {a b c : Int32} (h : b < a) (q : c < b) : c < a := by
  simp only [Int32.lt_iff_toInt_lt] at *
  omega
abbrev EL : List (String × Nat) := [("com/example/anteriorita/anteriorita/RecordIds", 43), ("com/example/anteriorita/anteriorita/RecordIds", 45)]
theorem wd133 (hw : HW a0 Z) : BW a0 Z (.stringLink "com/example/anteriorita/anteriorita/RecordIds" (45 : Nat) "\", first at ") := wat hw 133 rfl
theorem wd107 (hw : HW a0 Z) : BW a0 Z (.stringLink "com/example/anteriorita/anteriorita/RecordIds" (43 : Nat) ": duplicate id \"") := wat hw 107 rfl
theorem own_EW {a0 : Array Value} {Z : State} (hw : HW a0 Z) : EW Z a0 EL := EW.cons (wd107 hw) (by decide) (EW.cons (wd133 hw) (by decide) (EW.nil))
theorem own_wS {a0 : Array Value} {Z : State} (hw : HW a0 Z) : ∀ d ∈ Bundle.stringAtoms, d.before a0 Z = true := fun d hd => hw d ((by decide +kernel : ∀ d ∈ Bundle.stringAtoms, d ∈ tables_1) d hd)
theorem own_wStr {a0 : Array Value} {Z : State} (hw : HW a0 Z) : ∀ d ∈ StrChars.Road.words, d.before a0 Z = true := fun d hd => hw d ((by decide +kernel : ∀ d ∈ StrChars.Road.words, d ∈ tables_1) d hd)
theorem own_LN {a0 : Array Value} {Z : State} (hw : HW a0 Z) (n : Nat) (h : [16, 12].contains n = false) : ∀ p ∈ EL, ∃ text : String, (Jvm.Cond.stringLink p.1 p.2 text).before a0 Z = true ∧ (∀ c ∈ text.toList, c.toNat < 256) ∧ text.toList.length ≠ n := by
  intro p hp
  simp only [EL, List.mem_cons, List.not_mem_nil, or_false] at hp
  rcases hp with rfl | rfl
  · exact ⟨_, (wd107 hw), by decide, fun e => by subst e; revert h; decide⟩
  · exact ⟨_, (wd133 hw), by decide, fun e => by subst e; revert h; decide⟩
theorem sub_zero32 (x : Int32) : x - (0 : Int32) = x := by simp
theorem shl_zero (x : Int32) : x <<< ((0 : Int32) &&& 31) = x := by
  rw [show ((0 : Int32) &&& 31) = 0 from by decide]; simp
/-- every value of a byte, asked one by one -/
theorem all256 {P : Int32 → Prop} [DecidablePred P] (h : ∀ n : Fin 256, P (Int32.ofNat n.val)) {c : Int32} (h0 : ¬ c < 0) (h1 : ¬ (255 : Int32) < c) : P c := by
  have e0 : (0 : Int32).toInt = 0 := by decide
  have e1 : (255 : Int32).toInt = 255 := by decide
  simp only [Int32.lt_iff_toInt_lt, e0, e1] at h0 h1
  have hn : c.toInt.toNat < 256 := by omega
  have q := h ⟨c.toInt.toNat, hn⟩
  have e : Int32.ofNat c.toInt.toNat = c := by
    apply Int32.toInt_inj.mp
    rw [Int32.toInt_ofNat']
    have : (c.toInt.toNat : Int) = c.toInt := by omega
    rw [this]
    have r := Int32.le_toInt c
    have r2 := Int32.toInt_lt c
    have sz : Int32.size = 4294967296 := rfl
    exact Int.bmod_eq_of_le (by omega) (by omega)
  rw [← e]; exact q
theorem back8 {c : Int32} (h0 : ¬ c < 0) (h1 : ¬ (255 : Int32) < c) : (StrChars.lo8 c) &&& 255 = c := all256 (P := fun c => (StrChars.lo8 c) &&& 255 = c) (by decide +kernel) h0 h1
theorem i2c255 {c : Int32} (h0 : ¬ c < 0) (h1 : ¬ (255 : Int32) < c) : c.toUInt32.toUInt16.toUInt32.toInt32 = c := all256 (P := fun c => c.toUInt32.toUInt16.toUInt32.toInt32 = c) (by decide +kernel) h0 h1
theorem hi8_nar (x : Int32) : nar .byte (StrChars.hi8 x) = StrChars.hi8 x := by unfold StrChars.hi8; exact lo8_nar _
theorem on_sub {a b : Nat} (h : b ≤ a) (ha : a < 2147483648) : Int32.ofNat a - Int32.ofNat b = Int32.ofNat (a - b) := by
  apply Int32.toInt_inj.mp
  have h2 := c_isub (Int32.ofNat a) (Int32.ofNat b)
  have r2 := rng32 (Int32.ofNat a - Int32.ofNat b)
  rw [on_int ha, on_int (i := b) (by omega)] at h2
  rw [on_int (i := a - b) (by omega)]
  omega
theorem add_zero32 (x : Int32) : x + (0 : Int32) = x := by simp
theorem on_add (a b : Nat) : Int32.ofNat a + Int32.ofNat b = Int32.ofNat (a + b) := (Int32.ofNat_add ..).symm
theorem on_le {a b : Nat} (h : a ≤ b) (hb : b < 2147483648) : ¬ Int32.ofNat b < Int32.ofNat a := by
  rw [Int32.lt_iff_toInt_lt, on_int hb, on_int (by omega)]; omega
theorem on_shl {a : Nat} (h : a < 1073741824) : Int32.ofNat a <<< ((1 : Int32) &&& 31) = Int32.ofNat (2 * a) := by
  apply Int32.toInt_inj.mp
  have h2 := c_ishl (Int32.ofNat a) 1 1 (by decide)
  have r2 := rng32 (Int32.ofNat a <<< ((1 : Int32) &&& 31))
  rw [on_int (i := a) (by omega)] at h2
  rw [on_int (i := 2 * a) (by omega)]
  omega
theorem on_shr {a : Nat} (h : a < 2147483648) : Int32.ofNat a >>> ((1 : Int32) &&& 31) = Int32.ofNat (a / 2) := by
  apply Int32.toInt_inj.mp
  have h2 := c_ishr (Int32.ofNat a) 1 1 (by decide)
  rw [on_int h] at h2
  rw [on_int (i := a / 2) (by omega)]
  omega
theorem on_or {a b : Int32} (ha : ¬ a < 0) (hb : ¬ b < 0) : ¬ (a ||| b) < 0 := by
  have e0 : (0 : Int32).toInt = 0 := by decide
  have m : ∀ x : Int32, x < 0 ↔ x.toBitVec.msb = true := fun x => by
    rw [Int32.lt_iff_toInt_lt, e0, BitVec.msb_eq_toInt, decide_eq_true_iff]; rfl
  rw [m] at *
  rw [Int32.toBitVec_or, BitVec.msb_or]
  simp_all
theorem map_getD {cs : List Int32} {n i : Nat} {f : Int32 → Value} {d : Value} (Hn : cs.length = n) (h : i < n) : (cs.map f).getD i d = f (cs.getD i 0) := by
  have h' : i < cs.length := by omega
  simp [List.getD_eq_getElem?_getD, h']
theorem rng_of {cs : List Int32} {n i : Nat} {y : Int32} {P : Int32 → Prop} (Hr : ∀ x ∈ cs, P x) (Hn : cs.length = n) (h : i < n) (hy : y = cs.getD i 0) : P y := by
  have h' : i < cs.length := by omega
  subst hy
  apply Hr
  rw [List.getD_eq_getElem?_getD, List.getElem?_eq_getElem h']
  exact List.getElem_mem h'
theorem all_step {P : Nat → Prop} {i : Nat} (q : ∀ j, j < i → P j) (h : P i) : ∀ j, j < i + 1 → P j := fun j hj => by
  rcases Nat.lt_or_eq_of_le (Nat.le_of_lt_succ hj) with h1 | h1
  · exact q j h1
  · rw [h1]; exact h
def lo8V (x : Int32) : Value := .int (StrChars.lo8 x)
theorem sub_all {V : List Value} {n : Nat} {d : Value} (h : V.length = n) : sub V 0 n d = V := by
  apply List.ext_getElem (by rw [sub_len, h])
  intro j h1 h2
  simp [sub, List.getD_eq_getElem?_getD, h2]
theorem insA {A B : List Value} {c n r : Nat} {v : Value} (hA : A.length = c) (hB : B.length = n) (h : n ≤ r) : ins (A ++ List.replicate r v) B c n = (A ++ B) ++ List.replicate (r - n) v := by
  subst hA
  unfold ins
  rw [List.take_left' rfl, ← List.drop_drop, List.drop_left' rfl, List.drop_replicate]
theorem growA {V : List Value} {cap to : Nat} {v d : Value} (hV : V.length = cap) (h : cap ≤ to) : ins (List.replicate to v) (sub V 0 cap d) 0 cap = V ++ List.replicate (to - cap) v := by
  rw [sub_all hV]
  exact insA (A := []) rfl hV h
theorem rep_add {a b : Nat} {v : Value} {A : List Value} : (A ++ List.replicate a v) ++ List.replicate b v = A ++ List.replicate (a + b) v := by
  rw [List.append_assoc, List.replicate_append_replicate]
def flat : List Int32 → List Value
  | [] => []
  | c :: r => .int (StrChars.lo8 c) :: .int (StrChars.hi8 c) :: flat r
theorem flat_len : ∀ cs : List Int32, (flat cs).length = 2 * cs.length
  | [] => rfl
  | c :: r => by simp only [flat, List.length_cons, flat_len r]; omega
theorem flat_app : ∀ a b : List Int32, flat (a ++ b) = flat a ++ flat b
  | [], b => rfl
  | c :: r, b => by simp only [flat, List.cons_append, flat_app r b]
theorem flat_get : ∀ (cs : List Int32) (k : Nat), k < cs.length → (flat cs).getD (2 * k) (.int 0) = .int (StrChars.lo8 (cs.getD k 0)) ∧ (flat cs).getD (2 * k + 1) (.int 0) = .int (StrChars.hi8 (cs.getD k 0))
  | [], k, h => absurd h (Nat.not_lt_zero _)
  | c :: r, 0, _ => ⟨rfl, rfl⟩
  | c :: r, k + 1, h => by
    have q := flat_get r k (by simpa using h)
    have e1 : 2 * (k + 1) = 2 * k + 2 := by omega
    rw [e1]
    exact q
theorem set_mid : ∀ (A : List Value) (x v : Value) (r : List Value), (A ++ x :: r).set A.length v = A ++ v :: r
  | [], _, _, _ => rfl
  | a :: A, x, v, r => by show a :: ((A ++ x :: r).set A.length v) = _; rw [set_mid A x v r]; rfl
theorem flat_step {vd : List Value} {cs : List Int32} {c i n : Nat} (Hn : cs.length = n) (hi : i < n) (hl : 2 * (c + n) ≤ vd.length) : ((ins vd (flat (List.take i cs)) (2 * c) (2 * i)).set (2 * (c + i)) (.int (StrChars.lo8 (cs.getD i 0)))).set (2 * (c + i) + 1) (.int (StrChars.hi8 (cs.getD i 0))) = ins vd (flat (List.take (i + 1) cs)) (2 * c) (2 * (i + 1)) := by
  have hd : 2 ≤ (vd.drop (2 * c + 2 * i)).length := by rw [List.length_drop]; omega
  obtain ⟨x, y, rest, e⟩ : ∃ x y rest, vd.drop (2 * c + 2 * i) = x :: y :: rest := by
    match h : vd.drop (2 * c + 2 * i) with
    | [] => rw [h] at hd; exact absurd hd (by simp)
    | [_] => rw [h] at hd; exact absurd hd (by simp)
    | x :: y :: r => exact ⟨x, y, r, rfl⟩
  have er : vd.drop (2 * c + 2 * (i + 1)) = rest := by
    rw [show 2 * c + 2 * (i + 1) = 2 * c + 2 * i + 2 by omega, ← List.drop_drop, e]; rfl
  have et : List.take (i + 1) cs = List.take i cs ++ [cs.getD i 0] := by
    have h' : i < cs.length := by omega
    rw [List.take_succ, List.getD_eq_getElem?_getD, List.getElem?_eq_getElem h']; rfl
  have la : (vd.take (2 * c) ++ flat (List.take i cs)).length = 2 * (c + i) := by
    rw [List.length_append, List.length_take, flat_len, List.length_take]; omega
  unfold ins
  rw [e, er, et, flat_app]
  have s1 := set_mid (vd.take (2 * c) ++ flat (List.take i cs)) x (.int (StrChars.lo8 (cs.getD i 0))) (y :: rest)
  rw [la] at s1
  rw [s1]
  have s2 := set_mid (vd.take (2 * c) ++ flat (List.take i cs) ++ [.int (StrChars.lo8 (cs.getD i 0))]) y (.int (StrChars.hi8 (cs.getD i 0))) rest
  rw [List.length_append, la, List.append_assoc] at s2
  refine Eq.trans s2 ?_
  simp [flat]
def ALL (cs : List Int32) : Prop := ∀ x ∈ cs, ¬ x < 0 ∧ ¬ (255 : Int32) < x
def WD (cs : List Int32) : Prop := (∀ x ∈ cs, ¬ x < 0 ∧ ¬ (65535 : Int32) < x) ∧ ∃ k, k < cs.length ∧ (255 : Int32) < cs.getD k 0
def SRC (us : List Value) (cs : List Int32) (n : Nat) : Prop := cs.length = n ∧ (∀ k, k < n → us.getD k (.int 0) = lo8V (cs.getD k 0)) ∧ ALL cs
def SB (cs : List Int32) (cd z : Int32) (vs : List Value) : Prop := (ALL cs ∧ cd = 0 ∧ z = Int32.ofNat cs.length ∧ vs = cs.map lo8V) ∨ (WD cs ∧ cd = 1 ∧ z = Int32.ofNat (2 * cs.length) ∧ vs = flat cs)
def BU (bs : List Int32) (cap : Nat) (cd z : Int32) (vd : List Value) : Prop := (ALL bs ∧ cd = 0 ∧ z = Int32.ofNat cap ∧ vd = bs.map lo8V ++ List.replicate (cap - bs.length) (.int 0)) ∨ (WD bs ∧ cd = 1 ∧ z = Int32.ofNat (2 * cap) ∧ vd = flat bs ++ List.replicate (2 * cap - 2 * bs.length) (.int 0))
theorem all_app {a b : List Int32} (h1 : ALL a) (h2 : ALL b) : ALL (a ++ b) := fun x hx => (List.mem_append.mp hx).elim (h1 x) (h2 x)
theorem r16_of {a : List Int32} (h : ALL a) : ∀ x ∈ a, ¬ x < 0 ∧ ¬ (65535 : Int32) < x := fun x hx => ⟨(h x hx).1, fun q => (h x hx).2 (by
  have e1 : (255 : Int32).toInt = 255 := by decide
  have e2 : (65535 : Int32).toInt = 65535 := by decide
  simp only [Int32.lt_iff_toInt_lt, e1, e2] at *
  omega)⟩
theorem wd_app {a b : List Int32} (h : (WD a ∧ (ALL b ∨ WD b)) ∨ (ALL a ∧ WD b)) : WD (a ++ b) := by
  have ra : ∀ x ∈ a, ¬ x < 0 ∧ ¬ (65535 : Int32) < x := h.elim (fun q => q.1.1) (fun q => r16_of q.1)
  have rb : ∀ x ∈ b, ¬ x < 0 ∧ ¬ (65535 : Int32) < x := h.elim (fun q => q.2.elim r16_of (fun z => z.1)) (fun q => q.2.1)
  refine ⟨fun x hx => (List.mem_append.mp hx).elim (ra x) (rb x), ?_⟩
  rcases h with ⟨⟨-, k, k1, k2⟩, -⟩ | ⟨-, -, k, k1, k2⟩
  · exact ⟨k, by rw [List.length_append]; omega, by rw [List.getD_eq_getElem?_getD, List.getElem?_append_left k1, ← List.getD_eq_getElem?_getD]; exact k2⟩
  · exact ⟨a.length + k, by rw [List.length_append]; omega, by rw [List.getD_eq_getElem?_getD, List.getElem?_append_right (Nat.le_add_right _ _), Nat.add_sub_cancel_left, ← List.getD_eq_getElem?_getD]; exact k2⟩
theorem not_both {cs : List Int32} (h1 : ALL cs) (h2 : WD cs) : False := by
  obtain ⟨-, k, k1, k2⟩ := h2
  exact (rng_of h1 rfl k1 rfl).2 k2
theorem either : ∀ {cs : List Int32}, (∀ x ∈ cs, ¬ x < 0 ∧ ¬ (65535 : Int32) < x) → ALL cs ∨ WD cs := fun {cs} h => by
  by_cases q : ∃ k, k < cs.length ∧ (255 : Int32) < cs.getD k 0
  · exact Or.inr ⟨h, q⟩
  · refine Or.inl fun x hx => ⟨(h x hx).1, fun z => q ?_⟩
    obtain ⟨k, k1, k2⟩ := List.getElem_of_mem hx
    exact ⟨k, k1, by rw [List.getD_eq_getElem?_getD, List.getElem?_eq_getElem k1, k2]; exact z⟩
theorem src_of {bs : List Int32} {c r : Nat} (h : ALL bs) (hl : bs.length = c) : SRC (bs.map lo8V ++ List.replicate r (.int 0)) bs c := ⟨hl, fun k hk => by
  rw [List.getD_eq_getElem?_getD, List.getElem?_append_left (by rw [List.length_map]; omega), ← List.getD_eq_getElem?_getD]; exact map_getD hl hk, h⟩
theorem src_all {cs : List Int32} {n : Nat} (h : ALL cs) (hl : cs.length = n) : SRC (cs.map lo8V) cs n := ⟨hl, fun k hk => map_getD hl hk, h⟩
def chA (x : Int32) : Int32 := (x &&& 65535).toUInt32.toUInt16.toUInt32.toInt32
def chB (x : Int32) : Int32 := ((x.toUInt32 >>> ((16 : Int32) &&& 31).toUInt32).toInt32).toUInt32.toUInt16.toUInt32.toInt32
theorem chA_rng (x : Int32) : ¬ chA x < 0 ∧ ¬ (65535 : Int32) < chA x := rng16 _
theorem chB_rng (x : Int32) : ¬ chB x < 0 ∧ ¬ (65535 : Int32) < chB x := rng16 _
theorem two_rng (x : Int32) : ∀ y ∈ [chA x, chB x], ¬ y < 0 ∧ ¬ (65535 : Int32) < y := fun y hy => by
  simp only [List.mem_cons, List.not_mem_nil, or_false] at hy
  rcases hy with rfl | rfl
  · exact chA_rng x
  · exact chB_rng x
theorem e26_0 : decode kC42 0 = .ok (.getstatic 44, 3) := by decide +kernel
theorem wd277 (hw : HW a0 Z) : BW a0 Z (.fieldLink sT5 (44 : Nat) sT5 "$assertionsDisabled" "Z") := wat hw 277 rfl
theorem e26_3 : decode kC42 3 = .ok (.ifCond .ne 25, 3) := by decide +kernel
theorem e26_28 : decode kC42 28 = .ok (.iload_n 1, 1) := by decide +kernel
theorem e26_29 : decode kC42 29 = .ok (.iconst 1, 1) := by decide +kernel
theorem e26_30 : decode kC42 30 = .ok (.ishl, 1) := by decide +kernel
theorem e26_31 : decode kC42 31 = .ok (.istore_n 1, 1) := by decide +kernel
theorem e26_32 : decode kC42 32 = .ok (.aload_n 0, 1) := by decide +kernel
theorem e26_33 : decode kC42 33 = .ok (.iload_n 1, 1) := by decide +kernel
theorem e26_34 : decode kC42 34 = .ok (.iinc 1 1, 3) := by decide +kernel
theorem e26_37 : decode kC42 37 = .ok (.iload_n 2, 1) := by decide +kernel
theorem e26_38 : decode kC42 38 = .ok (.getstatic 59, 3) := by decide +kernel
theorem wd278 (hw : HW a0 Z) : BW a0 Z (.fieldLink sT5 (59 : Nat) sT5 "HI_BYTE_SHIFT" "I") := wat hw 278 rfl
theorem e26_41 : decode kC42 41 = .ok (.ishr, 1) := by decide +kernel
theorem e26_42 : decode kC42 42 = .ok (.i2b, 1) := by decide +kernel
theorem e26_43 : decode kC42 43 = .ok (.bastore, 1) := by decide +kernel
theorem e26_44 : decode kC42 44 = .ok (.aload_n 0, 1) := by decide +kernel
theorem e26_45 : decode kC42 45 = .ok (.iload_n 1, 1) := by decide +kernel
theorem e26_46 : decode kC42 46 = .ok (.iload_n 2, 1) := by decide +kernel
theorem e26_47 : decode kC42 47 = .ok (.getstatic 63, 3) := by decide +kernel
theorem wd279 (hw : HW a0 Z) : BW a0 Z (.fieldLink sT5 (63 : Nat) sT5 "LO_BYTE_SHIFT" "I") := wat hw 279 rfl
theorem e26_50 : decode kC42 50 = .ok (.ishr, 1) := by decide +kernel
theorem e26_51 : decode kC42 51 = .ok (.i2b, 1) := by decide +kernel
theorem e26_52 : decode kC42 52 = .ok (.bastore, 1) := by decide +kernel
theorem e26_53 : decode kC42 53 = .ok (.return_, 1) := by decide +kernel
def Q_put (Z : State) (zC : Int32) (vF : Value) (a1 : Addr) (kb : ClassId) (px : Nat) (pl : Nat) (c0 : Int32) (vd : List Value) (h0 : Heap) (v : Option Value) (h : Heap) (L : List Loc) : Prop := v = none ∧ Fr Z.heap.size L ∧ Keep h0 h [a1] ∧ Arv Z h a1 kb .byte (Int32.ofNat pl) ((vd.set (2 * px) (.int (StrChars.lo8 c0))).set (2 * px + 1) (.int (StrChars.hi8 c0))) (.int 0)
theorem pn0 : plainName "java/lang/StringUTF16" = true := by first | (simp [plainName, overriddenIn]; done) | decide +kernel
theorem rm_put (l : Launch) (Z : State) (a0 : Array Value) (hw : HW a0 Z) (zC : Int32) (vF : Value) (G : GB l a0 Z zC vF) (a1 : Addr) (kb : ClassId) (px : Nat) (pl : Nat) (c0 : Int32) (vd : List Value) (h0 : Heap) (O0 : Old Z Z.heap.size h0) (P1 : Arv Z h0 a1 kb .byte (Int32.ofNat pl) vd (.int 0)) (Hl : (vd.length = pl)) (Hx : (2 * px + 1 < pl)) (Hb : (pl < 1000)) (P2 : Z.heap.size ≤ a1) :
    Con l Z (⟨"java/lang/StringUTF16", "putChar", "([BII)V"⟩ : MethodName) kC42 3 none ({ frames := 0, cells := 0, slots := 0, locals := 0 } : Room) #[(.ref a1), (.int (Int32.ofNat px)), (.int c0)] h0 (Q_put Z zC vF a1 kb px pl c0 vd h0) := by
  obtain ⟨hl, SC, PC, rF, SF, SA, SH, SL, hX⟩ := id G
  refine Con.intro (plainFor_of_name pn0) ?_
  intro p e s m below meth c T0 X0 hx hby hml hown0 hnm hret hlk hZ0 e0
  have N0 := Fr.nil Z.heap.size
  refine castGo (g' := mkF m 0 #[.val (.ref a1), .val (.int (Int32.ofNat px)), .val (.int c0)] []) (by first | rfl | (simp [entryFrame, mkF, argsToLocals, Value.category]; done)) ?_
  show Go _ _ _ _ (T0.setTop (mkF m 0 #[.val (.ref a1), .val (.int (Int32.ofNat px)), .val (.int c0)] []))
  refine g_getS X0 hx hZ0 hown0 (host := "") (Or.inl (wd277 hw)) Via.refl (SA.ext O0.2) e0 (hb hby e26_0) (q := 3) rfl ?_
  intro T1 X1 e1
  refine ifY X1 hx (hb hby e26_3) (q := 28) (by decide) (by decide) (by decide) ?_
  refine iL X1 hx (hb hby e26_28) (q := 29) rfl rfl ?_
  refine cI X1 hx (hb hby e26_29) (q := 30) rfl (z := (1 : Int32)) rfl ?_
  refine g_ishl X1 hx (hb hby e26_30) (q := 31) rfl (z := (Int32.ofNat (2 * px))) (on_shl (show px < 1073741824 from by omega)) ?_
  refine sI X1 hx (hb hby e26_31) (q := 32) rfl (Ls' := #[.val (.ref a1), .val (.int (Int32.ofNat (2 * px))), .val (.int c0)]) rfl ?_
  refine aL X1 hx (hb hby e26_32) (q := 33) rfl rfl rfl ?_
  refine iL X1 hx (hb hby e26_33) (q := 34) rfl rfl ?_
  refine g_iinc X1 hx (hb hby e26_34) (q := 37) rfl rfl (z := (Int32.ofNat (2 * px + 1))) (on_add (2 * px) 1) (Ls' := #[.val (.ref a1), .val (.int (Int32.ofNat (2 * px + 1))), .val (.int c0)]) rfl ?_
  refine iL X1 hx (hb hby e26_37) (q := 38) rfl rfl ?_
  refine g_getS X1 hx hZ0 hown0 (host := "") (Or.inl (wd278 hw)) Via.refl (SH.ext O0.2) e1 (hb hby e26_38) (q := 41) rfl ?_
  intro T2 X2 e2
  refine g_ishr X2 hx (hb hby e26_41) (q := 42) rfl (z := c0) (shr_zero _) ?_
  refine g_i2b X2 hx (hb hby e26_42) (q := 43) rfl (z := (StrChars.lo8 c0)) rfl ?_
  refine g_stB X2 hx hZ0 P1 (i := (2 * px)) (on_clamp (show (2 * px) < 2147483648 from by omega)) (on_nn (show (2 * px) < 2147483648 from by omega)) (on_lt (show (2 * px) < pl from by omega) (show pl < 2147483648 from by omega)) (show (2 * px) < vd.length from by first | omega | (simp only [List.length_set]; omega)) (y := (StrChars.lo8 c0)) (lo8_nar _) e2 (hb hby e26_43) (q := 44) rfl ?_
  intro T3 h3 X3 e3 W3 V3
  have N3 := Fr.snoc X3 N0 P2
  refine aL X3 hx (hb hby e26_44) (q := 45) rfl rfl rfl ?_
  refine iL X3 hx (hb hby e26_45) (q := 46) rfl rfl ?_
  refine iL X3 hx (hb hby e26_46) (q := 47) rfl rfl ?_
  have f5 := O0.wr W3 P2
  refine g_getS X3 hx hZ0 hown0 (host := "") (Or.inl (wd279 hw)) Via.refl (SL.ext f5.2) e3 (hb hby e26_47) (q := 50) rfl ?_
  intro T4 X4 e4
  refine g_ishr X4 hx (hb hby e26_50) (q := 51) rfl rfl ?_
  refine g_i2b X4 hx (hb hby e26_51) (q := 52) rfl (z := (StrChars.hi8 c0)) rfl ?_
  refine g_stB X4 hx hZ0 V3 (i := (2 * px + 1)) (on_clamp (show (2 * px + 1) < 2147483648 from by omega)) (on_nn (show (2 * px + 1) < 2147483648 from by omega)) (on_lt (show (2 * px + 1) < pl from by omega) (show pl < 2147483648 from by omega)) (show (2 * px + 1) < (vd.set (2 * px) (.int (StrChars.lo8 c0))).length from by first | omega | (simp only [List.length_set]; omega)) (y := (StrChars.hi8 c0)) (lo8_nar _) e4 (hb hby e26_52) (q := 53) rfl ?_
  intro T6 h6 X6 e6 W6 V6
  have N6 := Fr.snoc X6 N3 P2
  have K7 : Keep h0 h3 [a1] := (Keep.refl h0 [a1]).wr W3 (Or.inl (by simp))
  have K8 : Keep h0 h6 [a1] := K7.wr W6 (Or.inl (by simp))
  refine endP X6 hlk (fun _ => rfl) (lastV X6 hx hret (hb hby e26_53)) ?_ (by decide) (by decide)
  rw [e6]
  exact ⟨rfl, N6, K8, V6⟩
theorem e27_0 : decode kC39 0 = .ok (.getstatic 44, 3) := by decide +kernel
theorem e27_3 : decode kC39 3 = .ok (.ifCond .ne 25, 3) := by decide +kernel
theorem e27_28 : decode kC39 28 = .ok (.iload_n 1, 1) := by decide +kernel
theorem e27_29 : decode kC39 29 = .ok (.iconst 1, 1) := by decide +kernel
theorem e27_30 : decode kC39 30 = .ok (.ishl, 1) := by decide +kernel
theorem e27_31 : decode kC39 31 = .ok (.istore_n 1, 1) := by decide +kernel
theorem e27_32 : decode kC39 32 = .ok (.aload_n 0, 1) := by decide +kernel
theorem e27_33 : decode kC39 33 = .ok (.iload_n 1, 1) := by decide +kernel
theorem e27_34 : decode kC39 34 = .ok (.iinc 1 1, 3) := by decide +kernel
theorem e27_37 : decode kC39 37 = .ok (.baload, 1) := by decide +kernel
theorem e27_38 : decode kC39 38 = .ok (.sipush 255, 3) := by decide +kernel
theorem e27_41 : decode kC39 41 = .ok (.iand, 1) := by decide +kernel
theorem e27_42 : decode kC39 42 = .ok (.getstatic 59, 3) := by decide +kernel
theorem e27_45 : decode kC39 45 = .ok (.ishl, 1) := by decide +kernel
theorem e27_46 : decode kC39 46 = .ok (.aload_n 0, 1) := by decide +kernel
theorem e27_47 : decode kC39 47 = .ok (.iload_n 1, 1) := by decide +kernel
theorem e27_48 : decode kC39 48 = .ok (.baload, 1) := by decide +kernel
theorem e27_49 : decode kC39 49 = .ok (.sipush 255, 3) := by decide +kernel
theorem e27_52 : decode kC39 52 = .ok (.iand, 1) := by decide +kernel
theorem e27_53 : decode kC39 53 = .ok (.getstatic 63, 3) := by decide +kernel
theorem e27_56 : decode kC39 56 = .ok (.ishl, 1) := by decide +kernel
theorem e27_57 : decode kC39 57 = .ok (.ior, 1) := by decide +kernel
theorem e27_58 : decode kC39 58 = .ok (.i2c, 1) := by decide +kernel
theorem e27_59 : decode kC39 59 = .ok (.ireturn, 1) := by decide +kernel
def Q_gch (Z : State) (zC : Int32) (vF : Value) (a1 : Addr) (kb : ClassId) (pj : Nat) (pz : Nat) (cs : List Int32) (h0 : Heap) (v : Option Value) (h : Heap) (L : List Loc) : Prop := v = some (.int (cs.getD pj 0)) ∧ Fr Z.heap.size L ∧ h = h0
theorem rm_gch (l : Launch) (Z : State) (a0 : Array Value) (hw : HW a0 Z) (zC : Int32) (vF : Value) (G : GB l a0 Z zC vF) (a1 : Addr) (kb : ClassId) (pj : Nat) (pz : Nat) (cs : List Int32) (h0 : Heap) (O0 : Old Z Z.heap.size h0) (P1 : Arv Z h0 a1 kb .byte (Int32.ofNat pz) (flat cs) (.int 0)) (Hl : (pz = 2 * cs.length)) (Hj : (pj < cs.length)) (Hb : (pz < 1000)) (Hr : (∀ x ∈ cs, ¬ x < 0 ∧ ¬ (65535 : Int32) < x)) :
    Con l Z (⟨"java/lang/StringUTF16", "getChar", "([BI)C"⟩ : MethodName) kC39 2 (some .char) ({ frames := 0, cells := 0, slots := 0, locals := 0 } : Room) #[(.ref a1), (.int (Int32.ofNat pj))] h0 (Q_gch Z zC vF a1 kb pj pz cs h0) := by
  obtain ⟨hl, SC, PC, rF, SF, SA, SH, SL, hX⟩ := id G
  refine Con.intro (plainFor_of_name pn0) ?_
  intro p e s m below meth c T0 X0 hx hby hml hown0 hnm hret hlk hZ0 e0
  have N0 := Fr.nil Z.heap.size
  refine castGo (g' := mkF m 0 #[.val (.ref a1), .val (.int (Int32.ofNat pj))] []) (by first | rfl | (simp [entryFrame, mkF, argsToLocals, Value.category]; done)) ?_
  obtain ⟨y, hy⟩ : ∃ y, y = cs.getD pj 0 := ⟨_, rfl⟩
  have g := flat_get cs pj (by omega)
  rw [← hy] at g
  have ry := rng_of Hr rfl Hj hy
  show Go _ _ _ _ (T0.setTop (mkF m 0 #[.val (.ref a1), .val (.int (Int32.ofNat pj))] []))
  refine g_getS X0 hx hZ0 hown0 (host := "") (Or.inl (wd277 hw)) Via.refl (SA.ext O0.2) e0 (hb hby e27_0) (q := 3) rfl ?_
  intro T9 X9 e9
  refine ifY X9 hx (hb hby e27_3) (q := 28) (by decide) (by decide) (by decide) ?_
  refine iL X9 hx (hb hby e27_28) (q := 29) rfl rfl ?_
  refine cI X9 hx (hb hby e27_29) (q := 30) rfl (z := (1 : Int32)) rfl ?_
  refine g_ishl X9 hx (hb hby e27_30) (q := 31) rfl (z := (Int32.ofNat (2 * pj))) (on_shl (show pj < 1073741824 from by omega)) ?_
  refine sI X9 hx (hb hby e27_31) (q := 32) rfl (Ls' := #[.val (.ref a1), .val (.int (Int32.ofNat (2 * pj)))]) rfl ?_
  refine aL X9 hx (hb hby e27_32) (q := 33) rfl rfl rfl ?_
  refine iL X9 hx (hb hby e27_33) (q := 34) rfl rfl ?_
  refine g_iinc X9 hx (hb hby e27_34) (q := 37) rfl rfl (z := (Int32.ofNat (2 * pj + 1))) (on_add (2 * pj) 1) (Ls' := #[.val (.ref a1), .val (.int (Int32.ofNat (2 * pj + 1)))]) rfl ?_
  refine g_ldB X9 hx hZ0 P1 (i := (2 * pj)) (on_clamp (show (2 * pj) < 2147483648 from by omega)) (on_nn (show (2 * pj) < 2147483648 from by omega)) (on_lt (show (2 * pj) < pz from by omega) (show pz < 2147483648 from by omega)) (v := (.int (StrChars.lo8 y))) g.1 e9 (hb hby e27_37) (q := 38) rfl ?_
  refine pI X9 hx (hb hby e27_38) (q := 41) rfl (z := (255 : Int32)) rfl ?_
  refine g_iand X9 hx (hb hby e27_41) (q := 42) rfl rfl ?_
  refine g_getS X9 hx hZ0 hown0 (host := "") (Or.inl (wd278 hw)) Via.refl (SH.ext O0.2) e9 (hb hby e27_42) (q := 45) rfl ?_
  intro T10 X10 e10
  refine g_ishl X10 hx (hb hby e27_45) (q := 46) rfl rfl ?_
  refine aL X10 hx (hb hby e27_46) (q := 47) rfl rfl rfl ?_
  refine iL X10 hx (hb hby e27_47) (q := 48) rfl rfl ?_
  refine g_ldB X10 hx hZ0 P1 (i := (2 * pj + 1)) (on_clamp (show (2 * pj + 1) < 2147483648 from by omega)) (on_nn (show (2 * pj + 1) < 2147483648 from by omega)) (on_lt (show (2 * pj + 1) < pz from by omega) (show pz < 2147483648 from by omega)) (v := (.int (StrChars.hi8 y))) g.2 e10 (hb hby e27_48) (q := 49) rfl ?_
  refine pI X10 hx (hb hby e27_49) (q := 52) rfl (z := (255 : Int32)) rfl ?_
  refine g_iand X10 hx (hb hby e27_52) (q := 53) rfl rfl ?_
  refine g_getS X10 hx hZ0 hown0 (host := "") (Or.inl (wd279 hw)) Via.refl (SL.ext O0.2) e10 (hb hby e27_53) (q := 56) rfl ?_
  intro T11 X11 e11
  refine g_ishl X11 hx (hb hby e27_56) (q := 57) rfl rfl ?_
  refine g_ior X11 hx (hb hby e27_57) (q := 58) rfl rfl ?_
  refine g_i2c X11 hx (hb hby e27_58) (q := 59) rfl (z := y) (StrChars.pair_says ry.1 ry.2) ?_
  refine castGo (g' := mkF m 59 #[.val (.ref a1), .val (.int (Int32.ofNat (2 * pj + 1)))] [(.int (cs.getD pj 0))]) (by rw [hy]) ?_
  refine endP X11 hlk (fun h => by rw [hret] at h; cases h) (lastN X11 hx (t := .char) (z' := (cs.getD pj 0)) hret (by simp) (hy ▸ nar_of ry.1 ry.2) (hb hby e27_59)) ?_ (by decide) (by decide)
  rw [e11]
  exact ⟨rfl, N0, rfl⟩
theorem e25_0 : decode kC40 0 = .ok (.iload_n 0, 1) := by decide +kernel
theorem e25_1 : decode kC40 1 = .ok (.ifCond .ge 11, 3) := by decide +kernel
theorem e25_12 : decode kC40 12 = .ok (.iload_n 0, 1) := by decide +kernel
theorem e25_13 : decode kC40 13 = .ok (.ldc 20, 2) := by decide +kernel
theorem wd273 (hw : HW a0 Z) : BW a0 Z (.constant sT5 (20 : Nat) (1073741823 : Int32)) := wat hw 273 rfl
theorem e25_15 : decode kC40 15 = .ok (.if_icmp .lt 40, 3) := by decide +kernel
theorem e25_55 : decode kC40 55 = .ok (.iload_n 0, 1) := by decide +kernel
theorem e25_56 : decode kC40 56 = .ok (.iconst 1, 1) := by decide +kernel
theorem e25_57 : decode kC40 57 = .ok (.ishl, 1) := by decide +kernel
theorem e25_58 : decode kC40 58 = .ok (.ireturn, 1) := by decide +kernel
def Q_nbl (Z : State) (zC : Int32) (vF : Value) (pn : Nat) (h0 : Heap) (v : Option Value) (h : Heap) (L : List Loc) : Prop := v = some (.int (Int32.ofNat (2 * pn))) ∧ Fr Z.heap.size L ∧ h = h0
theorem rm_nbl (l : Launch) (Z : State) (a0 : Array Value) (hw : HW a0 Z) (zC : Int32) (vF : Value) (G : GB l a0 Z zC vF) (pn : Nat) (h0 : Heap) (O0 : Old Z Z.heap.size h0) (Hb : (pn ≤ 34)) :
    Con l Z (⟨"java/lang/StringUTF16", "newBytesLength", "(I)I"⟩ : MethodName) kC40 1 (some .int) ({ frames := 0, cells := 0, slots := 0, locals := 0 } : Room) #[(.int (Int32.ofNat pn))] h0 (Q_nbl Z zC vF pn h0) := by
  refine Con.intro (plainFor_of_name pn0) ?_
  intro p e s m below meth c T0 X0 hx hby hml hown0 hnm hret hlk hZ0 e0
  have N0 := Fr.nil Z.heap.size
  refine castGo (g' := mkF m 0 #[.val (.int (Int32.ofNat pn))] []) (by first | rfl | (simp [entryFrame, mkF, argsToLocals, Value.category]; done)) ?_
  show Go _ _ _ _ (T0.setTop (mkF m 0 #[.val (.int (Int32.ofNat pn))] []))
  refine iL X0 hx (hb hby e25_0) (q := 1) rfl rfl ?_
  refine ifY X0 hx (hb hby e25_1) (q := 12) (by decide) (by decide) ((if0 _ _).trans (flt (on_nn (by omega))).2.1) ?_
  refine iL X0 hx (hb hby e25_12) (q := 13) rfl rfl ?_
  refine g_ldcI X0 hx (a1 := #[]) hZ0 hown0 (wd273 hw) (hb hby e25_13) (q := 15) rfl ?_
  refine icY X0 hx (hb hby e25_15) (q := 55) (by decide) (by decide) (tlt (on_lt (n := 1073741823) (by omega) (by decide))).1 ?_
  refine iL X0 hx (hb hby e25_55) (q := 56) rfl rfl ?_
  refine cI X0 hx (hb hby e25_56) (q := 57) rfl (z := (1 : Int32)) rfl ?_
  refine g_ishl X0 hx (hb hby e25_57) (q := 58) rfl (z := (Int32.ofNat (2 * pn))) (on_shl (show pn < 1073741824 from by omega)) ?_
  refine endP X0 hlk (fun h => by rw [hret] at h; cases h) (lastI X0 hx hret (hb hby e25_58)) ?_ (by decide) (by decide)
  rw [e0]
  exact ⟨rfl, N0, rfl⟩
theorem e23_0 : decode kC41 0 = .ok (.iload_n 0, 1) := by decide +kernel
theorem e23_1 : decode kC41 1 = .ok (.invokestatic 11, 3) := by decide +kernel
theorem wd272 (hw : HW a0 Z) : BW a0 Z (.code ⟨sT5, "newBytesLength", "(I)I"⟩ kC40 (1 : Nat) (Option.some Jvm.ClassFile.FieldType.int)) := wat hw 272 rfl
theorem wd22 (hw : HW a0 Z) : BW a0 Z (.initialized sT5) := wat hw 22 rfl
theorem pd0 : parseMethodDescriptor "(I)I" = some ⟨[.int], some .int⟩ := by decide +kernel
theorem wd270 (hw : HW a0 Z) : BW a0 Z (.methodLink sT5 (11 : Nat) ⟨sT5, "newBytesLength", "(I)I"⟩) := wat hw 270 rfl
theorem wd271 (hw : HW a0 Z) : BW a0 Z (.static ⟨sT5, "newBytesLength", "(I)I"⟩) := wat hw 271 rfl
theorem e23_4 : decode kC41 4 = .ok (.newarray .byte, 2) := by decide +kernel
theorem wd24 (hw : HW a0 Z) : BW a0 Z (.arrayClass Jvm.ClassFile.FieldType.byte) := wat hw 24 rfl
theorem e23_6 : decode kC41 6 = .ok (.areturn, 1) := by decide +kernel
def Q_nbf (Z : State) (zC : Int32) (vF : Value) (pn : Nat) (h0 : Heap) (v : Option Value) (h : Heap) (L : List Loc) : Prop := ∃ (a : Addr), ∃ (kb : ClassId), v = some (.ref a) ∧ Fr Z.heap.size L ∧ Keep h0 h [] ∧ h0.size ≤ a ∧ Arv Z h a kb .byte (Int32.ofNat (2 * pn)) (List.replicate (2 * pn) (.int 0)) (.int 0) ∧ Exa Z h a "[B"
theorem rm_nbf (l : Launch) (Z : State) (a0 : Array Value) (hw : HW a0 Z) (zC : Int32) (vF : Value) (G : GB l a0 Z zC vF) (pn : Nat) (h0 : Heap) (O0 : Old Z Z.heap.size h0) (Hb : (pn ≤ 34)) :
    Con l Z (⟨"java/lang/StringUTF16", "newBytesFor", "(I)[B"⟩ : MethodName) kC41 1 (some (.array .byte)) ({ frames := 1, cells := 1, slots := 68, locals := 12 } : Room) #[(.int (Int32.ofNat pn))] h0 (Q_nbf Z zC vF pn h0) := by
  refine Con.intro (plainFor_of_name pn0) ?_
  intro p e s m below meth c T0 X0 hx hby hml hown0 hnm hret hlk hZ0 e0
  have N0 := Fr.nil Z.heap.size
  refine castGo (g' := mkF m 0 #[.val (.int (Int32.ofNat pn))] []) (by first | rfl | (simp [entryFrame, mkF, argsToLocals, Value.category]; done)) ?_
  show Go _ _ _ _ (T0.setTop (mkF m 0 #[.val (.int (Int32.ofNat pn))] []))
  refine iL X0 hx (hb hby e23_0) (q := 1) rfl rfl ?_
  refine g_st X0 hx hZ0 hown0 (wd270 hw) (wd271 hw) (wd22 hw) (wd272 hw) (by decide) e0 (Con.back (W := 0) (rm_nbl l Z a0 hw zC vF G pn h0 O0 Hb) hZ0 (wd272 hw) (wd22 hw) (by decide) (by decide)) (by rw [hml]; rfl) (lenOf pd0 rfl) rfl (Nat.le_of_eq rfl) (hb hby e23_1) (q := 4) rfl (by decide) (by decide) ?_
  intro v12 T12 L12 X12 Q12
  obtain ⟨rfl, Nq12, e12⟩ := Q12
  have N12 := Fr.app N0 Nq12
  show Go _ _ _ _ (T12.setTop (mkF m 4 #[.val (.int (Int32.ofNat pn))] [(.int (Int32.ofNat (2 * pn)))]))
  refine g_newE X12 hx hZ0 (aty := .byte) (wd24 hw) (on_nn (show (2 * pn) < 2147483648 from by omega)) (n := (2 * pn)) (on_clamp (show (2 * pn) < 2147483648 from by omega)) (by omega) (by decide) (Nat.le_trans (show 0 + (2 * pn) ≤ 68 from by omega) (by decide)) (ad := "[B") (by decide) e12 (hb hby e23_4) (q := 6) rfl ?_
  intro T13 h13 k13 b13 g13 X13q e13 E13 V13 G13
  have X13 := X13q.more (Nat.le_refl _) (show 0 + (2 * pn) ≤ 68 from by omega)
  show Go _ _ _ _ (T13.setTop (mkF m 6 #[.val (.int (Int32.ofNat pn))] [(.ref b13)]))
  have K14 : Keep h0 h13 [] := (Keep.refl h0 []).ext E13
  have gh15 : h0.size ≤ b13 := Nat.le_trans (Nat.le_refl _) (Nat.le_of_eq g13.symm)
  refine endP X13 hlk (fun h => by rw [hret] at h; cases h) (lastA X13 hx hret rfl rfl rfl (hb hby e23_6)) ?_ (by decide) (by decide)
  rw [e13]
  exact ⟨b13, k13, rfl, N12, K14, gh15, V13, G13⟩
theorem e28_0 : decode kC44 0 = .ok (.aload_n 0, 1) := by decide +kernel
theorem e28_1 : decode kC44 1 = .ok (.arraylength, 1) := by decide +kernel
theorem e28_2 : decode kC44 2 = .ok (.iconst 1, 1) := by decide +kernel
theorem e28_3 : decode kC44 3 = .ok (.ishr, 1) := by decide +kernel
theorem e28_4 : decode kC44 4 = .ok (.ireturn, 1) := by decide +kernel
def Q_ulen (Z : State) (zC : Int32) (vF : Value) (a1 : Addr) (kb : ClassId) (vs : List Value) (pl : Nat) (h0 : Heap) (v : Option Value) (h : Heap) (L : List Loc) : Prop := v = some (.int (Int32.ofNat (pl / 2))) ∧ Fr Z.heap.size L ∧ h = h0
theorem rm_ulen (l : Launch) (Z : State) (a0 : Array Value) (hw : HW a0 Z) (zC : Int32) (vF : Value) (G : GB l a0 Z zC vF) (a1 : Addr) (kb : ClassId) (vs : List Value) (pl : Nat) (h0 : Heap) (O0 : Old Z Z.heap.size h0) (P1 : Arv Z h0 a1 kb .byte (Int32.ofNat pl) vs (.int 0)) (Hb : (pl < 1000)) :
    Con l Z (⟨"java/lang/StringUTF16", "length", "([B)I"⟩ : MethodName) kC44 1 (some .int) ({ frames := 0, cells := 0, slots := 0, locals := 0 } : Room) #[(.ref a1)] h0 (Q_ulen Z zC vF a1 kb vs pl h0) := by
  refine Con.intro (plainFor_of_name pn0) ?_
  intro p e s m below meth c T0 X0 hx hby hml hown0 hnm hret hlk hZ0 e0
  have N0 := Fr.nil Z.heap.size
  refine castGo (g' := mkF m 0 #[.val (.ref a1)] []) (by first | rfl | (simp [entryFrame, mkF, argsToLocals, Value.category]; done)) ?_
  show Go _ _ _ _ (T0.setTop (mkF m 0 #[.val (.ref a1)] []))
  refine aL X0 hx (hb hby e28_0) (q := 1) rfl rfl rfl ?_
  refine g_len X0 hx hZ0 P1 e0 (hb hby e28_1) (q := 2) rfl ?_
  refine cI X0 hx (hb hby e28_2) (q := 3) rfl (z := (1 : Int32)) rfl ?_
  refine g_ishr X0 hx (hb hby e28_3) (q := 4) rfl (z := (Int32.ofNat (pl / 2))) (on_shr (show pl < 2147483648 from by omega)) ?_
  refine endP X0 hlk (fun h => by rw [hret] at h; cases h) (lastI X0 hx hret (hb hby e28_4)) ?_ (by decide) (by decide)
  rw [e0]
  exact ⟨rfl, N0, rfl⟩
theorem e3_0 : decode kC27 0 = .ok (.iload_n 2, 1) := by decide +kernel
theorem e3_1 : decode kC27 1 = .ok (.iload_n 0, 1) := by decide +kernel
theorem e3_2 : decode kC27 2 = .ok (.ior, 1) := by decide +kernel
theorem e3_3 : decode kC27 3 = .ok (.iload_n 1, 1) := by decide +kernel
theorem e3_4 : decode kC27 4 = .ok (.ior, 1) := by decide +kernel
theorem e3_5 : decode kC27 5 = .ok (.ifCond .lt 10, 3) := by decide +kernel
theorem e3_8 : decode kC27 8 = .ok (.iload_n 1, 1) := by decide +kernel
theorem e3_9 : decode kC27 9 = .ok (.iload_n 2, 1) := by decide +kernel
theorem e3_10 : decode kC27 10 = .ok (.iload_n 0, 1) := by decide +kernel
theorem e3_11 : decode kC27 11 = .ok (.isub, 1) := by decide +kernel
theorem e3_12 : decode kC27 12 = .ok (.if_icmp .le 11, 3) := by decide +kernel
theorem e3_23 : decode kC27 23 = .ok (.iload_n 0, 1) := by decide +kernel
theorem e3_24 : decode kC27 24 = .ok (.ireturn, 1) := by decide +kernel
def Q_cfsn (Z : State) (zC : Int32) (vF : Value) (px : Int32) (py : Int32) (pz : Int32) (h0 : Heap) (v : Option Value) (h : Heap) (L : List Loc) : Prop := v = some (.int px) ∧ Fr Z.heap.size L ∧ h = h0
theorem pn1 : plainName "jdk/internal/util/Preconditions" = true := by first | (simp [plainName, overriddenIn]; done) | decide +kernel
theorem rm_cfsn (l : Launch) (Z : State) (a0 : Array Value) (hw : HW a0 Z) (zC : Int32) (vF : Value) (G : GB l a0 Z zC vF) (px : Int32) (py : Int32) (pz : Int32) (h0 : Heap) (O0 : Old Z Z.heap.size h0) (Q1 : (¬ (((pz ||| px) ||| py) < (0 : Int32)))) (Q2 : (¬ ((pz - px) < py))) :
    Con l Z (⟨"jdk/internal/util/Preconditions", "checkFromIndexSize", "(IIILjava/util/function/BiFunction;)I"⟩ : MethodName) kC27 4 (some .int) ({ frames := 0, cells := 0, slots := 0, locals := 0 } : Room) #[(.int px), (.int py), (.int pz), .null] h0 (Q_cfsn Z zC vF px py pz h0) := by
  refine Con.intro (plainFor_of_name pn1) ?_
  intro p e s m below meth c T0 X0 hx hby hml hown0 hnm hret hlk hZ0 e0
  have N0 := Fr.nil Z.heap.size
  refine castGo (g' := mkF m 0 #[.val (.int px), .val (.int py), .val (.int pz), .val .null] []) (by first | rfl | (simp [entryFrame, mkF, argsToLocals, Value.category]; done)) ?_
  show Go _ _ _ _ (T0.setTop (mkF m 0 #[.val (.int px), .val (.int py), .val (.int pz), .val .null] []))
  refine iL X0 hx (hb hby e3_0) (q := 1) rfl rfl ?_
  refine iL X0 hx (hb hby e3_1) (q := 2) rfl rfl ?_
  refine g_ior X0 hx (hb hby e3_2) (q := 3) rfl rfl ?_
  refine iL X0 hx (hb hby e3_3) (q := 4) rfl rfl ?_
  refine g_ior X0 hx (hb hby e3_4) (q := 5) rfl rfl ?_
  refine ifN X0 hx (hb hby e3_5) (q := 8) rfl ((if0 _ _).trans (flt Q1).1) ?_
  refine iL X0 hx (hb hby e3_8) (q := 9) rfl rfl ?_
  refine iL X0 hx (hb hby e3_9) (q := 10) rfl rfl ?_
  refine iL X0 hx (hb hby e3_10) (q := 11) rfl rfl ?_
  refine g_isub X0 hx (hb hby e3_11) (q := 12) rfl rfl ?_
  refine icY X0 hx (hb hby e3_12) (q := 23) (by decide) (by decide) (flt Q2).2.2.2 ?_
  refine iL X0 hx (hb hby e3_23) (q := 24) rfl rfl ?_
  refine endP X0 hlk (fun h => by rw [hret] at h; cases h) (lastI X0 hx hret (hb hby e3_24)) ?_ (by decide) (by decide)
  rw [e0]
  exact ⟨rfl, N0, rfl⟩
def Q_cfsr (Z : State) (zC : Int32) (vF : Value) (px : Int32) (py : Int32) (pz : Int32) (a1 : Addr) (h0 : Heap) (v : Option Value) (h : Heap) (L : List Loc) : Prop := v = some (.int px) ∧ Fr Z.heap.size L ∧ h = h0
theorem rm_cfsr (l : Launch) (Z : State) (a0 : Array Value) (hw : HW a0 Z) (zC : Int32) (vF : Value) (G : GB l a0 Z zC vF) (px : Int32) (py : Int32) (pz : Int32) (a1 : Addr) (h0 : Heap) (O0 : Old Z Z.heap.size h0) (Q1 : (¬ (((pz ||| px) ||| py) < (0 : Int32)))) (Q2 : (¬ ((pz - px) < py))) :
    Con l Z (⟨"jdk/internal/util/Preconditions", "checkFromIndexSize", "(IIILjava/util/function/BiFunction;)I"⟩ : MethodName) kC27 4 (some .int) ({ frames := 0, cells := 0, slots := 0, locals := 0 } : Room) #[(.int px), (.int py), (.int pz), (.ref a1)] h0 (Q_cfsr Z zC vF px py pz a1 h0) := by
  refine Con.intro (plainFor_of_name pn1) ?_
  intro p e s m below meth c T0 X0 hx hby hml hown0 hnm hret hlk hZ0 e0
  have N0 := Fr.nil Z.heap.size
  refine castGo (g' := mkF m 0 #[.val (.int px), .val (.int py), .val (.int pz), .val (.ref a1)] []) (by first | rfl | (simp [entryFrame, mkF, argsToLocals, Value.category]; done)) ?_
  show Go _ _ _ _ (T0.setTop (mkF m 0 #[.val (.int px), .val (.int py), .val (.int pz), .val (.ref a1)] []))
  refine iL X0 hx (hb hby e3_0) (q := 1) rfl rfl ?_
  refine iL X0 hx (hb hby e3_1) (q := 2) rfl rfl ?_
  refine g_ior X0 hx (hb hby e3_2) (q := 3) rfl rfl ?_
  refine iL X0 hx (hb hby e3_3) (q := 4) rfl rfl ?_
  refine g_ior X0 hx (hb hby e3_4) (q := 5) rfl rfl ?_
  refine ifN X0 hx (hb hby e3_5) (q := 8) rfl ((if0 _ _).trans (flt Q1).1) ?_
  refine iL X0 hx (hb hby e3_8) (q := 9) rfl rfl ?_
  refine iL X0 hx (hb hby e3_9) (q := 10) rfl rfl ?_
  refine iL X0 hx (hb hby e3_10) (q := 11) rfl rfl ?_
  refine g_isub X0 hx (hb hby e3_11) (q := 12) rfl rfl ?_
  refine icY X0 hx (hb hby e3_12) (q := 23) (by decide) (by decide) (flt Q2).2.2.2 ?_
  refine iL X0 hx (hb hby e3_23) (q := 24) rfl rfl ?_
  refine endP X0 hlk (fun h => by rw [hret] at h; cases h) (lastI X0 hx hret (hb hby e3_24)) ?_ (by decide) (by decide)
  rw [e0]
  exact ⟨rfl, N0, rfl⟩
theorem e10_0 : decode kC4 0 = .ok (.iload_n 0, 1) := by decide +kernel
theorem e10_1 : decode kC4 1 = .ok (.iload_n 1, 1) := by decide +kernel
theorem e10_2 : decode kC4 2 = .ok (.iload_n 2, 1) := by decide +kernel
theorem e10_3 : decode kC4 3 = .ok (.getstatic 1053, 3) := by decide +kernel
theorem wd250 (hw : HW a0 Z) : BW a0 Z (.fieldLink sT1 (1053 : Nat) sT13 "SIOOBE_FORMATTER" "Ljava/util/function/BiFunction;") := wat hw 250 rfl
theorem e10_6 : decode kC4 6 = .ok (.invokestatic 1065, 3) := by decide +kernel
theorem wd307 (hw : HW a0 Z) : BW a0 Z (.code ⟨sT13, "checkFromIndexSize", "(IIILjava/util/function/BiFunction;)I"⟩ kC27 (4 : Nat) (Option.some Jvm.ClassFile.FieldType.int)) := wat hw 307 rfl
theorem wd251 (hw : HW a0 Z) : BW a0 Z (.initialized sT13) := wat hw 251 rfl
theorem pd1 : parseMethodDescriptor "(IIILjava/util/function/BiFunction;)I" = some ⟨[.int, .int, .int, (.object "java/util/function/BiFunction")], some .int⟩ := by decide +kernel
theorem wd305 (hw : HW a0 Z) : BW a0 Z (.methodLink sT1 (1065 : Nat) ⟨sT13, "checkFromIndexSize", "(IIILjava/util/function/BiFunction;)I"⟩) := wat hw 305 rfl
theorem wd306 (hw : HW a0 Z) : BW a0 Z (.static ⟨sT13, "checkFromIndexSize", "(IIILjava/util/function/BiFunction;)I"⟩) := wat hw 306 rfl
theorem e10_9 : decode kC4 9 = .ok (.ireturn, 1) := by decide +kernel
def Q_cbo (Z : State) (zC : Int32) (vF : Value) (px : Int32) (py : Int32) (pz : Int32) (h0 : Heap) (v : Option Value) (h : Heap) (L : List Loc) : Prop := v = some (.int px) ∧ Fr Z.heap.size L ∧ h = h0
theorem pn2 : plainName "java/lang/String" = true := by first | (simp [plainName, overriddenIn]; done) | decide +kernel
theorem rm_cbo (l : Launch) (Z : State) (a0 : Array Value) (hw : HW a0 Z) (zC : Int32) (vF : Value) (G : GB l a0 Z zC vF) (px : Int32) (py : Int32) (pz : Int32) (h0 : Heap) (O0 : Old Z Z.heap.size h0) (Q1 : (¬ (((pz ||| px) ||| py) < (0 : Int32)))) (Q2 : (¬ ((pz - px) < py))) :
    Con l Z (⟨sT1, "checkBoundsOffCount", "(III)I"⟩ : MethodName) kC4 3 (some .int) ({ frames := 1, cells := 0, slots := 0, locals := 15 } : Room) #[(.int px), (.int py), (.int pz)] h0 (Q_cbo Z zC vF px py pz h0) := by
  obtain ⟨hl, SC, PC, rF, SF, SA, SH, SL, hX⟩ := id G
  refine Con.intro (plainFor_of_name pn2) ?_
  intro p e s m below meth c T0 X0 hx hby hml hown0 hnm hret hlk hZ0 e0
  have N0 := Fr.nil Z.heap.size
  refine castGo (g' := mkF m 0 #[.val (.int px), .val (.int py), .val (.int pz)] []) (by first | rfl | (simp [entryFrame, mkF, argsToLocals, Value.category]; done)) ?_
  show Go _ _ _ _ (T0.setTop (mkF m 0 #[.val (.int px), .val (.int py), .val (.int pz)] []))
  rcases id rF with hF | ⟨aF, hF⟩
  · have SF1 : Sta Z Z.heap "jdk/internal/util/Preconditions" "SIOOBE_FORMATTER" "Ljava/util/function/BiFunction;" .null := by rw [← hF]; exact SF
    show Go _ _ _ _ (T0.setTop (mkF m 0 #[.val (.int px), .val (.int py), .val (.int pz)] []))
    refine iL X0 hx (hb hby e10_0) (q := 1) rfl rfl ?_
    refine iL X0 hx (hb hby e10_1) (q := 2) rfl rfl ?_
    refine iL X0 hx (hb hby e10_2) (q := 3) rfl rfl ?_
    refine g_getS X0 hx hZ0 hown0 (host := "") (Or.inl (wd250 hw)) Via.refl (SF1.ext O0.2) e0 (hb hby e10_3) (q := 6) rfl ?_
    intro T16 X16 e16
    refine g_st X16 hx hZ0 hown0 (wd305 hw) (wd306 hw) (wd251 hw) (wd307 hw) (by decide) e16 (Con.back (W := 0) (rm_cfsn l Z a0 hw zC vF G px py pz h0 O0 Q1 Q2) hZ0 (wd307 hw) (wd251 hw) (by decide) (by decide)) (by rw [hml]; rfl) (lenOf pd1 rfl) rfl (Nat.le_of_eq rfl) (hb hby e10_6) (q := 9) rfl (by decide) (by decide) ?_
    intro v17 T17 L17 X17 Q17
    obtain ⟨rfl, Nq17, e17⟩ := Q17
    have N17 := Fr.app N0 Nq17
    show Go _ _ _ _ (T17.setTop (mkF m 9 #[.val (.int px), .val (.int py), .val (.int pz)] [(.int px)]))
    refine endP X17 hlk (fun h => by rw [hret] at h; cases h) (lastI X17 hx hret (hb hby e10_9)) ?_ (by decide) (by decide)
    rw [e17]
    exact ⟨rfl, N17, rfl⟩
  · have SF1 : Sta Z Z.heap "jdk/internal/util/Preconditions" "SIOOBE_FORMATTER" "Ljava/util/function/BiFunction;" (.ref aF) := by rw [← hF]; exact SF
    show Go _ _ _ _ (T0.setTop (mkF m 0 #[.val (.int px), .val (.int py), .val (.int pz)] []))
    refine iL X0 hx (hb hby e10_0) (q := 1) rfl rfl ?_
    refine iL X0 hx (hb hby e10_1) (q := 2) rfl rfl ?_
    refine iL X0 hx (hb hby e10_2) (q := 3) rfl rfl ?_
    refine g_getS X0 hx hZ0 hown0 (host := "") (Or.inl (wd250 hw)) Via.refl (SF1.ext O0.2) e0 (hb hby e10_3) (q := 6) rfl ?_
    intro T18 X18 e18
    refine g_st X18 hx hZ0 hown0 (wd305 hw) (wd306 hw) (wd251 hw) (wd307 hw) (by decide) e18 (Con.back (W := 0) (rm_cfsr l Z a0 hw zC vF G px py pz aF h0 O0 Q1 Q2) hZ0 (wd307 hw) (wd251 hw) (by decide) (by decide)) (by rw [hml]; rfl) (lenOf pd1 rfl) rfl (Nat.le_of_eq rfl) (hb hby e10_6) (q := 9) rfl (by decide) (by decide) ?_
    intro v19 T19 L19 X19 Q19
    obtain ⟨rfl, Nq19, e19⟩ := Q19
    have N19 := Fr.app N0 Nq19
    show Go _ _ _ _ (T19.setTop (mkF m 9 #[.val (.int px), .val (.int py), .val (.int pz)] [(.int px)]))
    refine endP X19 hlk (fun h => by rw [hret] at h; cases h) (lastI X19 hx hret (hb hby e10_9)) ?_ (by decide) (by decide)
    rw [e19]
    exact ⟨rfl, N19, rfl⟩
theorem e32_0 : decode kC33 0 = .ok (.iload_n 0, 1) := by decide +kernel
theorem e32_1 : decode kC33 1 = .ok (.iload_n 1, 1) := by decide +kernel
theorem e32_2 : decode kC33 2 = .ok (.aload_n 2, 1) := by decide +kernel
theorem e32_3 : decode kC33 3 = .ok (.invokestatic 48, 3) := by decide +kernel
theorem wd301 (hw : HW a0 Z) : BW a0 Z (.code ⟨sT5, "length", "([B)I"⟩ kC44 (1 : Nat) (Option.some Jvm.ClassFile.FieldType.int)) := wat hw 301 rfl
theorem pd2 : parseMethodDescriptor "([B)I" = some ⟨[(.array .byte)], some .int⟩ := by decide +kernel
theorem wd299 (hw : HW a0 Z) : BW a0 Z (.methodLink sT5 (48 : Nat) ⟨sT5, "length", "([B)I"⟩) := wat hw 299 rfl
theorem wd300 (hw : HW a0 Z) : BW a0 Z (.static ⟨sT5, "length", "([B)I"⟩) := wat hw 300 rfl
theorem e32_6 : decode kC33 6 = .ok (.invokestatic 419, 3) := by decide +kernel
theorem wd304 (hw : HW a0 Z) : BW a0 Z (.code ⟨sT1, "checkBoundsOffCount", "(III)I"⟩ kC4 (3 : Nat) (Option.some Jvm.ClassFile.FieldType.int)) := wat hw 304 rfl
theorem wd8 (hw : HW a0 Z) : BW a0 Z (.initialized sT1) := wat hw 8 rfl
theorem pd3 : parseMethodDescriptor "(III)I" = some ⟨[.int, .int, .int], some .int⟩ := by decide +kernel
theorem wd302 (hw : HW a0 Z) : BW a0 Z (.methodLink sT5 (419 : Nat) ⟨sT1, "checkBoundsOffCount", "(III)I"⟩) := wat hw 302 rfl
theorem wd303 (hw : HW a0 Z) : BW a0 Z (.static ⟨sT1, "checkBoundsOffCount", "(III)I"⟩) := wat hw 303 rfl
theorem e32_9 : decode kC33 9 = .ok (.pop, 1) := by decide +kernel
theorem e32_10 : decode kC33 10 = .ok (.return_, 1) := by decide +kernel
def Q_ucb (Z : State) (zC : Int32) (vF : Value) (a2 : Addr) (k2 : ClassId) (vd : List Value) (pl : Nat) (pc : Nat) (pn : Nat) (h0 : Heap) (v : Option Value) (h : Heap) (L : List Loc) : Prop := v = none ∧ Fr Z.heap.size L ∧ h = h0
theorem rm_ucb (l : Launch) (Z : State) (a0 : Array Value) (hw : HW a0 Z) (zC : Int32) (vF : Value) (G : GB l a0 Z zC vF) (a2 : Addr) (k2 : ClassId) (vd : List Value) (pl : Nat) (pc : Nat) (pn : Nat) (h0 : Heap) (O0 : Old Z Z.heap.size h0) (P2 : Arv Z h0 a2 k2 .byte (Int32.ofNat pl) vd (.int 0)) (Hl : (vd.length = pl)) (Hc : (2 * (pc + pn) ≤ pl)) (Hb : (pl < 1000)) :
    Con l Z (⟨"java/lang/StringUTF16", "checkBoundsOffCount", "(II[B)V"⟩ : MethodName) kC33 3 none ({ frames := 2, cells := 0, slots := 0, locals := 29 } : Room) #[(.int (Int32.ofNat pc)), (.int (Int32.ofNat pn)), (.ref a2)] h0 (Q_ucb Z zC vF a2 k2 vd pl pc pn h0) := by
  refine Con.intro (plainFor_of_name pn0) ?_
  intro p e s m below meth c T0 X0 hx hby hml hown0 hnm hret hlk hZ0 e0
  have N0 := Fr.nil Z.heap.size
  refine castGo (g' := mkF m 0 #[.val (.int (Int32.ofNat pc)), .val (.int (Int32.ofNat pn)), .val (.ref a2)] []) (by first | rfl | (simp [entryFrame, mkF, argsToLocals, Value.category]; done)) ?_
  show Go _ _ _ _ (T0.setTop (mkF m 0 #[.val (.int (Int32.ofNat pc)), .val (.int (Int32.ofNat pn)), .val (.ref a2)] []))
  refine iL X0 hx (hb hby e32_0) (q := 1) rfl rfl ?_
  refine iL X0 hx (hb hby e32_1) (q := 2) rfl rfl ?_
  refine aL X0 hx (hb hby e32_2) (q := 3) rfl rfl rfl ?_
  refine g_st X0 hx hZ0 hown0 (wd299 hw) (wd300 hw) (wd22 hw) (wd301 hw) (by decide) e0 (Con.back (W := 2) (rm_ulen l Z a0 hw zC vF G a2 k2 vd pl h0 O0 P2 Hb) hZ0 (wd301 hw) (wd22 hw) (by decide) (by decide)) (by rw [hml]; rfl) (lenOf pd2 rfl) rfl (Nat.le_of_eq rfl) (hb hby e32_3) (q := 6) rfl (by decide) (by decide) ?_
  intro v20 T20 L20 X20 Q20
  obtain ⟨rfl, Nq20, e20⟩ := Q20
  have N20 := Fr.app N0 Nq20
  show Go _ _ _ _ (T20.setTop (mkF m 6 #[.val (.int (Int32.ofNat pc)), .val (.int (Int32.ofNat pn)), .val (.ref a2)] [(.int (Int32.ofNat (pl / 2))), (.int (Int32.ofNat pn)), (.int (Int32.ofNat pc))]))
  refine g_st X20 hx hZ0 hown0 (wd302 hw) (wd303 hw) (wd8 hw) (wd304 hw) (by decide) e20 (Con.back (W := 0) (rm_cbo l Z a0 hw zC vF G (Int32.ofNat pc) (Int32.ofNat pn) (Int32.ofNat (pl / 2)) h0 O0 (on_or (on_or (on_nn (by omega)) (on_nn (by omega))) (on_nn (by omega))) (by rw [on_sub (by omega) (by omega)]; exact on_le (by omega) (by omega))) hZ0 (wd304 hw) (wd8 hw) (by decide) (by decide)) (by rw [hml]; rfl) (lenOf pd3 rfl) rfl (Nat.le_of_eq rfl) (hb hby e32_6) (q := 9) rfl (by decide) (by decide) ?_
  intro v21 T21 L21 X21 Q21
  obtain ⟨rfl, Nq21, e21⟩ := Q21
  have N21 := Fr.app N20 Nq21
  show Go _ _ _ _ (T21.setTop (mkF m 9 #[.val (.int (Int32.ofNat pc)), .val (.int (Int32.ofNat pn)), .val (.ref a2)] [(.int (Int32.ofNat pc))]))
  refine g_pop X21 hx (hb hby e32_9) (q := 10) rfl rfl ?_
  refine endP X21 hlk (fun _ => rfl) (lastV X21 hx hret (hb hby e32_10)) ?_ (by decide) (by decide)
  rw [e21]
  exact ⟨rfl, N21, rfl⟩
theorem e30_0 : decode kC32 0 = .ok (.iload_n 3, 1) := by decide +kernel
theorem e30_1 : decode kC32 1 = .ok (.iload 4, 2) := by decide +kernel
theorem e30_3 : decode kC32 3 = .ok (.aload_n 2, 1) := by decide +kernel
theorem e30_4 : decode kC32 4 = .ok (.invokestatic 173, 3) := by decide +kernel
theorem wd298 (hw : HW a0 Z) : BW a0 Z (.code ⟨sT5, "checkBoundsOffCount", "(II[B)V"⟩ kC33 (3 : Nat) (Option.none : Option Jvm.ClassFile.FieldType)) := wat hw 298 rfl
theorem pd4 : parseMethodDescriptor "(II[B)V" = some ⟨[.int, .int, (.array .byte)], none⟩ := by decide +kernel
theorem wd296 (hw : HW a0 Z) : BW a0 Z (.methodLink sT5 (173 : Nat) ⟨sT5, "checkBoundsOffCount", "(II[B)V"⟩) := wat hw 296 rfl
theorem wd297 (hw : HW a0 Z) : BW a0 Z (.static ⟨sT5, "checkBoundsOffCount", "(II[B)V"⟩) := wat hw 297 rfl
theorem e30_7 : decode kC32 7 = .ok (.iconst 0, 1) := by decide +kernel
theorem e30_8 : decode kC32 8 = .ok (.istore 5, 2) := by decide +kernel
theorem e30_10 : decode kC32 10 = .ok (.iload 5, 2) := by decide +kernel
theorem e30_12 : decode kC32 12 = .ok (.iload 4, 2) := by decide +kernel
theorem e30_14 : decode kC32 14 = .ok (.if_icmp .ge 27, 3) := by decide +kernel
theorem e30_41 : decode kC32 41 = .ok (.return_, 1) := by decide +kernel
theorem e30_17 : decode kC32 17 = .ok (.aload_n 2, 1) := by decide +kernel
theorem e30_18 : decode kC32 18 = .ok (.iload_n 3, 1) := by decide +kernel
theorem e30_19 : decode kC32 19 = .ok (.iinc 3 1, 3) := by decide +kernel
theorem e30_22 : decode kC32 22 = .ok (.aload_n 0, 1) := by decide +kernel
theorem e30_23 : decode kC32 23 = .ok (.iload_n 1, 1) := by decide +kernel
theorem e30_24 : decode kC32 24 = .ok (.iinc 1 1, 3) := by decide +kernel
theorem e30_27 : decode kC32 27 = .ok (.baload, 1) := by decide +kernel
theorem e30_28 : decode kC32 28 = .ok (.sipush 255, 3) := by decide +kernel
theorem e30_31 : decode kC32 31 = .ok (.iand, 1) := by decide +kernel
theorem e30_32 : decode kC32 32 = .ok (.invokestatic 111, 3) := by decide +kernel
theorem wd276 (hw : HW a0 Z) : BW a0 Z (.code ⟨sT5, "putChar", "([BII)V"⟩ kC42 (3 : Nat) (Option.none : Option Jvm.ClassFile.FieldType)) := wat hw 276 rfl
theorem pd5 : parseMethodDescriptor "([BII)V" = some ⟨[(.array .byte), .int, .int], none⟩ := by decide +kernel
theorem wd274 (hw : HW a0 Z) : BW a0 Z (.methodLink sT5 (111 : Nat) ⟨sT5, "putChar", "([BII)V"⟩) := wat hw 274 rfl
theorem wd275 (hw : HW a0 Z) : BW a0 Z (.static ⟨sT5, "putChar", "([BII)V"⟩) := wat hw 275 rfl
theorem e30_35 : decode kC32 35 = .ok (.iinc 5 1, 3) := by decide +kernel
theorem e30_38 : decode kC32 38 = .ok (.goto (-28), 3) := by decide +kernel
def Q_uinf (Z : State) (zC : Int32) (vF : Value) (a1 : Addr) (k1 : ClassId) (us : List Value) (pm : Nat) (cs : List Int32) (a2 : Addr) (k2 : ClassId) (vd : List Value) (pl : Nat) (pc : Nat) (pn : Nat) (h0 : Heap) (v : Option Value) (h : Heap) (L : List Loc) : Prop := v = none ∧ Fr Z.heap.size L ∧ Keep h0 h [a2] ∧ Arv Z h a2 k2 .byte (Int32.ofNat pl) (ins vd (flat cs) (2 * pc) (2 * pn)) (.int 0)
theorem rm_uinf (l : Launch) (Z : State) (a0 : Array Value) (hw : HW a0 Z) (zC : Int32) (vF : Value) (G : GB l a0 Z zC vF) (a1 : Addr) (k1 : ClassId) (us : List Value) (pm : Nat) (cs : List Int32) (a2 : Addr) (k2 : ClassId) (vd : List Value) (pl : Nat) (pc : Nat) (pn : Nat) (h0 : Heap) (O0 : Old Z Z.heap.size h0) (P2 : Arv Z h0 a2 k2 .byte (Int32.ofNat pl) vd (.int 0)) (Hl : (vd.length = pl)) (Hc : (2 * (pc + pn) ≤ pl)) (Hb : (pl < 1000)) (P1 : Arv Z h0 a1 k1 .byte (Int32.ofNat pm) us (.int 0)) (Hm : (pn ≤ pm)) (Hp : (pm < 1000)) (HS : (SRC us cs pn)) (Pg : Z.heap.size ≤ a2) (Pn : a1 ≠ a2) :
    Con l Z (⟨"java/lang/StringUTF16", "inflate", "([BI[BII)V"⟩ : MethodName) kC32 6 none ({ frames := 3, cells := 0, slots := 0, locals := 43 } : Room) #[(.ref a1), (iv 0), (.ref a2), (.int (Int32.ofNat pc)), (.int (Int32.ofNat pn))] h0 (Q_uinf Z zC vF a1 k1 us pm cs a2 k2 vd pl pc pn h0) := by
  refine Con.intro (plainFor_of_name pn0) ?_
  intro p e s m below meth c T0 X0 hx hby hml hown0 hnm hret hlk hZ0 e0
  have N0 := Fr.nil Z.heap.size
  refine castGo (g' := mkF m 0 #[.val (.ref a1), .val (iv 0), .val (.ref a2), .val (.int (Int32.ofNat pc)), .val (.int (Int32.ofNat pn)), .unset] []) (by first | rfl | (simp [entryFrame, mkF, argsToLocals, Value.category]; done)) ?_
  show Go _ _ _ _ (T0.setTop (mkF m 0 #[.val (.ref a1), .val (iv 0), .val (.ref a2), .val (.int (Int32.ofNat pc)), .val (.int (Int32.ofNat pn)), .unset] []))
  refine iL X0 hx (hb hby e30_0) (q := 1) rfl rfl ?_
  refine iLw X0 hx (hb hby e30_1) (q := 3) rfl rfl ?_
  refine aL X0 hx (hb hby e30_3) (q := 4) rfl rfl rfl ?_
  refine g_st X0 hx hZ0 hown0 (wd296 hw) (wd297 hw) (wd22 hw) (wd298 hw) (by decide) e0 (Con.back (W := 0) (rm_ucb l Z a0 hw zC vF G a2 k2 vd pl pc pn h0 O0 P2 Hl Hc Hb) hZ0 (wd298 hw) (wd22 hw) (by decide) (by decide)) (by rw [hml]; rfl) (lenOf pd4 rfl) rfl (Nat.le_of_eq rfl) (hb hby e30_4) (q := 7) rfl (by decide) (by decide) ?_
  intro v22 T22 L22 X22 Q22
  obtain ⟨rfl, Nq22, e22⟩ := Q22
  have N22 := Fr.app N0 Nq22
  show Go _ _ _ _ (T22.setTop (mkF m 7 #[.val (.ref a1), .val (iv 0), .val (.ref a2), .val (.int (Int32.ofNat pc)), .val (.int (Int32.ofNat pn)), .unset] []))
  refine cI X22 hx (hb hby e30_7) (q := 8) rfl (z := (0 : Int32)) rfl ?_
  refine sIw X22 hx (hb hby e30_8) (q := 10) rfl (Ls' := #[.val (.ref a1), .val (iv 0), .val (.ref a2), .val (.int (Int32.ofNat pc)), .val (.int (Int32.ofNat pn)), .val (iv 0)]) rfl ?_
  have lp23 : ∀ (k23 i23 : Nat) (T23 : State) (h23 : Heap) (L23 : List Loc), i23 + k23 = pn → Stand p l e ({ frames := 3, cells := 0, slots := 0, locals := 43 } : Room) s m #[(.ref a1), (iv 0), (.ref a2), (.int (Int32.ofNat pc)), (.int (Int32.ofNat pn))] below meth c T23 L23 0 0 → T23.heap = h23 → Keep h0 h23 [a2] → Fr Z.heap.size L23 → (Arv Z h23 a2 k2 .byte (Int32.ofNat pl) (ins vd (flat (List.take i23 cs)) (2 * pc) (2 * i23)) (.int 0)) → Go p.tables e below (PEnd s (Q_uinf Z zC vF a1 k1 us pm cs a2 k2 vd pl pc pn h0) ({ frames := 3, cells := 0, slots := 0, locals := 43 } : Room).cells ({ frames := 3, cells := 0, slots := 0, locals := 43 } : Room).slots) (T23.setTop (mkF m 10 #[.val (.ref a1), .val (.int (Int32.ofNat i23)), .val (.ref a2), .val (.int (Int32.ofNat (pc + i23))), .val (.int (Int32.ofNat pn)), .val (.int (Int32.ofNat i23))] [])) := by
    intro k23
    induction k23 with
    | zero =>
      intro i23 T23 h23 L23  hk23 X23 e23 K23q N23 f23_0
      have hi23 : i23 = pn := by omega
      have nb23 : i23 < 2147483648 := by omega
      have hz : ¬ (Int32.ofNat i23 < Int32.ofNat pn) := by rw [hi23]; exact lt_irr
      show Go _ _ _ _ (T23.setTop (mkF m 10 #[.val (.ref a1), .val (.int (Int32.ofNat i23)), .val (.ref a2), .val (.int (Int32.ofNat (pc + i23))), .val (.int (Int32.ofNat pn)), .val (.int (Int32.ofNat i23))] []))
      refine iLw X23 hx (hb hby e30_10) (q := 12) rfl rfl ?_
      refine iLw X23 hx (hb hby e30_12) (q := 14) rfl rfl ?_
      refine icY X23 hx (hb hby e30_14) (q := 41) (by decide) (by decide) (flt hz).2.1 ?_
      have K24 : Keep h0 h23 [a2] := (Keep.refl h0 [a2]).trans K23q (allS (Or.inl (by simp)) all0)
      refine endP X23 hlk (fun _ => rfl) (lastV X23 hx hret (hb hby e30_41)) ?_ (by decide) (by decide)
      rw [e23]
      exact ⟨rfl, N23, K24, (by have q := f23_0; rw [hi23, List.take_of_length_le (Nat.le_of_eq HS.1)] at q; exact q)⟩
    | succ k23 ih =>
      intro i23 T23 h23 L23  hk23 X23 e23 K23q N23 f23_0
      have hi23 : i23 < pn := by omega
      have nb23 : i23 < 2147483648 := by omega
      obtain ⟨y23, hy23⟩ : ∃ y, y = cs.getD i23 0 := ⟨_, rfl⟩
      have g23 : us.getD i23 (.int 0) = .int (StrChars.lo8 y23) := by rw [hy23]; exact HS.2.1 i23 hi23
      have r23 := rng_of HS.2.2 HS.1 hi23 hy23
      have ll23 : (ins vd (flat (List.take i23 cs)) (2 * pc) (2 * i23)).length = pl := ((ins_len (by rw [flat_len, List.length_take, HS.1]; omega) (by omega)).trans Hl)
      show Go _ _ _ _ (T23.setTop (mkF m 10 #[.val (.ref a1), .val (.int (Int32.ofNat i23)), .val (.ref a2), .val (.int (Int32.ofNat (pc + i23))), .val (.int (Int32.ofNat pn)), .val (.int (Int32.ofNat i23))] []))
      refine iLw X23 hx (hb hby e30_10) (q := 12) rfl rfl ?_
      refine iLw X23 hx (hb hby e30_12) (q := 14) rfl rfl ?_
      refine icN X23 hx (hb hby e30_14) (q := 17) rfl (tlt (on_lt hi23 (show pn < 2147483648 from by omega))).2.1 ?_
      refine aL X23 hx (hb hby e30_17) (q := 18) rfl rfl rfl ?_
      refine iL X23 hx (hb hby e30_18) (q := 19) rfl rfl ?_
      refine g_iinc X23 hx (hb hby e30_19) (q := 22) rfl rfl (z := (Int32.ofNat (pc + i23 + 1))) (on_add (pc + i23) 1) (Ls' := #[.val (.ref a1), .val (.int (Int32.ofNat i23)), .val (.ref a2), .val (.int (Int32.ofNat (pc + i23 + 1))), .val (.int (Int32.ofNat pn)), .val (.int (Int32.ofNat i23))]) rfl ?_
      refine aL X23 hx (hb hby e30_22) (q := 23) rfl rfl rfl ?_
      refine iL X23 hx (hb hby e30_23) (q := 24) rfl rfl ?_
      refine g_iinc X23 hx (hb hby e30_24) (q := 27) rfl rfl (z := (Int32.ofNat (i23 + 1))) (on_add (i23) 1) (Ls' := #[.val (.ref a1), .val (.int (Int32.ofNat (i23 + 1))), .val (.ref a2), .val (.int (Int32.ofNat (pc + i23 + 1))), .val (.int (Int32.ofNat pn)), .val (.int (Int32.ofNat i23))]) rfl ?_
      have f25 := P1.keep K23q (ninS Pn nin0)
      refine g_ldB X23 hx hZ0 f25 (i := i23) (on_clamp nb23) (on_nn nb23) (on_lt (show i23 < pm from by omega) (by omega)) (v := (.int (StrChars.lo8 y23))) g23 e23 (hb hby e30_27) (q := 28) rfl ?_
      refine pI X23 hx (hb hby e30_28) (q := 31) rfl (z := (255 : Int32)) rfl ?_
      refine g_iand X23 hx (hb hby e30_31) (q := 32) rfl (z := y23) (back8 r23.1 r23.2) ?_
      have f27 := O0.keep K23q (allS Pg all0)
      refine g_st X23 hx hZ0 hown0 (wd274 hw) (wd275 hw) (wd22 hw) (wd276 hw) (by decide) e23 (Con.back (W := 0) (rm_put l Z a0 hw zC vF G a2 k2 (pc + i23) pl y23 (ins vd (flat (List.take i23 cs)) (2 * pc) (2 * i23)) h23 f27 f23_0 ll23 (show 2 * (pc + i23) + 1 < pl from by omega) Hb Pg) hZ0 (wd276 hw) (wd22 hw) (by decide) (by decide)) (by rw [hml]; rfl) (lenOf pd5 rfl) rfl (Nat.le_of_eq rfl) (hb hby e30_32) (q := 35) rfl (by decide) (by decide) ?_
      intro v26 T26 L26 X26 Q26
      obtain ⟨rfl, Nq26, K26q, q26_0⟩ := Q26
      have N26 := Fr.app N23 Nq26
      show Go _ _ _ _ (T26.setTop (mkF m 35 #[.val (.ref a1), .val (.int (Int32.ofNat (i23 + 1))), .val (.ref a2), .val (.int (Int32.ofNat (pc + i23 + 1))), .val (.int (Int32.ofNat pn)), .val (.int (Int32.ofNat i23))] []))
      refine g_iinc X26 hx (hb hby e30_35) (q := 38) rfl rfl (z := (Int32.ofNat (i23 + 1))) (on_add (i23) 1) (Ls' := #[.val (.ref a1), .val (.int (Int32.ofNat (i23 + 1))), .val (.ref a2), .val (.int (Int32.ofNat (pc + i23 + 1))), .val (.int (Int32.ofNat pn)), .val (.int (Int32.ofNat (i23 + 1)))]) rfl ?_
      refine g_goto X26 hx (hb hby e30_38) (q := 10) (by decide) (by decide) ?_
      have Vs23 : Arv Z T26.heap a2 k2 .byte (Int32.ofNat pl) (ins vd (flat (List.take (i23 + 1) cs)) (2 * pc) (2 * (i23 + 1))) (.int 0) := by have q := q26_0; rw [hy23, flat_step HS.1 hi23 (by omega)] at q; exact q
      show Go _ _ _ _ (T26.setTop (mkF m 10 #[.val (.ref a1), .val (.int (Int32.ofNat (i23 + 1))), .val (.ref a2), .val (.int (Int32.ofNat (pc + (i23 + 1)))), .val (.int (Int32.ofNat pn)), .val (.int (Int32.ofNat (i23 + 1)))] []))
      have K29 := (Keep.refl h0 [a2]).trans K23q (allS (Or.inl (by simp)) all0)
      have K30 := K29.trans K26q (allS (Or.inl (by simp)) all0)
      exact ih (i23 + 1) _ _ _  (by omega) X26 rfl K30 N26 Vs23
  have Vs : Arv Z h0 a2 k2 .byte (Int32.ofNat pl) (ins vd (flat (List.take 0 cs)) (2 * pc) (2 * 0)) (.int 0) := by rw [show ins vd (flat (List.take 0 cs)) (2 * pc) (2 * 0) = vd from by simp [ins, flat]]; exact P2
  exact lp23 (pn - 0) 0 _ _ _  (by omega) X22 e22 (Keep.refl _ _) N22 Vs
theorem e18_0 : decode kC25 0 = .ok (.aload_n 0, 1) := by decide +kernel
theorem e18_1 : decode kC25 1 = .ok (.iload_n 1, 1) := by decide +kernel
theorem e18_2 : decode kC25 2 = .ok (.aload_n 2, 1) := by decide +kernel
theorem e18_3 : decode kC25 3 = .ok (.iload_n 3, 1) := by decide +kernel
theorem e18_4 : decode kC25 4 = .ok (.iload 4, 2) := by decide +kernel
theorem e18_6 : decode kC25 6 = .ok (.invokestatic 240, 3) := by decide +kernel
theorem wd295 (hw : HW a0 Z) : BW a0 Z (.code ⟨sT5, "inflate", "([BI[BII)V"⟩ kC32 (6 : Nat) (Option.none : Option Jvm.ClassFile.FieldType)) := wat hw 295 rfl
theorem pd6 : parseMethodDescriptor "([BI[BII)V" = some ⟨[(.array .byte), .int, (.array .byte), .int, .int], none⟩ := by decide +kernel
theorem wd293 (hw : HW a0 Z) : BW a0 Z (.methodLink sT10 (240 : Nat) ⟨sT5, "inflate", "([BI[BII)V"⟩) := wat hw 293 rfl
theorem wd294 (hw : HW a0 Z) : BW a0 Z (.static ⟨sT5, "inflate", "([BI[BII)V"⟩) := wat hw 294 rfl
theorem e18_9 : decode kC25 9 = .ok (.return_, 1) := by decide +kernel
def Q_linf (Z : State) (zC : Int32) (vF : Value) (a1 : Addr) (k1 : ClassId) (us : List Value) (pm : Nat) (cs : List Int32) (a2 : Addr) (k2 : ClassId) (vd : List Value) (pl : Nat) (pc : Nat) (pn : Nat) (h0 : Heap) (v : Option Value) (h : Heap) (L : List Loc) : Prop := v = none ∧ Fr Z.heap.size L ∧ Keep h0 h [a2] ∧ Arv Z h a2 k2 .byte (Int32.ofNat pl) (ins vd (flat cs) (2 * pc) (2 * pn)) (.int 0)
theorem pn3 : plainName "java/lang/StringLatin1" = true := by first | (simp [plainName, overriddenIn]; done) | decide +kernel
theorem rm_linf (l : Launch) (Z : State) (a0 : Array Value) (hw : HW a0 Z) (zC : Int32) (vF : Value) (G : GB l a0 Z zC vF) (a1 : Addr) (k1 : ClassId) (us : List Value) (pm : Nat) (cs : List Int32) (a2 : Addr) (k2 : ClassId) (vd : List Value) (pl : Nat) (pc : Nat) (pn : Nat) (h0 : Heap) (O0 : Old Z Z.heap.size h0) (P2 : Arv Z h0 a2 k2 .byte (Int32.ofNat pl) vd (.int 0)) (Hl : (vd.length = pl)) (Hc : (2 * (pc + pn) ≤ pl)) (Hb : (pl < 1000)) (P1 : Arv Z h0 a1 k1 .byte (Int32.ofNat pm) us (.int 0)) (Hm : (pn ≤ pm)) (Hp : (pm < 1000)) (HS : (SRC us cs pn)) (Pg : Z.heap.size ≤ a2) (Pn : a1 ≠ a2) :
    Con l Z (⟨"java/lang/StringLatin1", "inflate", "([BI[BII)V"⟩ : MethodName) kC25 5 none ({ frames := 4, cells := 0, slots := 0, locals := 60 } : Room) #[(.ref a1), (iv 0), (.ref a2), (.int (Int32.ofNat pc)), (.int (Int32.ofNat pn))] h0 (Q_linf Z zC vF a1 k1 us pm cs a2 k2 vd pl pc pn h0) := by
  refine Con.intro (plainFor_of_name pn3) ?_
  intro p e s m below meth c T0 X0 hx hby hml hown0 hnm hret hlk hZ0 e0
  have N0 := Fr.nil Z.heap.size
  refine castGo (g' := mkF m 0 #[.val (.ref a1), .val (iv 0), .val (.ref a2), .val (.int (Int32.ofNat pc)), .val (.int (Int32.ofNat pn))] []) (by first | rfl | (simp [entryFrame, mkF, argsToLocals, Value.category]; done)) ?_
  show Go _ _ _ _ (T0.setTop (mkF m 0 #[.val (.ref a1), .val (iv 0), .val (.ref a2), .val (.int (Int32.ofNat pc)), .val (.int (Int32.ofNat pn))] []))
  refine aL X0 hx (hb hby e18_0) (q := 1) rfl rfl rfl ?_
  refine iL X0 hx (hb hby e18_1) (q := 2) rfl rfl ?_
  refine aL X0 hx (hb hby e18_2) (q := 3) rfl rfl rfl ?_
  refine iL X0 hx (hb hby e18_3) (q := 4) rfl rfl ?_
  refine iLw X0 hx (hb hby e18_4) (q := 6) rfl rfl ?_
  refine g_st X0 hx hZ0 hown0 (wd293 hw) (wd294 hw) (wd22 hw) (wd295 hw) (by decide) e0 (Con.back (W := 0) (rm_uinf l Z a0 hw zC vF G a1 k1 us pm cs a2 k2 vd pl pc pn h0 O0 P2 Hl Hc Hb P1 Hm Hp HS Pg Pn) hZ0 (wd295 hw) (wd22 hw) (by decide) (by decide)) (by rw [hml]; rfl) (lenOf pd6 rfl) rfl (Nat.le_of_eq rfl) (hb hby e18_6) (q := 9) rfl (by decide) (by decide) ?_
  intro v31 T31 L31 X31 Q31
  obtain ⟨rfl, Nq31, K31q, q31_0⟩ := Q31
  have N31 := Fr.app N0 Nq31
  show Go _ _ _ _ (T31.setTop (mkF m 9 #[.val (.ref a1), .val (iv 0), .val (.ref a2), .val (.int (Int32.ofNat pc)), .val (.int (Int32.ofNat pn))] []))
  have K32 : Keep h0 T31.heap [a2] := (Keep.refl h0 [a2]).trans K31q (allS (Or.inl (by simp)) all0)
  refine endP X31 hlk (fun _ => rfl) (lastV X31 hx hret (hb hby e18_9)) ?_ (by decide) (by decide)
  exact ⟨rfl, N31, K32, q31_0⟩
theorem e20_0 : decode kC29 0 = .ok (.iload_n 2, 1) := by decide +kernel
theorem e20_1 : decode kC29 1 = .ok (.invokestatic 107, 3) := by decide +kernel
theorem wd269 (hw : HW a0 Z) : BW a0 Z (.code ⟨sT5, "newBytesFor", "(I)[B"⟩ kC41 (1 : Nat) (Option.some (Jvm.ClassFile.FieldType.array Jvm.ClassFile.FieldType.byte))) := wat hw 269 rfl
theorem pd7 : parseMethodDescriptor "(I)[B" = some ⟨[.int], some (.array .byte)⟩ := by decide +kernel
theorem wd267 (hw : HW a0 Z) : BW a0 Z (.methodLink sT5 (107 : Nat) ⟨sT5, "newBytesFor", "(I)[B"⟩) := wat hw 267 rfl
theorem wd268 (hw : HW a0 Z) : BW a0 Z (.static ⟨sT5, "newBytesFor", "(I)[B"⟩) := wat hw 268 rfl
theorem e20_4 : decode kC29 4 = .ok (.astore_n 3, 1) := by decide +kernel
theorem e20_5 : decode kC29 5 = .ok (.iconst 0, 1) := by decide +kernel
theorem e20_6 : decode kC29 6 = .ok (.istore 4, 2) := by decide +kernel
theorem e20_8 : decode kC29 8 = .ok (.iload 4, 2) := by decide +kernel
theorem e20_10 : decode kC29 10 = .ok (.iload_n 2, 1) := by decide +kernel
theorem e20_11 : decode kC29 11 = .ok (.if_icmp .ge 21, 3) := by decide +kernel
theorem e20_32 : decode kC29 32 = .ok (.aload_n 3, 1) := by decide +kernel
theorem e20_33 : decode kC29 33 = .ok (.areturn, 1) := by decide +kernel
theorem e20_14 : decode kC29 14 = .ok (.aload_n 3, 1) := by decide +kernel
theorem e20_15 : decode kC29 15 = .ok (.iload 4, 2) := by decide +kernel
theorem e20_17 : decode kC29 17 = .ok (.aload_n 0, 1) := by decide +kernel
theorem e20_18 : decode kC29 18 = .ok (.iload_n 1, 1) := by decide +kernel
theorem e20_19 : decode kC29 19 = .ok (.caload, 1) := by decide +kernel
theorem e20_20 : decode kC29 20 = .ok (.invokestatic 111, 3) := by decide +kernel
theorem e20_23 : decode kC29 23 = .ok (.iinc 1 1, 3) := by decide +kernel
theorem e20_26 : decode kC29 26 = .ok (.iinc 4 1, 3) := by decide +kernel
theorem e20_29 : decode kC29 29 = .ok (.goto (-21), 3) := by decide +kernel
def Q_toB (Z : State) (zC : Int32) (vF : Value) (a1 : Addr) (kc : ClassId) (cs : List Int32) (pn : Nat) (h0 : Heap) (v : Option Value) (h : Heap) (L : List Loc) : Prop := ∃ (a : Addr), ∃ (kb : ClassId), v = some (.ref a) ∧ Fr Z.heap.size L ∧ Keep h0 h [] ∧ h0.size ≤ a ∧ Arv Z h a kb .byte (Int32.ofNat (2 * pn)) (flat cs) (.int 0)
theorem rm_toB (l : Launch) (Z : State) (a0 : Array Value) (hw : HW a0 Z) (zC : Int32) (vF : Value) (G : GB l a0 Z zC vF) (a1 : Addr) (kc : ClassId) (cs : List Int32) (pn : Nat) (h0 : Heap) (O0 : Old Z Z.heap.size h0) (P1 : Arv Z h0 a1 kc .char (Int32.ofNat pn) (cs.map Value.int) (.int 0)) (Hl : (cs.length = pn)) (Hb : (pn ≤ 34)) :
    Con l Z (⟨"java/lang/StringUTF16", "toBytes", "([CII)[B"⟩ : MethodName) kC29 5 (some (.array .byte)) ({ frames := 2, cells := 1, slots := 68, locals := 24 } : Room) #[(.ref a1), (iv 0), (.int (Int32.ofNat pn))] h0 (Q_toB Z zC vF a1 kc cs pn h0) := by
  refine Con.intro (plainFor_of_name pn0) ?_
  intro p e s m below meth c T0 X0 hx hby hml hown0 hnm hret hlk hZ0 e0
  have N0 := Fr.nil Z.heap.size
  refine castGo (g' := mkF m 0 #[.val (.ref a1), .val (iv 0), .val (.int (Int32.ofNat pn)), .unset, .unset] []) (by first | rfl | (simp [entryFrame, mkF, argsToLocals, Value.category]; done)) ?_
  show Go _ _ _ _ (T0.setTop (mkF m 0 #[.val (.ref a1), .val (iv 0), .val (.int (Int32.ofNat pn)), .unset, .unset] []))
  refine iL X0 hx (hb hby e20_0) (q := 1) rfl rfl ?_
  refine g_st X0 hx hZ0 hown0 (wd267 hw) (wd268 hw) (wd22 hw) (wd269 hw) (by decide) e0 (Con.back (W := 0) (rm_nbf l Z a0 hw zC vF G pn h0 O0 Hb) hZ0 (wd269 hw) (wd22 hw) (by decide) (by decide)) (by rw [hml]; rfl) (lenOf pd7 rfl) rfl (Nat.le_of_eq rfl) (hb hby e20_1) (q := 4) rfl (by decide) (by decide) ?_
  intro v33 T33 L33 X33 Q33
  obtain ⟨a_33, kb_33, rfl, Nq33, K33q, q33_0, q33_1, q33_2⟩ := Q33
  have N33 := Fr.app N0 Nq33
  show Go _ _ _ _ (T33.setTop (mkF m 4 #[.val (.ref a1), .val (iv 0), .val (.int (Int32.ofNat pn)), .unset, .unset] [(.ref a_33)]))
  refine sA X33 hx (hb hby e20_4) (q := 5) rfl rfl (Ls' := #[.val (.ref a1), .val (iv 0), .val (.int (Int32.ofNat pn)), .val (.ref a_33), .unset]) rfl ?_
  refine cI X33 hx (hb hby e20_5) (q := 6) rfl (z := (0 : Int32)) rfl ?_
  refine sIw X33 hx (hb hby e20_6) (q := 8) rfl (Ls' := #[.val (.ref a1), .val (iv 0), .val (.int (Int32.ofNat pn)), .val (.ref a_33), .val (iv 0)]) rfl ?_
  have lp34 : ∀ (k34 i34 : Nat) (T34 : State) (h34 : Heap) (L34 : List Loc), i34 + k34 = pn → Stand p l e ({ frames := 2, cells := 1, slots := 68, locals := 24 } : Room) s m #[(.ref a1), (iv 0), (.int (Int32.ofNat pn))] below meth c T34 L34 1 68 → T34.heap = h34 → Keep T33.heap h34 [a_33] → Fr Z.heap.size L34 → (Arv Z h34 a_33 kb_33 .byte (Int32.ofNat (2 * pn)) (ins (List.replicate (2 * pn) (.int 0)) (flat (List.take i34 cs)) (2 * 0) (2 * i34)) (.int 0)) → Go p.tables e below (PEnd s (Q_toB Z zC vF a1 kc cs pn h0) ({ frames := 2, cells := 1, slots := 68, locals := 24 } : Room).cells ({ frames := 2, cells := 1, slots := 68, locals := 24 } : Room).slots) (T34.setTop (mkF m 8 #[.val (.ref a1), .val (.int (Int32.ofNat i34)), .val (.int (Int32.ofNat pn)), .val (.ref a_33), .val (.int (Int32.ofNat i34))] [])) := by
    intro k34
    induction k34 with
    | zero =>
      intro i34 T34 h34 L34  hk34 X34 e34 K34q N34 f34_0
      have hi34 : i34 = pn := by omega
      have nb34 : i34 < 2147483648 := by omega
      have hz : ¬ (Int32.ofNat i34 < Int32.ofNat pn) := by rw [hi34]; exact lt_irr
      show Go _ _ _ _ (T34.setTop (mkF m 8 #[.val (.ref a1), .val (.int (Int32.ofNat i34)), .val (.int (Int32.ofNat pn)), .val (.ref a_33), .val (.int (Int32.ofNat i34))] []))
      refine iLw X34 hx (hb hby e20_8) (q := 10) rfl rfl ?_
      refine iL X34 hx (hb hby e20_10) (q := 11) rfl rfl ?_
      refine icY X34 hx (hb hby e20_11) (q := 32) (by decide) (by decide) (flt hz).2.1 ?_
      refine aL X34 hx (hb hby e20_32) (q := 33) rfl rfl rfl ?_
      have K35 : Keep h0 T33.heap [] := (Keep.refl h0 []).trans K33q all0
      have gh36 : h0.size ≤ a_33 := Nat.le_trans (Nat.le_refl _) q33_0
      have K37 : Keep h0 h34 [] := K35.trans K34q (allS (Or.inr gh36) all0)
      refine endP X34 hlk (fun h => by rw [hret] at h; cases h) (lastA X34 hx hret rfl rfl rfl (hb hby e20_33)) ?_ (by decide) (by decide)
      rw [e34]
      exact ⟨a_33, kb_33, rfl, N34, K37, gh36, (by have q := f34_0; rw [hi34, List.take_of_length_le (Nat.le_of_eq Hl), show ins (List.replicate (2 * pn) (.int 0)) (flat cs) (2 * 0) (2 * pn) = flat cs from by rw [show List.replicate (2 * pn) (Value.int 0) = [] ++ List.replicate (2 * pn) (.int 0) from rfl, insA (c := 2 * 0) rfl (by rw [flat_len, Hl]) (Nat.le_refl _)]; simp] at q; exact q)⟩
    | succ k34 ih =>
      intro i34 T34 h34 L34  hk34 X34 e34 K34q N34 f34_0
      have hi34 : i34 < pn := by omega
      have nb34 : i34 < 2147483648 := by omega
      obtain ⟨y34, hy34⟩ : ∃ y, y = cs.getD i34 0 := ⟨_, rfl⟩
      have g34 : (cs.map Value.int).getD i34 (.int 0) = .int y34 := by rw [hy34]; exact map_getD Hl hi34
      have ll34 : (ins (List.replicate (2 * pn) (.int 0)) (flat (List.take i34 cs)) (2 * 0) (2 * i34)).length = 2 * pn := (ins_len (by rw [flat_len, List.length_take, Hl]; omega) (by rw [List.length_replicate]; omega)).trans List.length_replicate
      show Go _ _ _ _ (T34.setTop (mkF m 8 #[.val (.ref a1), .val (.int (Int32.ofNat i34)), .val (.int (Int32.ofNat pn)), .val (.ref a_33), .val (.int (Int32.ofNat i34))] []))
      refine iLw X34 hx (hb hby e20_8) (q := 10) rfl rfl ?_
      refine iL X34 hx (hb hby e20_10) (q := 11) rfl rfl ?_
      refine icN X34 hx (hb hby e20_11) (q := 14) rfl (tlt (on_lt hi34 (show pn < 2147483648 from by omega))).2.1 ?_
      refine aL X34 hx (hb hby e20_14) (q := 15) rfl rfl rfl ?_
      refine iLw X34 hx (hb hby e20_15) (q := 17) rfl rfl ?_
      refine aL X34 hx (hb hby e20_17) (q := 18) rfl rfl rfl ?_
      refine iL X34 hx (hb hby e20_18) (q := 19) rfl rfl ?_
      have f38 := P1.keep K33q nin0
      have ne39 : a1 ≠ a_33 := (Nat.ne_of_lt (Nat.lt_of_lt_of_le (Nat.lt_of_lt_of_le P1.lt (Nat.le_refl _)) q33_0))
      have f40 := f38.keep K34q (ninS ne39 nin0)
      refine g_ldC X34 hx hZ0 f40 (i := i34) (on_clamp nb34) (on_nn nb34) (on_lt hi34 (show pn < 2147483648 from by omega)) (v := (.int y34)) g34 e34 (hb hby e20_19) (q := 20) rfl ?_
      have gz43 : Z.heap.size ≤ a_33 := Nat.le_trans O0.2.1 q33_0
      have f44 := O0.keep K33q all0
      have f45 := f44.keep K34q (allS gz43 all0)
      refine g_st X34 hx hZ0 hown0 (wd274 hw) (wd275 hw) (wd22 hw) (wd276 hw) (by decide) e34 (Con.back (W := 0) (rm_put l Z a0 hw zC vF G a_33 kb_33 i34 (2 * pn) y34 (ins (List.replicate (2 * pn) (.int 0)) (flat (List.take i34 cs)) (2 * 0) (2 * i34)) h34 f45 f34_0 ll34 (show 2 * i34 + 1 < (2 * pn) from by omega) (show (2 * pn) < 1000 from by omega) gz43) hZ0 (wd276 hw) (wd22 hw) (by decide) (by decide)) (by rw [hml]; rfl) (lenOf pd5 rfl) rfl (Nat.le_of_eq rfl) (hb hby e20_20) (q := 23) rfl (by decide) (by decide) ?_
      intro v42 T42 L42 X42 Q42
      obtain ⟨rfl, Nq42, K42q, q42_0⟩ := Q42
      have N42 := Fr.app N34 Nq42
      show Go _ _ _ _ (T42.setTop (mkF m 23 #[.val (.ref a1), .val (.int (Int32.ofNat i34)), .val (.int (Int32.ofNat pn)), .val (.ref a_33), .val (.int (Int32.ofNat i34))] []))
      refine g_iinc X42 hx (hb hby e20_23) (q := 26) rfl rfl (z := (Int32.ofNat (i34 + 1))) (on_add (i34) 1) (Ls' := #[.val (.ref a1), .val (.int (Int32.ofNat (i34 + 1))), .val (.int (Int32.ofNat pn)), .val (.ref a_33), .val (.int (Int32.ofNat i34))]) rfl ?_
      refine g_iinc X42 hx (hb hby e20_26) (q := 29) rfl rfl (z := (Int32.ofNat (i34 + 1))) (on_add (i34) 1) (Ls' := #[.val (.ref a1), .val (.int (Int32.ofNat (i34 + 1))), .val (.int (Int32.ofNat pn)), .val (.ref a_33), .val (.int (Int32.ofNat (i34 + 1)))]) rfl ?_
      refine g_goto X42 hx (hb hby e20_29) (q := 8) (by decide) (by decide) ?_
      have Vs34 : Arv Z T42.heap a_33 kb_33 .byte (Int32.ofNat (2 * pn)) (ins (List.replicate (2 * pn) (.int 0)) (flat (List.take (i34 + 1) cs)) (2 * 0) (2 * (i34 + 1))) (.int 0) := by have q := q42_0; have f := flat_step (vd := List.replicate (2 * pn) (.int 0)) (c := 0) Hl hi34 (by rw [List.length_replicate]; omega); rw [show 2 * (0 + i34) = 2 * i34 by omega] at f; rw [hy34, f] at q; exact q
      show Go _ _ _ _ (T42.setTop (mkF m 8 #[.val (.ref a1), .val (.int (Int32.ofNat (i34 + 1))), .val (.int (Int32.ofNat pn)), .val (.ref a_33), .val (.int (Int32.ofNat (i34 + 1)))] []))
      have K47 := (Keep.refl T33.heap [a_33]).trans K34q (allS (Or.inl (by simp)) all0)
      have K48 := K47.trans K42q (allS (Or.inl (by simp)) all0)
      exact ih (i34 + 1) _ _ _  (by omega) X42 rfl K48 N42 Vs34
  have Vs : Arv Z T33.heap a_33 kb_33 .byte (Int32.ofNat (2 * pn)) (ins (List.replicate (2 * pn) (.int 0)) (flat (List.take 0 cs)) (2 * 0) (2 * 0)) (.int 0) := by rw [show ins (List.replicate (2 * pn) (.int 0)) (flat (List.take 0 cs)) (2 * 0) (2 * 0) = List.replicate (2 * pn) (.int 0) from by simp [ins, flat]]; exact q33_1
  exact lp34 (pn - 0) 0 _ _ _  (by omega) X33 rfl (Keep.refl _ _) N33 Vs
theorem e24_0 : decode kC15 0 = .ok (.iconst 0, 1) := by decide +kernel
theorem e24_1 : decode kC15 1 = .ok (.istore 5, 2) := by decide +kernel
theorem e24_3 : decode kC15 3 = .ok (.iload 5, 2) := by decide +kernel
theorem e24_5 : decode kC15 5 = .ok (.iload 4, 2) := by decide +kernel
theorem e24_7 : decode kC15 7 = .ok (.if_icmp .ge 37, 3) := by decide +kernel
theorem e24_10 : decode kC15 10 = .ok (.aload_n 0, 1) := by decide +kernel
theorem e24_11 : decode kC15 11 = .ok (.iload_n 1, 1) := by decide +kernel
theorem e24_12 : decode kC15 12 = .ok (.caload, 1) := by decide +kernel
theorem e24_13 : decode kC15 13 = .ok (.istore 6, 2) := by decide +kernel
theorem e24_15 : decode kC15 15 = .ok (.iload 6, 2) := by decide +kernel
theorem e24_17 : decode kC15 17 = .ok (.sipush 255, 3) := by decide +kernel
theorem e24_20 : decode kC15 20 = .ok (.if_icmp .le 6, 3) := by decide +kernel
theorem e24_23 : decode kC15 23 = .ok (.iload 5, 2) := by decide +kernel
theorem e24_25 : decode kC15 25 = .ok (.ireturn, 1) := by decide +kernel
theorem e24_26 : decode kC15 26 = .ok (.aload_n 2, 1) := by decide +kernel
theorem e24_27 : decode kC15 27 = .ok (.iload_n 3, 1) := by decide +kernel
theorem e24_28 : decode kC15 28 = .ok (.iload 6, 2) := by decide +kernel
theorem e24_30 : decode kC15 30 = .ok (.i2b, 1) := by decide +kernel
theorem e24_31 : decode kC15 31 = .ok (.bastore, 1) := by decide +kernel
theorem e24_32 : decode kC15 32 = .ok (.iinc 1 1, 3) := by decide +kernel
theorem e24_35 : decode kC15 35 = .ok (.iinc 3 1, 3) := by decide +kernel
theorem e24_38 : decode kC15 38 = .ok (.iinc 5 1, 3) := by decide +kernel
theorem e24_41 : decode kC15 41 = .ok (.goto (-38), 3) := by decide +kernel
def Q_cmp5 (Z : State) (zC : Int32) (vF : Value) (a1 : Addr) (kc : ClassId) (cs : List Int32) (pn : Nat) (a2 : Addr) (k2 : ClassId) (vd : List Value) (h0 : Heap) (v : Option Value) (h : Heap) (L : List Loc) : Prop := ∃ (pj : Nat), v = some (.int (Int32.ofNat pj)) ∧ Fr Z.heap.size L ∧ Keep h0 h [a2] ∧ (pj < pn ∧ (255 : Int32) < cs.getD pj 0)
theorem rm_cmp5 (l : Launch) (Z : State) (a0 : Array Value) (hw : HW a0 Z) (zC : Int32) (vF : Value) (G : GB l a0 Z zC vF) (a1 : Addr) (kc : ClassId) (cs : List Int32) (pn : Nat) (a2 : Addr) (k2 : ClassId) (vd : List Value) (h0 : Heap) (O0 : Old Z Z.heap.size h0) (P1 : Arv Z h0 a1 kc .char (Int32.ofNat pn) (cs.map Value.int) (.int 0)) (Hl : (cs.length = pn)) (Hb : (pn ≤ 34)) (HW : (WD cs)) (P2 : Arv Z h0 a2 k2 .byte (Int32.ofNat pn) vd (.int 0)) (Hd : (vd.length = pn)) (P3 : Z.heap.size ≤ a2) (P4 : a1 ≠ a2) :
    Con l Z (⟨"java/lang/StringUTF16", "compress", "([CI[BII)I"⟩ : MethodName) kC15 7 (some .int) ({ frames := 0, cells := 0, slots := 0, locals := 0 } : Room) #[(.ref a1), (iv 0), (.ref a2), (iv 0), (.int (Int32.ofNat pn))] h0 (Q_cmp5 Z zC vF a1 kc cs pn a2 k2 vd h0) := by
  refine Con.intro (plainFor_of_name pn0) ?_
  intro p e s m below meth c T0 X0 hx hby hml hown0 hnm hret hlk hZ0 e0
  have N0 := Fr.nil Z.heap.size
  refine castGo (g' := mkF m 0 #[.val (.ref a1), .val (iv 0), .val (.ref a2), .val (iv 0), .val (.int (Int32.ofNat pn)), .unset, .unset] []) (by first | rfl | (simp [entryFrame, mkF, argsToLocals, Value.category]; done)) ?_
  show Go _ _ _ _ (T0.setTop (mkF m 0 #[.val (.ref a1), .val (iv 0), .val (.ref a2), .val (iv 0), .val (.int (Int32.ofNat pn)), .unset, .unset] []))
  refine cI X0 hx (hb hby e24_0) (q := 1) rfl (z := (0 : Int32)) rfl ?_
  refine sIw X0 hx (hb hby e24_1) (q := 3) rfl (Ls' := #[.val (.ref a1), .val (iv 0), .val (.ref a2), .val (iv 0), .val (.int (Int32.ofNat pn)), .val (iv 0), .unset]) rfl ?_
  have lp49 : ∀ (k49 i49 : Nat) (T49 : State) (h49 : Heap) (L49 : List Loc) (R2 : List Value) (sl49_6 : Slot), i49 + k49 = pn → Stand p l e ({ frames := 0, cells := 0, slots := 0, locals := 0 } : Room) s m #[(.ref a1), (iv 0), (.ref a2), (iv 0), (.int (Int32.ofNat pn))] below meth c T49 L49 0 0 → T49.heap = h49 → Keep h0 h49 [a2] → Fr Z.heap.size L49 → (Arv Z h49 a2 k2 .byte (Int32.ofNat pn) R2 (.int 0)) → (sl49_6 = .unset ∨ ∃ x : Int32, sl49_6 = .val (.int x)) → (R2.length = pn) → (∀ j, j < i49 → ¬ (255 : Int32) < cs.getD j 0) → Go p.tables e below (PEnd s (Q_cmp5 Z zC vF a1 kc cs pn a2 k2 vd h0) ({ frames := 0, cells := 0, slots := 0, locals := 0 } : Room).cells ({ frames := 0, cells := 0, slots := 0, locals := 0 } : Room).slots) (T49.setTop (mkF m 3 #[.val (.ref a1), .val (.int (Int32.ofNat i49)), .val (.ref a2), .val (.int (Int32.ofNat i49)), .val (.int (Int32.ofNat pn)), .val (.int (Int32.ofNat i49)), sl49_6] [])) := by
    intro k49
    induction k49 with
    | zero =>
      intro i49 T49 h49 L49 R2 sl49_6 hk49 X49 e49 K49q N49 f49_0 hs49_6 lC qC
      have hi49 : i49 = pn := by omega
      have nb49 : i49 < 2147483648 := by omega
      obtain ⟨-, k, k1, k2⟩ := HW
      exact absurd k2 (qC k (by omega))
    | succ k49 ih =>
      intro i49 T49 h49 L49 R2 sl49_6 hk49 X49 e49 K49q N49 f49_0 hs49_6 lC qC
      have hi49 : i49 < pn := by omega
      have nb49 : i49 < 2147483648 := by omega
      obtain ⟨y49, hy49⟩ : ∃ y, y = cs.getD i49 0 := ⟨_, rfl⟩
      have g49 : (cs.map Value.int).getD i49 (.int 0) = .int y49 := by rw [hy49]; exact map_getD Hl hi49
      have nr49 := rng_of HW.1 Hl hi49 hy49
      show Go _ _ _ _ (T49.setTop (mkF m 3 #[.val (.ref a1), .val (.int (Int32.ofNat i49)), .val (.ref a2), .val (.int (Int32.ofNat i49)), .val (.int (Int32.ofNat pn)), .val (.int (Int32.ofNat i49)), sl49_6] []))
      refine iLw X49 hx (hb hby e24_3) (q := 5) rfl rfl ?_
      refine iLw X49 hx (hb hby e24_5) (q := 7) rfl rfl ?_
      refine icN X49 hx (hb hby e24_7) (q := 10) rfl (tlt (on_lt hi49 (show pn < 2147483648 from by omega))).2.1 ?_
      refine aL X49 hx (hb hby e24_10) (q := 11) rfl rfl rfl ?_
      refine iL X49 hx (hb hby e24_11) (q := 12) rfl rfl ?_
      have f50 := P1.keep K49q (ninS P4 nin0)
      refine g_ldC X49 hx hZ0 f50 (i := i49) (on_clamp nb49) (on_nn nb49) (on_lt hi49 (show pn < 2147483648 from by omega)) (v := (.int y49)) g49 e49 (hb hby e24_12) (q := 13) rfl ?_
      refine sIw X49 hx (hb hby e24_13) (q := 15) rfl (Ls' := #[.val (.ref a1), .val (.int (Int32.ofNat i49)), .val (.ref a2), .val (.int (Int32.ofNat i49)), .val (.int (Int32.ofNat pn)), .val (.int (Int32.ofNat i49)), .val (.int y49)]) (by rcases hs49_6 with rfl | ⟨_, rfl⟩ <;> rfl) ?_
      refine iLw X49 hx (hb hby e24_15) (q := 17) rfl rfl ?_
      refine pI X49 hx (hb hby e24_17) (q := 20) rfl (z := (255 : Int32)) rfl ?_
      by_cases hc51 : (255 : Int32) < y49
      · refine icN X49 hx (hb hby e24_20) (q := 23) rfl (tlt hc51).2.2.2 ?_
        refine iLw X49 hx (hb hby e24_23) (q := 25) rfl rfl ?_
        have K52 : Keep h0 h49 [a2] := (Keep.refl h0 [a2]).trans K49q (allS (Or.inl (by simp)) all0)
        refine endP X49 hlk (fun h => by rw [hret] at h; cases h) (lastI X49 hx hret (hb hby e24_25)) ?_ (by decide) (by decide)
        rw [e49]
        exact ⟨i49, rfl, N49, K52, ⟨hi49, by rw [← hy49]; exact hc51⟩⟩
      · refine icY X49 hx (hb hby e24_20) (q := 26) (by decide) (by decide) (flt hc51).2.2.2 ?_
        refine aL X49 hx (hb hby e24_26) (q := 27) rfl rfl rfl ?_
        refine iL X49 hx (hb hby e24_27) (q := 28) rfl rfl ?_
        refine iLw X49 hx (hb hby e24_28) (q := 30) rfl rfl ?_
        refine g_i2b X49 hx (hb hby e24_30) (q := 31) rfl (z := (StrChars.lo8 y49)) rfl ?_
        refine g_stB X49 hx hZ0 f49_0 (i := i49) (on_clamp nb49) (on_nn nb49) (on_lt hi49 (show pn < 2147483648 from by omega)) (show i49 < R2.length from by first | omega | (simp only [List.length_set]; omega)) (y := (StrChars.lo8 y49)) (lo8_nar _) e49 (hb hby e24_31) (q := 32) rfl ?_
        intro T53 h53 X53 e53 W53 V53
        have N53 := Fr.snoc X53 N49 P3
        refine g_iinc X53 hx (hb hby e24_32) (q := 35) rfl rfl (z := (Int32.ofNat (i49 + 1))) (on_add (i49) 1) (Ls' := #[.val (.ref a1), .val (.int (Int32.ofNat (i49 + 1))), .val (.ref a2), .val (.int (Int32.ofNat i49)), .val (.int (Int32.ofNat pn)), .val (.int (Int32.ofNat i49)), .val (.int y49)]) rfl ?_
        refine g_iinc X53 hx (hb hby e24_35) (q := 38) rfl rfl (z := (Int32.ofNat (i49 + 1))) (on_add (i49) 1) (Ls' := #[.val (.ref a1), .val (.int (Int32.ofNat (i49 + 1))), .val (.ref a2), .val (.int (Int32.ofNat (i49 + 1))), .val (.int (Int32.ofNat pn)), .val (.int (Int32.ofNat i49)), .val (.int y49)]) rfl ?_
        refine g_iinc X53 hx (hb hby e24_38) (q := 41) rfl rfl (z := (Int32.ofNat (i49 + 1))) (on_add (i49) 1) (Ls' := #[.val (.ref a1), .val (.int (Int32.ofNat (i49 + 1))), .val (.ref a2), .val (.int (Int32.ofNat (i49 + 1))), .val (.int (Int32.ofNat pn)), .val (.int (Int32.ofNat (i49 + 1))), .val (.int y49)]) rfl ?_
        refine g_goto X53 hx (hb hby e24_41) (q := 3) (by decide) (by decide) ?_
        show Go _ _ _ _ (T53.setTop (mkF m 3 #[.val (.ref a1), .val (.int (Int32.ofNat (i49 + 1))), .val (.ref a2), .val (.int (Int32.ofNat (i49 + 1))), .val (.int (Int32.ofNat pn)), .val (.int (Int32.ofNat (i49 + 1))), .val (.int y49)] []))
        have K55 := (Keep.refl h0 [a2]).trans K49q (allS (Or.inl (by simp)) all0)
        have K56 := K55.wr W53 (Or.inl (by simp))
        exact ih (i49 + 1) _ _ _ (R2.set i49 (.int (StrChars.lo8 y49))) (.val (.int y49)) (by omega) X53 e53 K56 N53 V53 (Or.inr ⟨_, rfl⟩) (List.length_set.trans lC) (all_step (P := fun j => ¬ (255 : Int32) < cs.getD j 0) qC (by rw [← hy49]; exact hc51))
  exact lp49 (pn - 0) 0 _ _ _ vd (.unset) (by omega) X0 e0 (Keep.refl _ _) N0 P2 (Or.inl rfl) Hd (fun _ q => absurd q (Nat.not_lt_zero _))
theorem e22_0 : decode kC14 0 = .ok (.iload_n 2, 1) := by decide +kernel
theorem e22_1 : decode kC14 1 = .ok (.newarray .byte, 2) := by decide +kernel
theorem e22_3 : decode kC14 3 = .ok (.astore_n 3, 1) := by decide +kernel
theorem e22_4 : decode kC14 4 = .ok (.aload_n 0, 1) := by decide +kernel
theorem e22_5 : decode kC14 5 = .ok (.iload_n 1, 1) := by decide +kernel
theorem e22_6 : decode kC14 6 = .ok (.aload_n 3, 1) := by decide +kernel
theorem e22_7 : decode kC14 7 = .ok (.iconst 0, 1) := by decide +kernel
theorem e22_8 : decode kC14 8 = .ok (.iload_n 2, 1) := by decide +kernel
theorem e22_9 : decode kC14 9 = .ok (.invokestatic 115, 3) := by decide +kernel
theorem wd27 (hw : HW a0 Z) : BW a0 Z (.code ⟨sT5, "compress", "([CI[BII)I"⟩ kC15 (7 : Nat) (Option.some Jvm.ClassFile.FieldType.int)) := wat hw 27 rfl
theorem pd8 : parseMethodDescriptor "([CI[BII)I" = some ⟨[(.array .char), .int, (.array .byte), .int, .int], some .int⟩ := by decide +kernel
theorem wd25 (hw : HW a0 Z) : BW a0 Z (.methodLink sT5 (115 : Nat) ⟨sT5, "compress", "([CI[BII)I"⟩) := wat hw 25 rfl
theorem wd26 (hw : HW a0 Z) : BW a0 Z (.static ⟨sT5, "compress", "([CI[BII)I"⟩) := wat hw 26 rfl
theorem e22_12 : decode kC14 12 = .ok (.istore 4, 2) := by decide +kernel
theorem e22_14 : decode kC14 14 = .ok (.iload 4, 2) := by decide +kernel
theorem e22_16 : decode kC14 16 = .ok (.iload_n 2, 1) := by decide +kernel
theorem e22_17 : decode kC14 17 = .ok (.if_icmp .eq 40, 3) := by decide +kernel
theorem e22_20 : decode kC14 20 = .ok (.aload_n 0, 1) := by decide +kernel
theorem e22_21 : decode kC14 21 = .ok (.iload_n 1, 1) := by decide +kernel
theorem e22_22 : decode kC14 22 = .ok (.iload_n 2, 1) := by decide +kernel
theorem e22_23 : decode kC14 23 = .ok (.invokestatic 119, 3) := by decide +kernel
theorem wd266 (hw : HW a0 Z) : BW a0 Z (.code ⟨sT5, "toBytes", "([CII)[B"⟩ kC29 (5 : Nat) (Option.some (Jvm.ClassFile.FieldType.array Jvm.ClassFile.FieldType.byte))) := wat hw 266 rfl
theorem pd9 : parseMethodDescriptor "([CII)[B" = some ⟨[(.array .char), .int, .int], some (.array .byte)⟩ := by decide +kernel
theorem wd264 (hw : HW a0 Z) : BW a0 Z (.methodLink sT5 (119 : Nat) ⟨sT5, "toBytes", "([CII)[B"⟩) := wat hw 264 rfl
theorem wd265 (hw : HW a0 Z) : BW a0 Z (.static ⟨sT5, "toBytes", "([CII)[B"⟩) := wat hw 265 rfl
theorem e22_26 : decode kC14 26 = .ok (.astore 5, 2) := by decide +kernel
theorem e22_28 : decode kC14 28 = .ok (.aload 5, 2) := by decide +kernel
theorem e22_30 : decode kC14 30 = .ok (.iload 4, 2) := by decide +kernel
theorem e22_32 : decode kC14 32 = .ok (.invokestatic 71, 3) := by decide +kernel
theorem wd282 (hw : HW a0 Z) : BW a0 Z (.code ⟨sT5, "getChar", "([BI)C"⟩ kC39 (2 : Nat) (Option.some Jvm.ClassFile.FieldType.char)) := wat hw 282 rfl
theorem pd10 : parseMethodDescriptor "([BI)C" = some ⟨[(.array .byte), .int], some .char⟩ := by decide +kernel
theorem wd280 (hw : HW a0 Z) : BW a0 Z (.methodLink sT5 (71 : Nat) ⟨sT5, "getChar", "([BI)C"⟩) := wat hw 280 rfl
theorem wd281 (hw : HW a0 Z) : BW a0 Z (.static ⟨sT5, "getChar", "([BI)C"⟩) := wat hw 281 rfl
theorem e22_35 : decode kC14 35 = .ok (.sipush 255, 3) := by decide +kernel
theorem e22_38 : decode kC14 38 = .ok (.if_icmp .gt 16, 3) := by decide +kernel
theorem e22_54 : decode kC14 54 = .ok (.aload 5, 2) := by decide +kernel
theorem e22_56 : decode kC14 56 = .ok (.areturn, 1) := by decide +kernel
def Q_cmp3 (Z : State) (zC : Int32) (vF : Value) (a1 : Addr) (kc : ClassId) (cs : List Int32) (pn : Nat) (h0 : Heap) (v : Option Value) (h : Heap) (L : List Loc) : Prop := ∃ (a : Addr), ∃ (kb : ClassId), v = some (.ref a) ∧ Fr Z.heap.size L ∧ Keep h0 h [] ∧ h0.size ≤ a ∧ Arv Z h a kb .byte (Int32.ofNat (2 * pn)) (flat cs) (.int 0)
theorem rm_cmp3 (l : Launch) (Z : State) (a0 : Array Value) (hw : HW a0 Z) (zC : Int32) (vF : Value) (G : GB l a0 Z zC vF) (a1 : Addr) (kc : ClassId) (cs : List Int32) (pn : Nat) (h0 : Heap) (O0 : Old Z Z.heap.size h0) (P1 : Arv Z h0 a1 kc .char (Int32.ofNat pn) (cs.map Value.int) (.int 0)) (Hl : (cs.length = pn)) (Hb : (pn ≤ 34)) (HW : (WD cs)) :
    Con l Z (⟨"java/lang/StringUTF16", "compress", "([CII)[B"⟩ : MethodName) kC14 6 (some (.array .byte)) ({ frames := 3, cells := 2, slots := 102, locals := 40 } : Room) #[(.ref a1), (iv 0), (.int (Int32.ofNat pn))] h0 (Q_cmp3 Z zC vF a1 kc cs pn h0) := by
  refine Con.intro (plainFor_of_name pn0) ?_
  intro p e s m below meth c T0 X0 hx hby hml hown0 hnm hret hlk hZ0 e0
  have N0 := Fr.nil Z.heap.size
  refine castGo (g' := mkF m 0 #[.val (.ref a1), .val (iv 0), .val (.int (Int32.ofNat pn)), .unset, .unset, .unset] []) (by first | rfl | (simp [entryFrame, mkF, argsToLocals, Value.category]; done)) ?_
  show Go _ _ _ _ (T0.setTop (mkF m 0 #[.val (.ref a1), .val (iv 0), .val (.int (Int32.ofNat pn)), .unset, .unset, .unset] []))
  refine iL X0 hx (hb hby e22_0) (q := 1) rfl rfl ?_
  refine g_newE X0 hx hZ0 (aty := .byte) (wd24 hw) (on_nn (show pn < 2147483648 from by omega)) (n := pn) (on_clamp (show pn < 2147483648 from by omega)) (by omega) (by decide) (Nat.le_trans (show 0 + pn ≤ 34 from by omega) (by decide)) (ad := "[B") (by decide) e0 (hb hby e22_1) (q := 3) rfl ?_
  intro T57 h57 k57 b57 g57 X57q e57 E57 V57 G57
  have X57 := X57q.more (Nat.le_refl _) (show 0 + pn ≤ 34 from by omega)
  show Go _ _ _ _ (T57.setTop (mkF m 3 #[.val (.ref a1), .val (iv 0), .val (.int (Int32.ofNat pn)), .unset, .unset, .unset] [(.ref b57)]))
  refine sA X57 hx (hb hby e22_3) (q := 4) rfl rfl (Ls' := #[.val (.ref a1), .val (iv 0), .val (.int (Int32.ofNat pn)), .val (.ref b57), .unset, .unset]) rfl ?_
  refine aL X57 hx (hb hby e22_4) (q := 5) rfl rfl rfl ?_
  refine iL X57 hx (hb hby e22_5) (q := 6) rfl rfl ?_
  refine aL X57 hx (hb hby e22_6) (q := 7) rfl rfl rfl ?_
  refine cI X57 hx (hb hby e22_7) (q := 8) rfl (z := (0 : Int32)) rfl ?_
  refine iL X57 hx (hb hby e22_8) (q := 9) rfl rfl ?_
  have f62 := P1.ext E57
  have gz63 : Z.heap.size ≤ b57 := Nat.le_trans O0.2.1 (Nat.le_of_eq g57.symm)
  have ne64 : a1 ≠ b57 := (Nat.ne_of_lt (Nat.lt_of_lt_of_le (Nat.lt_of_lt_of_le P1.lt (Nat.le_refl _)) (Nat.le_of_eq g57.symm)))
  have f65 := O0.ext E57
  refine g_st X57 hx hZ0 hown0 (wd25 hw) (wd26 hw) (wd22 hw) (wd27 hw) (by decide) e57 (Con.back (W := 0) (rm_cmp5 l Z a0 hw zC vF G a1 kc cs pn b57 k57 (List.replicate pn (.int 0)) h57 f65 f62 Hl Hb HW V57 List.length_replicate gz63 ne64) hZ0 (wd27 hw) (wd22 hw) (by decide) (by decide)) (by rw [hml]; rfl) (lenOf pd8 rfl) rfl (Nat.le_of_eq rfl) (hb hby e22_9) (q := 12) rfl (by decide) (by decide) ?_
  intro v61 T61 L61 X61 Q61
  obtain ⟨pj_61, rfl, Nq61, K61q, q61_0⟩ := Q61
  have N61 := Fr.app N0 Nq61
  show Go _ _ _ _ (T61.setTop (mkF m 12 #[.val (.ref a1), .val (iv 0), .val (.int (Int32.ofNat pn)), .val (.ref b57), .unset, .unset] [(.int (Int32.ofNat pj_61))]))
  refine sIw X61 hx (hb hby e22_12) (q := 14) rfl (Ls' := #[.val (.ref a1), .val (iv 0), .val (.int (Int32.ofNat pn)), .val (.ref b57), .val (.int (Int32.ofNat pj_61)), .unset]) rfl ?_
  refine iLw X61 hx (hb hby e22_14) (q := 16) rfl rfl ?_
  refine iL X61 hx (hb hby e22_16) (q := 17) rfl rfl ?_
  have hj1 := q61_0.1
  have hj2 := q61_0.2
  refine icN X61 hx (hb hby e22_17) (q := 20) rfl (feq (on_ne hj1 (by omega))).1 ?_
  refine aL X61 hx (hb hby e22_20) (q := 21) rfl rfl rfl ?_
  refine iL X61 hx (hb hby e22_21) (q := 22) rfl rfl ?_
  refine iL X61 hx (hb hby e22_22) (q := 23) rfl rfl ?_
  have f68 := f62.keep K61q (ninS ne64 nin0)
  have f69 := f65.keep K61q (allS gz63 all0)
  refine g_st X61 hx hZ0 hown0 (wd264 hw) (wd265 hw) (wd22 hw) (wd266 hw) (by decide) rfl (Con.back (W := 0) (rm_toB l Z a0 hw zC vF G a1 kc cs pn T61.heap f69 f68 Hl Hb) hZ0 (wd266 hw) (wd22 hw) (by decide) (by decide)) (by rw [hml]; rfl) (lenOf pd9 rfl) rfl (Nat.le_of_eq rfl) (hb hby e22_23) (q := 26) rfl (by decide) (by decide) ?_
  intro v67 T67 L67 X67 Q67
  obtain ⟨a_67, kb_67, rfl, Nq67, K67q, q67_0, q67_1⟩ := Q67
  have N67 := Fr.app N61 Nq67
  show Go _ _ _ _ (T67.setTop (mkF m 26 #[.val (.ref a1), .val (iv 0), .val (.int (Int32.ofNat pn)), .val (.ref b57), .val (.int (Int32.ofNat pj_61)), .unset] [(.ref a_67)]))
  refine sAw X67 hx (hb hby e22_26) (q := 28) rfl rfl (Ls' := #[.val (.ref a1), .val (iv 0), .val (.int (Int32.ofNat pn)), .val (.ref b57), .val (.int (Int32.ofNat pj_61)), .val (.ref a_67)]) rfl ?_
  refine aLw X67 hx (hb hby e22_28) (q := 30) rfl rfl rfl ?_
  refine iLw X67 hx (hb hby e22_30) (q := 32) rfl rfl ?_
  have f71 := f69.keep K67q all0
  refine g_st X67 hx hZ0 hown0 (wd280 hw) (wd281 hw) (wd22 hw) (wd282 hw) (by decide) rfl (Con.back (W := 0) (rm_gch l Z a0 hw zC vF G a_67 kb_67 pj_61 (2 * pn) cs T67.heap f71 q67_1 (show (2 * pn) = 2 * cs.length from by first | rfl | omega | (simp; done)) (show pj_61 < cs.length from by first | rfl | omega | (simp; done)) (show (2 * pn) < 1000 from by first | rfl | omega | (simp; done)) HW.1) hZ0 (wd282 hw) (wd22 hw) (by decide) (by decide)) (by rw [hml]; rfl) (lenOf pd10 rfl) rfl (Nat.le_of_eq rfl) (hb hby e22_32) (q := 35) rfl (by decide) (by decide) ?_
  intro v70 T70 L70 X70 Q70
  obtain ⟨rfl, Nq70, e70⟩ := Q70
  have N70 := Fr.app N67 Nq70
  show Go _ _ _ _ (T70.setTop (mkF m 35 #[.val (.ref a1), .val (iv 0), .val (.int (Int32.ofNat pn)), .val (.ref b57), .val (.int (Int32.ofNat pj_61)), .val (.ref a_67)] [(.int (cs.getD pj_61 0))]))
  refine pI X70 hx (hb hby e22_35) (q := 38) rfl (z := (255 : Int32)) rfl ?_
  refine icY X70 hx (hb hby e22_38) (q := 54) (by decide) (by decide) (tlt hj2).2.2.1 ?_
  refine aLw X70 hx (hb hby e22_54) (q := 56) rfl rfl rfl ?_
  have K72 : Keep h0 h57 [] := (Keep.refl h0 []).ext E57
  have gh73 : h0.size ≤ b57 := Nat.le_trans (Nat.le_refl _) (Nat.le_of_eq g57.symm)
  have K74 : Keep h0 T61.heap [] := K72.trans K61q (allS (Or.inr gh73) all0)
  have K75 : Keep h0 T67.heap [] := K74.trans K67q all0
  have le77 := E57.1
  have le78 := (Nat.le_trans le77 K61q.1)
  have gh76 : h0.size ≤ a_67 := Nat.le_trans le78 q67_0
  refine endP X70 hlk (fun h => by rw [hret] at h; cases h) (lastA X70 hx hret rfl rfl rfl (hb hby e22_56)) ?_ (by decide) (by decide)
  rw [e70]
  exact ⟨a_67, kb_67, rfl, N70, K75, gh76, q67_1⟩
theorem e21_0 : decode kC28 0 = .ok (.iload_n 1, 1) := by decide +kernel
theorem e21_1 : decode kC28 1 = .ok (.aload_n 0, 1) := by decide +kernel
theorem e21_2 : decode kC28 2 = .ok (.arraylength, 1) := by decide +kernel
theorem e21_3 : decode kC28 3 = .ok (.isub, 1) := by decide +kernel
theorem e21_4 : decode kC28 4 = .ok (.bipush 31, 2) := by decide +kernel
theorem e21_6 : decode kC28 6 = .ok (.iushr, 1) := by decide +kernel
theorem e21_7 : decode kC28 7 = .ok (.i2b, 1) := by decide +kernel
theorem e21_8 : decode kC28 8 = .ok (.ireturn, 1) := by decide +kernel
def Q_cfa2 (Z : State) (zC : Int32) (vF : Value) (a1 : Addr) (kb : ClassId) (vs : List Value) (h0 : Heap) (v : Option Value) (h : Heap) (L : List Loc) : Prop := v = some (iv 1) ∧ Fr Z.heap.size L ∧ h = h0
theorem rm_cfa2 (l : Launch) (Z : State) (a0 : Array Value) (hw : HW a0 Z) (zC : Int32) (vF : Value) (G : GB l a0 Z zC vF) (a1 : Addr) (kb : ClassId) (vs : List Value) (h0 : Heap) (O0 : Old Z Z.heap.size h0) (P1 : Arv Z h0 a1 kb .byte (4 : Int32) vs (.int 0)) :
    Con l Z (⟨"java/lang/StringUTF16", "coderFromArrayLen", "([BI)B"⟩ : MethodName) kC28 2 (some .byte) ({ frames := 0, cells := 0, slots := 0, locals := 0 } : Room) #[(.ref a1), (iv 2)] h0 (Q_cfa2 Z zC vF a1 kb vs h0) := by
  refine Con.intro (plainFor_of_name pn0) ?_
  intro p e s m below meth c T0 X0 hx hby hml hown0 hnm hret hlk hZ0 e0
  have N0 := Fr.nil Z.heap.size
  refine castGo (g' := mkF m 0 #[.val (.ref a1), .val (iv 2)] []) (by first | rfl | (simp [entryFrame, mkF, argsToLocals, Value.category]; done)) ?_
  show Go _ _ _ _ (T0.setTop (mkF m 0 #[.val (.ref a1), .val (iv 2)] []))
  refine iL X0 hx (hb hby e21_0) (q := 1) rfl rfl ?_
  refine aL X0 hx (hb hby e21_1) (q := 2) rfl rfl rfl ?_
  refine g_len X0 hx hZ0 P1 e0 (hb hby e21_2) (q := 3) rfl ?_
  refine g_isub X0 hx (hb hby e21_3) (q := 4) rfl (z := (-2 : Int32)) (by decide) ?_
  refine bI X0 hx (hb hby e21_4) (q := 6) rfl (z := (31 : Int32)) rfl ?_
  refine g_iushr X0 hx (hb hby e21_6) (q := 7) rfl (z := (1 : Int32)) (by decide) ?_
  refine g_i2b X0 hx (hb hby e21_7) (q := 8) rfl (z := (1 : Int32)) (by decide) ?_
  refine endP X0 hlk (fun h => by rw [hret] at h; cases h) (lastN X0 hx (t := .byte) (z' := (1 : Int32)) hret (by simp) (by decide) (hb hby e21_8)) ?_ (by decide) (by decide)
  rw [e0]
  exact ⟨rfl, N0, rfl⟩
theorem e5_0 : decode kC0 0 = .ok (.aload_n 0, 1) := by decide +kernel
theorem e5_1 : decode kC0 1 = .ok (.invokespecial 1, 3) := by decide +kernel
theorem wd16 (hw : HW a0 Z) : BW a0 Z (.methodLink sT1 (1 : Nat) ⟨"java/lang/Object", "<init>", "()V"⟩) := wat hw 16 rfl
theorem wd17 (hw : HW a0 Z) : BW a0 Z (.instanceMethod ⟨"java/lang/Object", "<init>", "()V"⟩) := wat hw 17 rfl
theorem wd18 (hw : HW a0 Z) : BW a0 Z (.code ⟨"java/lang/Object", "<init>", "()V"⟩ kC47 (1 : Nat) (Option.none : Option Jvm.ClassFile.FieldType)) := wat hw 18 rfl
theorem e5_4 : decode kC0 4 = .ok (.iload_n 3, 1) := by decide +kernel
theorem e5_5 : decode kC0 5 = .ok (.ifCond .ne 22, 3) := by decide +kernel
theorem e5_27 : decode kC0 27 = .ok (.getstatic 38, 3) := by decide +kernel
theorem wd19 (hw : HW a0 Z) : BW a0 Z (.fieldLink sT1 (38 : Nat) sT1 "COMPACT_STRINGS" "Z") := wat hw 19 rfl
theorem e5_30 : decode kC0 30 = .ok (.ifCond .eq 28, 3) := by decide +kernel
theorem e5_33 : decode kC0 33 = .ok (.aload_n 1, 1) := by decide +kernel
theorem e5_34 : decode kC0 34 = .ok (.iload_n 2, 1) := by decide +kernel
theorem e5_35 : decode kC0 35 = .ok (.iload_n 3, 1) := by decide +kernel
theorem e5_36 : decode kC0 36 = .ok (.invokestatic 177, 3) := by decide +kernel
theorem wd23 (hw : HW a0 Z) : BW a0 Z (.code ⟨sT5, "compress", "([CII)[B"⟩ kC14 (6 : Nat) (Option.some (Jvm.ClassFile.FieldType.array Jvm.ClassFile.FieldType.byte))) := wat hw 23 rfl
theorem wd20 (hw : HW a0 Z) : BW a0 Z (.methodLink sT1 (177 : Nat) ⟨sT5, "compress", "([CII)[B"⟩) := wat hw 20 rfl
theorem wd21 (hw : HW a0 Z) : BW a0 Z (.static ⟨sT5, "compress", "([CII)[B"⟩) := wat hw 21 rfl
theorem e5_39 : decode kC0 39 = .ok (.astore 5, 2) := by decide +kernel
theorem e5_41 : decode kC0 41 = .ok (.aload_n 0, 1) := by decide +kernel
theorem e5_42 : decode kC0 42 = .ok (.aload 5, 2) := by decide +kernel
theorem e5_44 : decode kC0 44 = .ok (.iload_n 3, 1) := by decide +kernel
theorem e5_45 : decode kC0 45 = .ok (.invokestatic 47, 3) := by decide +kernel
theorem wd30 (hw : HW a0 Z) : BW a0 Z (.code ⟨sT5, "coderFromArrayLen", "([BI)B"⟩ kC28 (2 : Nat) (Option.some Jvm.ClassFile.FieldType.byte)) := wat hw 30 rfl
theorem pd11 : parseMethodDescriptor "([BI)B" = some ⟨[(.array .byte), .int], some .byte⟩ := by decide +kernel
theorem wd28 (hw : HW a0 Z) : BW a0 Z (.methodLink sT1 (47 : Nat) ⟨sT5, "coderFromArrayLen", "([BI)B"⟩) := wat hw 28 rfl
theorem wd29 (hw : HW a0 Z) : BW a0 Z (.static ⟨sT5, "coderFromArrayLen", "([BI)B"⟩) := wat hw 29 rfl
theorem e5_48 : decode kC0 48 = .ok (.putfield 15, 3) := by decide +kernel
theorem wd31 (hw : HW a0 Z) : BW a0 Z (.fieldLink sT1 (15 : Nat) sT1 "coder" "B") := wat hw 31 rfl
theorem wd32 (hw : HW a0 Z) : BW a0 Z (.laysFinal sT1 sT1 "coder" "B") := wat hw 32 rfl
theorem wd7 (hw : HW a0 Z) : BW a0 Z (.instantiable sT1 (4 : Nat)) := wat hw 7 rfl
theorem e5_51 : decode kC0 51 = .ok (.aload_n 0, 1) := by decide +kernel
theorem e5_52 : decode kC0 52 = .ok (.aload 5, 2) := by decide +kernel
theorem e5_54 : decode kC0 54 = .ok (.putfield 9, 3) := by decide +kernel
theorem wd33 (hw : HW a0 Z) : BW a0 Z (.fieldLink sT1 (9 : Nat) sT1 "value" "[B") := wat hw 33 rfl
theorem wd34 (hw : HW a0 Z) : BW a0 Z (.laysFinal sT1 sT1 "value" "[B") := wat hw 34 rfl
theorem e5_57 : decode kC0 57 = .ok (.return_, 1) := by decide +kernel
def Q_new4w2 (Z : State) (zC : Int32) (vF : Value) (a1 : Addr) (a2 : Addr) (kc : ClassId) (cs : List Int32) (h0 : Heap) (v : Option Value) (h : Heap) (L : List Loc) : Prop := ∃ (t : Addr), ∃ (kb : ClassId), v = none ∧ Fr Z.heap.size L ∧ Keep h0 h [a1] ∧ h0.size ≤ t ∧ Exa Z h a1 sT1 ∧ Fld Z h a1 sT1 "value" "[B" (.ref t) ∧ Fld Z h a1 sT1 "coder" "B" (iv 1) ∧ Arv Z h t kb .byte (4 : Int32) (flat cs) (.int 0)
theorem rm_new4w2 (l : Launch) (Z : State) (a0 : Array Value) (hw : HW a0 Z) (zC : Int32) (vF : Value) (G : GB l a0 Z zC vF) (a1 : Addr) (a2 : Addr) (kc : ClassId) (cs : List Int32) (h0 : Heap) (O0 : Old Z Z.heap.size h0) (P1 : Exa Z h0 a1 sT1) (P2 : Fld Z h0 a1 sT1 "value" "[B" .null) (P3 : Fld Z h0 a1 sT1 "coder" "B" (iv 0)) (P4 : Z.heap.size ≤ a1) (P5 : Arv Z h0 a2 kc .char (2 : Int32) (cs.map Value.int) (.int 0)) (Hl : (cs.length = 2)) (HW : (WD cs)) :
    Con l Z (⟨sT1, "<init>", "([CIILjava/lang/Void;)V"⟩ : MethodName) kC0 6 none ({ frames := 4, cells := 2, slots := 102, locals := 57 } : Room) #[(.ref a1), (.ref a2), (iv 0), (iv 2), .null] h0 (Q_new4w2 Z zC vF a1 a2 kc cs h0) := by
  obtain ⟨hl, SC, PC, rF, SF, SA, SH, SL, hX⟩ := id G
  refine Con.intro (plainFor_of_name pn2) ?_
  intro p e s m below meth c T0 X0 hx hby hml hown0 hnm hret hlk hZ0 e0
  have N0 := Fr.nil Z.heap.size
  refine castGo (g' := mkF m 0 #[.val (.ref a1), .val (.ref a2), .val (iv 0), .val (iv 2), .val .null, .unset] []) (by first | rfl | (simp [entryFrame, mkF, argsToLocals, Value.category]; done)) ?_
  show Go _ _ _ _ (T0.setTop (mkF m 0 #[.val (.ref a1), .val (.ref a2), .val (iv 0), .val (iv 2), .val .null, .unset] []))
  refine aL X0 hx (hb hby e5_0) (q := 1) rfl rfl rfl ?_
  refine g_init0 X0 hx hZ0 hown0 (wd16 hw) (wd17 hw) (wd18 hw) (by rw [hml]; rfl) (by decide) (W := 0) (Nat.le_of_eq rfl) (by decide) e0 (hb hby e5_1) (q := 4) rfl ?_
  intro T79 X79 e79
  refine iL X79 hx (hb hby e5_4) (q := 5) rfl rfl ?_
  refine ifY X79 hx (hb hby e5_5) (q := 27) (by decide) (by decide) (by decide) ?_
  refine g_getS X79 hx hZ0 hown0 (host := "") (Or.inl (wd19 hw)) Via.refl (SC.ext O0.2) e79 (hb hby e5_27) (q := 30) rfl ?_
  intro T80 X80 e80
  refine ifN X80 hx (hb hby e5_30) (q := 33) rfl ((if0 _ _).trans (feq PC).1) ?_
  refine aL X80 hx (hb hby e5_33) (q := 34) rfl rfl rfl ?_
  refine iL X80 hx (hb hby e5_34) (q := 35) rfl rfl ?_
  refine iL X80 hx (hb hby e5_35) (q := 36) rfl rfl ?_
  refine g_st X80 hx hZ0 hown0 (wd20 hw) (wd21 hw) (wd22 hw) (wd23 hw) (by decide) e80 (Con.back (W := 0) (rm_cmp3 l Z a0 hw zC vF G a2 kc cs 2 h0 O0 P5 Hl (show 2 ≤ 34 from by omega) HW) hZ0 (wd23 hw) (wd22 hw) (by decide) (by decide)) (by rw [hml]; rfl) (lenOf pd9 rfl) rfl (Nat.le_of_eq rfl) (hb hby e5_36) (q := 39) rfl (by decide) (by decide) ?_
  intro v81 T81 L81 X81 Q81
  obtain ⟨a_81, kb_81, rfl, Nq81, K81q, q81_0, q81_1⟩ := Q81
  have N81 := Fr.app N0 Nq81
  show Go _ _ _ _ (T81.setTop (mkF m 39 #[.val (.ref a1), .val (.ref a2), .val (iv 0), .val (iv 2), .val .null, .unset] [(.ref a_81)]))
  refine sAw X81 hx (hb hby e5_39) (q := 41) rfl rfl (Ls' := #[.val (.ref a1), .val (.ref a2), .val (iv 0), .val (iv 2), .val .null, .val (.ref a_81)]) rfl ?_
  refine aL X81 hx (hb hby e5_41) (q := 42) rfl rfl rfl ?_
  refine aLw X81 hx (hb hby e5_42) (q := 44) rfl rfl rfl ?_
  refine iL X81 hx (hb hby e5_44) (q := 45) rfl rfl ?_
  have Vz : Arv Z T81.heap a_81 kb_81 .byte (4 : Int32) (flat cs) (.int 0) := q81_1
  have f83 := O0.keep K81q all0
  refine g_st X81 hx hZ0 hown0 (wd28 hw) (wd29 hw) (wd22 hw) (wd30 hw) (by decide) rfl (Con.back (W := 1) (rm_cfa2 l Z a0 hw zC vF G a_81 kb_81 (flat cs) T81.heap f83 Vz) hZ0 (wd30 hw) (wd22 hw) (by decide) (by decide)) (by rw [hml]; rfl) (lenOf pd11 rfl) rfl (Nat.le_of_eq rfl) (hb hby e5_45) (q := 48) rfl (by decide) (by decide) ?_
  intro v82 T82 L82 X82 Q82
  obtain ⟨rfl, Nq82, e82⟩ := Q82
  have N82 := Fr.app N81 Nq82
  show Go _ _ _ _ (T82.setTop (mkF m 48 #[.val (.ref a1), .val (.ref a2), .val (iv 0), .val (iv 2), .val .null, .val (.ref a_81)] [(iv 1), (.ref a1)]))
  have f84 := P3.keep K81q nin0
  have f85 := P1.keep K81q
  refine g_putF X82 hx hZ0 hown0 (host := "") (Or.inl (wd31 hw)) Via.refl f84 f85 (Or.inr ⟨(wd32 hw), rfl, hnm⟩) (wd7 hw) (ty := .byte) (by decide) rfl rfl e82 (hb hby e5_48) (q := 51) rfl ?_
  intro T86 h86 X86 e86 W86
  have N86 := Fr.snoc X86 N82 P4
  have Fw86 : Fld Z h86 a1 sT1 "coder" "B" (iv 1) := f84.same W86
  refine aL X86 hx (hb hby e5_51) (q := 52) rfl rfl rfl ?_
  refine aLw X86 hx (hb hby e5_52) (q := 54) rfl rfl rfl ?_
  have f87 := P2.keep K81q nin0
  have f88 := f87.other W86 (Or.inr (slot_ne (Or.inr (wd34 hw)) (Or.inr (wd32 hw)) (by decide) (t := (.array .byte)) (t' := .byte) (by decide) (by decide)))
  have f89 := f85.wr W86
  refine g_putF X86 hx hZ0 hown0 (host := "") (Or.inl (wd33 hw)) Via.refl f88 f89 (Or.inr ⟨(wd34 hw), rfl, hnm⟩) (wd7 hw) (ty := (.array .byte)) (by decide) rfl rfl e86 (hb hby e5_54) (q := 57) rfl ?_
  intro T90 h90 X90 e90 W90
  have N90 := Fr.snoc X90 N86 P4
  have Fw90 : Fld Z h90 a1 sT1 "value" "[B" (.ref a_81) := f88.same W90
  have K91 : Keep h0 T81.heap [a1] := (Keep.refl h0 [a1]).trans K81q all0
  have K92 : Keep h0 h86 [a1] := K91.wr W86 (Or.inl (by simp))
  have K93 : Keep h0 h90 [a1] := K92.wr W90 (Or.inl (by simp))
  have gh94 : h0.size ≤ a_81 := Nat.le_trans (Nat.le_refl _) q81_0
  have f95 := f89.wr W90
  have f96 := Fw86.other W90 (Or.inr (slot_ne (Or.inr (wd32 hw)) (Or.inr (wd34 hw)) (by decide) (t := .byte) (t' := (.array .byte)) (by decide) (by decide)))
  have ne97 : a_81 ≠ a1 := (Nat.ne_of_gt (Nat.lt_of_lt_of_le (Nat.lt_of_lt_of_le P1.lt (Nat.le_refl _)) q81_0))
  have f98 := Vz.other W86 ne97
  have f99 := f98.other W90 ne97
  refine endP X90 hlk (fun _ => rfl) (lastV X90 hx hret (hb hby e5_57)) ?_ (by decide) (by decide)
  rw [e90]
  exact ⟨a_81, kb_81, rfl, N90, K93, gh94, f95, Fw90, f96, f99⟩
theorem e11_0 : decode kC52 0 = .ok (.aload_n 0, 1) := by decide +kernel
theorem e11_1 : decode kC52 1 = .ok (.aload_n 1, 1) := by decide +kernel
theorem e11_2 : decode kC52 2 = .ok (.iconst 0, 1) := by decide +kernel
theorem e11_3 : decode kC52 3 = .ok (.aload_n 1, 1) := by decide +kernel
theorem e11_4 : decode kC52 4 = .ok (.arraylength, 1) := by decide +kernel
theorem e11_5 : decode kC52 5 = .ok (.aconst_null, 1) := by decide +kernel
theorem e11_6 : decode kC52 6 = .ok (.invokespecial 27, 3) := by decide +kernel
theorem wd15 (hw : HW a0 Z) : BW a0 Z (.code ⟨sT1, "<init>", "([CIILjava/lang/Void;)V"⟩ kC0 (6 : Nat) (Option.none : Option Jvm.ClassFile.FieldType)) := wat hw 15 rfl
theorem pd12 : parseMethodDescriptor "([CIILjava/lang/Void;)V" = some ⟨[(.array .char), .int, .int, (.object "java/lang/Void")], none⟩ := by decide +kernel
theorem wd12 (hw : HW a0 Z) : BW a0 Z (.methodLink sT1 (27 : Nat) ⟨sT1, "<init>", "([CIILjava/lang/Void;)V"⟩) := wat hw 12 rfl
theorem wd13 (hw : HW a0 Z) : BW a0 Z (.instanceMethod ⟨sT1, "<init>", "([CIILjava/lang/Void;)V"⟩) := wat hw 13 rfl
theorem e11_9 : decode kC52 9 = .ok (.return_, 1) := by decide +kernel
def Q_new1w2 (Z : State) (zC : Int32) (vF : Value) (a1 : Addr) (a2 : Addr) (kc : ClassId) (cs : List Int32) (h0 : Heap) (v : Option Value) (h : Heap) (L : List Loc) : Prop := ∃ (t : Addr), ∃ (kb : ClassId), v = none ∧ Fr Z.heap.size L ∧ Keep h0 h [a1] ∧ h0.size ≤ t ∧ Exa Z h a1 sT1 ∧ Fld Z h a1 sT1 "value" "[B" (.ref t) ∧ Fld Z h a1 sT1 "coder" "B" (iv 1) ∧ Arv Z h t kb .byte (4 : Int32) (flat cs) (.int 0)
theorem rm_new1w2 (l : Launch) (Z : State) (a0 : Array Value) (hw : HW a0 Z) (zC : Int32) (vF : Value) (G : GB l a0 Z zC vF) (a1 : Addr) (a2 : Addr) (kc : ClassId) (cs : List Int32) (h0 : Heap) (O0 : Old Z Z.heap.size h0) (P1 : Exa Z h0 a1 sT1) (P2 : Fld Z h0 a1 sT1 "value" "[B" .null) (P3 : Fld Z h0 a1 sT1 "coder" "B" (iv 0)) (P4 : Z.heap.size ≤ a1) (P5 : Arv Z h0 a2 kc .char (2 : Int32) (cs.map Value.int) (.int 0)) (Hl : (cs.length = 2)) (HW : (WD cs)) :
    Con l Z (⟨sT1, "<init>", "([C)V"⟩ : MethodName) kC52 2 none ({ frames := 5, cells := 2, slots := 102, locals := 74 } : Room) #[(.ref a1), (.ref a2)] h0 (Q_new1w2 Z zC vF a1 a2 kc cs h0) := by
  refine Con.intro (plainFor_of_name pn2) ?_
  intro p e s m below meth c T0 X0 hx hby hml hown0 hnm hret hlk hZ0 e0
  have N0 := Fr.nil Z.heap.size
  refine castGo (g' := mkF m 0 #[.val (.ref a1), .val (.ref a2)] []) (by first | rfl | (simp [entryFrame, mkF, argsToLocals, Value.category]; done)) ?_
  show Go _ _ _ _ (T0.setTop (mkF m 0 #[.val (.ref a1), .val (.ref a2)] []))
  refine aL X0 hx (hb hby e11_0) (q := 1) rfl rfl rfl ?_
  refine aL X0 hx (hb hby e11_1) (q := 2) rfl rfl rfl ?_
  refine cI X0 hx (hb hby e11_2) (q := 3) rfl (z := (0 : Int32)) rfl ?_
  refine aL X0 hx (hb hby e11_3) (q := 4) rfl rfl rfl ?_
  refine g_len X0 hx hZ0 P5 e0 (hb hby e11_4) (q := 5) rfl ?_
  refine cN X0 hx (hb hby e11_5) (q := 6) rfl ?_
  refine g_sp X0 hx hZ0 hown0 (wd12 hw) (wd13 hw) (wd15 hw) rfl (by decide) e0 (Con.back (W := 0) (rm_new4w2 l Z a0 hw zC vF G a1 a2 kc cs h0 O0 P1 P2 P3 P4 P5 Hl HW) hZ0 (wd15 hw) (wd8 hw) (by decide) (by decide)) (by rw [hml]; rfl) (lenOf pd12 rfl) rfl (Nat.le_of_eq rfl) (hb hby e11_6) (q := 9) rfl (by decide) (by decide) ?_
  intro v100 T100 L100 X100 Q100
  obtain ⟨t_100, kb_100, rfl, Nq100, K100q, q100_0, q100_1, q100_2, q100_3, q100_4⟩ := Q100
  have N100 := Fr.app N0 Nq100
  show Go _ _ _ _ (T100.setTop (mkF m 9 #[.val (.ref a1), .val (.ref a2)] []))
  have K101 : Keep h0 T100.heap [a1] := (Keep.refl h0 [a1]).trans K100q (allS (Or.inl (by simp)) all0)
  have gh102 : h0.size ≤ t_100 := Nat.le_trans (Nat.le_refl _) q100_0
  refine endP X100 hlk (fun _ => rfl) (lastV X100 hx hret (hb hby e11_9)) ?_ (by decide) (by decide)
  exact ⟨t_100, kb_100, rfl, N100, K101, gh102, q100_1, q100_2, q100_3, q100_4⟩
def Q_cfa34 (Z : State) (zC : Int32) (vF : Value) (a1 : Addr) (kb : ClassId) (vs : List Value) (h0 : Heap) (v : Option Value) (h : Heap) (L : List Loc) : Prop := v = some (iv 1) ∧ Fr Z.heap.size L ∧ h = h0
theorem rm_cfa34 (l : Launch) (Z : State) (a0 : Array Value) (hw : HW a0 Z) (zC : Int32) (vF : Value) (G : GB l a0 Z zC vF) (a1 : Addr) (kb : ClassId) (vs : List Value) (h0 : Heap) (O0 : Old Z Z.heap.size h0) (P1 : Arv Z h0 a1 kb .byte (68 : Int32) vs (.int 0)) :
    Con l Z (⟨"java/lang/StringUTF16", "coderFromArrayLen", "([BI)B"⟩ : MethodName) kC28 2 (some .byte) ({ frames := 0, cells := 0, slots := 0, locals := 0 } : Room) #[(.ref a1), (iv 34)] h0 (Q_cfa34 Z zC vF a1 kb vs h0) := by
  refine Con.intro (plainFor_of_name pn0) ?_
  intro p e s m below meth c T0 X0 hx hby hml hown0 hnm hret hlk hZ0 e0
  have N0 := Fr.nil Z.heap.size
  refine castGo (g' := mkF m 0 #[.val (.ref a1), .val (iv 34)] []) (by first | rfl | (simp [entryFrame, mkF, argsToLocals, Value.category]; done)) ?_
  show Go _ _ _ _ (T0.setTop (mkF m 0 #[.val (.ref a1), .val (iv 34)] []))
  refine iL X0 hx (hb hby e21_0) (q := 1) rfl rfl ?_
  refine aL X0 hx (hb hby e21_1) (q := 2) rfl rfl rfl ?_
  refine g_len X0 hx hZ0 P1 e0 (hb hby e21_2) (q := 3) rfl ?_
  refine g_isub X0 hx (hb hby e21_3) (q := 4) rfl (z := (-34 : Int32)) (by decide) ?_
  refine bI X0 hx (hb hby e21_4) (q := 6) rfl (z := (31 : Int32)) rfl ?_
  refine g_iushr X0 hx (hb hby e21_6) (q := 7) rfl (z := (1 : Int32)) (by decide) ?_
  refine g_i2b X0 hx (hb hby e21_7) (q := 8) rfl (z := (1 : Int32)) (by decide) ?_
  refine endP X0 hlk (fun h => by rw [hret] at h; cases h) (lastN X0 hx (t := .byte) (z' := (1 : Int32)) hret (by simp) (by decide) (hb hby e21_8)) ?_ (by decide) (by decide)
  rw [e0]
  exact ⟨rfl, N0, rfl⟩
def Q_new4w34 (Z : State) (zC : Int32) (vF : Value) (a1 : Addr) (a2 : Addr) (kc : ClassId) (cs : List Int32) (h0 : Heap) (v : Option Value) (h : Heap) (L : List Loc) : Prop := ∃ (t : Addr), ∃ (kb : ClassId), v = none ∧ Fr Z.heap.size L ∧ Keep h0 h [a1] ∧ h0.size ≤ t ∧ Exa Z h a1 sT1 ∧ Fld Z h a1 sT1 "value" "[B" (.ref t) ∧ Fld Z h a1 sT1 "coder" "B" (iv 1) ∧ Arv Z h t kb .byte (68 : Int32) (flat cs) (.int 0)
theorem rm_new4w34 (l : Launch) (Z : State) (a0 : Array Value) (hw : HW a0 Z) (zC : Int32) (vF : Value) (G : GB l a0 Z zC vF) (a1 : Addr) (a2 : Addr) (kc : ClassId) (cs : List Int32) (h0 : Heap) (O0 : Old Z Z.heap.size h0) (P1 : Exa Z h0 a1 sT1) (P2 : Fld Z h0 a1 sT1 "value" "[B" .null) (P3 : Fld Z h0 a1 sT1 "coder" "B" (iv 0)) (P4 : Z.heap.size ≤ a1) (P5 : Arv Z h0 a2 kc .char (34 : Int32) (cs.map Value.int) (.int 0)) (Hl : (cs.length = 34)) (HW : (WD cs)) :
    Con l Z (⟨sT1, "<init>", "([CIILjava/lang/Void;)V"⟩ : MethodName) kC0 6 none ({ frames := 4, cells := 2, slots := 102, locals := 57 } : Room) #[(.ref a1), (.ref a2), (iv 0), (iv 34), .null] h0 (Q_new4w34 Z zC vF a1 a2 kc cs h0) := by
  obtain ⟨hl, SC, PC, rF, SF, SA, SH, SL, hX⟩ := id G
  refine Con.intro (plainFor_of_name pn2) ?_
  intro p e s m below meth c T0 X0 hx hby hml hown0 hnm hret hlk hZ0 e0
  have N0 := Fr.nil Z.heap.size
  refine castGo (g' := mkF m 0 #[.val (.ref a1), .val (.ref a2), .val (iv 0), .val (iv 34), .val .null, .unset] []) (by first | rfl | (simp [entryFrame, mkF, argsToLocals, Value.category]; done)) ?_
  show Go _ _ _ _ (T0.setTop (mkF m 0 #[.val (.ref a1), .val (.ref a2), .val (iv 0), .val (iv 34), .val .null, .unset] []))
  refine aL X0 hx (hb hby e5_0) (q := 1) rfl rfl rfl ?_
  refine g_init0 X0 hx hZ0 hown0 (wd16 hw) (wd17 hw) (wd18 hw) (by rw [hml]; rfl) (by decide) (W := 0) (Nat.le_of_eq rfl) (by decide) e0 (hb hby e5_1) (q := 4) rfl ?_
  intro T103 X103 e103
  refine iL X103 hx (hb hby e5_4) (q := 5) rfl rfl ?_
  refine ifY X103 hx (hb hby e5_5) (q := 27) (by decide) (by decide) (by decide) ?_
  refine g_getS X103 hx hZ0 hown0 (host := "") (Or.inl (wd19 hw)) Via.refl (SC.ext O0.2) e103 (hb hby e5_27) (q := 30) rfl ?_
  intro T104 X104 e104
  refine ifN X104 hx (hb hby e5_30) (q := 33) rfl ((if0 _ _).trans (feq PC).1) ?_
  refine aL X104 hx (hb hby e5_33) (q := 34) rfl rfl rfl ?_
  refine iL X104 hx (hb hby e5_34) (q := 35) rfl rfl ?_
  refine iL X104 hx (hb hby e5_35) (q := 36) rfl rfl ?_
  refine g_st X104 hx hZ0 hown0 (wd20 hw) (wd21 hw) (wd22 hw) (wd23 hw) (by decide) e104 (Con.back (W := 0) (rm_cmp3 l Z a0 hw zC vF G a2 kc cs 34 h0 O0 P5 Hl (show 34 ≤ 34 from by omega) HW) hZ0 (wd23 hw) (wd22 hw) (by decide) (by decide)) (by rw [hml]; rfl) (lenOf pd9 rfl) rfl (Nat.le_of_eq rfl) (hb hby e5_36) (q := 39) rfl (by decide) (by decide) ?_
  intro v105 T105 L105 X105 Q105
  obtain ⟨a_105, kb_105, rfl, Nq105, K105q, q105_0, q105_1⟩ := Q105
  have N105 := Fr.app N0 Nq105
  show Go _ _ _ _ (T105.setTop (mkF m 39 #[.val (.ref a1), .val (.ref a2), .val (iv 0), .val (iv 34), .val .null, .unset] [(.ref a_105)]))
  refine sAw X105 hx (hb hby e5_39) (q := 41) rfl rfl (Ls' := #[.val (.ref a1), .val (.ref a2), .val (iv 0), .val (iv 34), .val .null, .val (.ref a_105)]) rfl ?_
  refine aL X105 hx (hb hby e5_41) (q := 42) rfl rfl rfl ?_
  refine aLw X105 hx (hb hby e5_42) (q := 44) rfl rfl rfl ?_
  refine iL X105 hx (hb hby e5_44) (q := 45) rfl rfl ?_
  have Vz : Arv Z T105.heap a_105 kb_105 .byte (68 : Int32) (flat cs) (.int 0) := q105_1
  have f107 := O0.keep K105q all0
  refine g_st X105 hx hZ0 hown0 (wd28 hw) (wd29 hw) (wd22 hw) (wd30 hw) (by decide) rfl (Con.back (W := 1) (rm_cfa34 l Z a0 hw zC vF G a_105 kb_105 (flat cs) T105.heap f107 Vz) hZ0 (wd30 hw) (wd22 hw) (by decide) (by decide)) (by rw [hml]; rfl) (lenOf pd11 rfl) rfl (Nat.le_of_eq rfl) (hb hby e5_45) (q := 48) rfl (by decide) (by decide) ?_
  intro v106 T106 L106 X106 Q106
  obtain ⟨rfl, Nq106, e106⟩ := Q106
  have N106 := Fr.app N105 Nq106
  show Go _ _ _ _ (T106.setTop (mkF m 48 #[.val (.ref a1), .val (.ref a2), .val (iv 0), .val (iv 34), .val .null, .val (.ref a_105)] [(iv 1), (.ref a1)]))
  have f108 := P3.keep K105q nin0
  have f109 := P1.keep K105q
  refine g_putF X106 hx hZ0 hown0 (host := "") (Or.inl (wd31 hw)) Via.refl f108 f109 (Or.inr ⟨(wd32 hw), rfl, hnm⟩) (wd7 hw) (ty := .byte) (by decide) rfl rfl e106 (hb hby e5_48) (q := 51) rfl ?_
  intro T110 h110 X110 e110 W110
  have N110 := Fr.snoc X110 N106 P4
  have Fw110 : Fld Z h110 a1 sT1 "coder" "B" (iv 1) := f108.same W110
  refine aL X110 hx (hb hby e5_51) (q := 52) rfl rfl rfl ?_
  refine aLw X110 hx (hb hby e5_52) (q := 54) rfl rfl rfl ?_
  have f111 := P2.keep K105q nin0
  have f112 := f111.other W110 (Or.inr (slot_ne (Or.inr (wd34 hw)) (Or.inr (wd32 hw)) (by decide) (t := (.array .byte)) (t' := .byte) (by decide) (by decide)))
  have f113 := f109.wr W110
  refine g_putF X110 hx hZ0 hown0 (host := "") (Or.inl (wd33 hw)) Via.refl f112 f113 (Or.inr ⟨(wd34 hw), rfl, hnm⟩) (wd7 hw) (ty := (.array .byte)) (by decide) rfl rfl e110 (hb hby e5_54) (q := 57) rfl ?_
  intro T114 h114 X114 e114 W114
  have N114 := Fr.snoc X114 N110 P4
  have Fw114 : Fld Z h114 a1 sT1 "value" "[B" (.ref a_105) := f112.same W114
  have K115 : Keep h0 T105.heap [a1] := (Keep.refl h0 [a1]).trans K105q all0
  have K116 : Keep h0 h110 [a1] := K115.wr W110 (Or.inl (by simp))
  have K117 : Keep h0 h114 [a1] := K116.wr W114 (Or.inl (by simp))
  have gh118 : h0.size ≤ a_105 := Nat.le_trans (Nat.le_refl _) q105_0
  have f119 := f113.wr W114
  have f120 := Fw110.other W114 (Or.inr (slot_ne (Or.inr (wd32 hw)) (Or.inr (wd34 hw)) (by decide) (t := .byte) (t' := (.array .byte)) (by decide) (by decide)))
  have ne121 : a_105 ≠ a1 := (Nat.ne_of_gt (Nat.lt_of_lt_of_le (Nat.lt_of_lt_of_le P1.lt (Nat.le_refl _)) q105_0))
  have f122 := Vz.other W110 ne121
  have f123 := f122.other W114 ne121
  refine endP X114 hlk (fun _ => rfl) (lastV X114 hx hret (hb hby e5_57)) ?_ (by decide) (by decide)
  rw [e114]
  exact ⟨a_105, kb_105, rfl, N114, K117, gh118, f119, Fw114, f120, f123⟩
def Q_new1w34 (Z : State) (zC : Int32) (vF : Value) (a1 : Addr) (a2 : Addr) (kc : ClassId) (cs : List Int32) (h0 : Heap) (v : Option Value) (h : Heap) (L : List Loc) : Prop := ∃ (t : Addr), ∃ (kb : ClassId), v = none ∧ Fr Z.heap.size L ∧ Keep h0 h [a1] ∧ h0.size ≤ t ∧ Exa Z h a1 sT1 ∧ Fld Z h a1 sT1 "value" "[B" (.ref t) ∧ Fld Z h a1 sT1 "coder" "B" (iv 1) ∧ Arv Z h t kb .byte (68 : Int32) (flat cs) (.int 0)
theorem rm_new1w34 (l : Launch) (Z : State) (a0 : Array Value) (hw : HW a0 Z) (zC : Int32) (vF : Value) (G : GB l a0 Z zC vF) (a1 : Addr) (a2 : Addr) (kc : ClassId) (cs : List Int32) (h0 : Heap) (O0 : Old Z Z.heap.size h0) (P1 : Exa Z h0 a1 sT1) (P2 : Fld Z h0 a1 sT1 "value" "[B" .null) (P3 : Fld Z h0 a1 sT1 "coder" "B" (iv 0)) (P4 : Z.heap.size ≤ a1) (P5 : Arv Z h0 a2 kc .char (34 : Int32) (cs.map Value.int) (.int 0)) (Hl : (cs.length = 34)) (HW : (WD cs)) :
    Con l Z (⟨sT1, "<init>", "([C)V"⟩ : MethodName) kC52 2 none ({ frames := 5, cells := 2, slots := 102, locals := 74 } : Room) #[(.ref a1), (.ref a2)] h0 (Q_new1w34 Z zC vF a1 a2 kc cs h0) := by
  refine Con.intro (plainFor_of_name pn2) ?_
  intro p e s m below meth c T0 X0 hx hby hml hown0 hnm hret hlk hZ0 e0
  have N0 := Fr.nil Z.heap.size
  refine castGo (g' := mkF m 0 #[.val (.ref a1), .val (.ref a2)] []) (by first | rfl | (simp [entryFrame, mkF, argsToLocals, Value.category]; done)) ?_
  show Go _ _ _ _ (T0.setTop (mkF m 0 #[.val (.ref a1), .val (.ref a2)] []))
  refine aL X0 hx (hb hby e11_0) (q := 1) rfl rfl rfl ?_
  refine aL X0 hx (hb hby e11_1) (q := 2) rfl rfl rfl ?_
  refine cI X0 hx (hb hby e11_2) (q := 3) rfl (z := (0 : Int32)) rfl ?_
  refine aL X0 hx (hb hby e11_3) (q := 4) rfl rfl rfl ?_
  refine g_len X0 hx hZ0 P5 e0 (hb hby e11_4) (q := 5) rfl ?_
  refine cN X0 hx (hb hby e11_5) (q := 6) rfl ?_
  refine g_sp X0 hx hZ0 hown0 (wd12 hw) (wd13 hw) (wd15 hw) rfl (by decide) e0 (Con.back (W := 0) (rm_new4w34 l Z a0 hw zC vF G a1 a2 kc cs h0 O0 P1 P2 P3 P4 P5 Hl HW) hZ0 (wd15 hw) (wd8 hw) (by decide) (by decide)) (by rw [hml]; rfl) (lenOf pd12 rfl) rfl (Nat.le_of_eq rfl) (hb hby e11_6) (q := 9) rfl (by decide) (by decide) ?_
  intro v124 T124 L124 X124 Q124
  obtain ⟨t_124, kb_124, rfl, Nq124, K124q, q124_0, q124_1, q124_2, q124_3, q124_4⟩ := Q124
  have N124 := Fr.app N0 Nq124
  show Go _ _ _ _ (T124.setTop (mkF m 9 #[.val (.ref a1), .val (.ref a2)] []))
  have K125 : Keep h0 T124.heap [a1] := (Keep.refl h0 [a1]).trans K124q (allS (Or.inl (by simp)) all0)
  have gh126 : h0.size ≤ t_124 := Nat.le_trans (Nat.le_refl _) q124_0
  refine endP X124 hlk (fun _ => rfl) (lastV X124 hx hret (hb hby e11_9)) ?_ (by decide) (by decide)
  exact ⟨t_124, kb_124, rfl, N124, K125, gh126, q124_1, q124_2, q124_3, q124_4⟩
theorem e7_0 : decode kC6 0 = .ok (.getstatic 38, 3) := by decide +kernel
theorem e7_3 : decode kC6 3 = .ok (.ifCond .eq 10, 3) := by decide +kernel
theorem e7_6 : decode kC6 6 = .ok (.aload_n 0, 1) := by decide +kernel
theorem e7_7 : decode kC6 7 = .ok (.getfield 15, 3) := by decide +kernel
theorem e7_10 : decode kC6 10 = .ok (.goto 4, 3) := by decide +kernel
theorem e7_14 : decode kC6 14 = .ok (.ireturn, 1) := by decide +kernel
def Q_coder0 (Z : State) (zC : Int32) (vF : Value) (a1 : Addr) (h0 : Heap) (v : Option Value) (h : Heap) (L : List Loc) : Prop := v = some (iv 0) ∧ Fr Z.heap.size L ∧ h = h0
theorem rm_coder0 (l : Launch) (Z : State) (a0 : Array Value) (hw : HW a0 Z) (zC : Int32) (vF : Value) (G : GB l a0 Z zC vF) (a1 : Addr) (h0 : Heap) (O0 : Old Z Z.heap.size h0) (P1 : Fld Z h0 a1 sT1 "coder" "B" (iv 0)) :
    Con l Z (⟨sT1, "coder", "()B"⟩ : MethodName) kC6 1 (some .byte) ({ frames := 0, cells := 0, slots := 0, locals := 0 } : Room) #[(.ref a1)] h0 (Q_coder0 Z zC vF a1 h0) := by
  obtain ⟨hl, SC, PC, rF, SF, SA, SH, SL, hX⟩ := id G
  refine Con.intro (plainFor_of_name pn2) ?_
  intro p e s m below meth c T0 X0 hx hby hml hown0 hnm hret hlk hZ0 e0
  have N0 := Fr.nil Z.heap.size
  refine castGo (g' := mkF m 0 #[.val (.ref a1)] []) (by first | rfl | (simp [entryFrame, mkF, argsToLocals, Value.category]; done)) ?_
  show Go _ _ _ _ (T0.setTop (mkF m 0 #[.val (.ref a1)] []))
  refine g_getS X0 hx hZ0 hown0 (host := "") (Or.inl (wd19 hw)) Via.refl (SC.ext O0.2) e0 (hb hby e7_0) (q := 3) rfl ?_
  intro T127 X127 e127
  refine ifN X127 hx (hb hby e7_3) (q := 6) rfl ((if0 _ _).trans (feq PC).1) ?_
  refine aL X127 hx (hb hby e7_6) (q := 7) rfl rfl rfl ?_
  refine g_getF X127 hx hZ0 hown0 (host := "") (Or.inl (wd31 hw)) Via.refl P1 e127 (hb hby e7_7) (q := 10) rfl ?_
  intro T128 X128 e128
  refine g_goto X128 hx (hb hby e7_10) (q := 14) (by decide) (by decide) ?_
  refine endP X128 hlk (fun h => by rw [hret] at h; cases h) (lastN X128 hx (t := .byte) (z' := (0 : Int32)) hret (by simp) (by decide) (hb hby e7_14)) ?_ (by decide) (by decide)
  rw [e128]
  exact ⟨rfl, N0, rfl⟩
theorem e8_0 : decode kC1 0 = .ok (.getstatic 38, 3) := by decide +kernel
theorem e8_3 : decode kC1 3 = .ok (.ifCond .eq 14, 3) := by decide +kernel
theorem e8_6 : decode kC1 6 = .ok (.aload_n 0, 1) := by decide +kernel
theorem e8_7 : decode kC1 7 = .ok (.getfield 15, 3) := by decide +kernel
theorem e8_10 : decode kC1 10 = .ok (.ifCond .ne 7, 3) := by decide +kernel
theorem e8_13 : decode kC1 13 = .ok (.iconst 1, 1) := by decide +kernel
theorem e8_14 : decode kC1 14 = .ok (.goto 4, 3) := by decide +kernel
theorem e8_18 : decode kC1 18 = .ok (.ireturn, 1) := by decide +kernel
def Q_isl0 (Z : State) (zC : Int32) (vF : Value) (a1 : Addr) (h0 : Heap) (v : Option Value) (h : Heap) (L : List Loc) : Prop := v = some (iv 1) ∧ Fr Z.heap.size L ∧ h = h0
theorem rm_isl0 (l : Launch) (Z : State) (a0 : Array Value) (hw : HW a0 Z) (zC : Int32) (vF : Value) (G : GB l a0 Z zC vF) (a1 : Addr) (h0 : Heap) (O0 : Old Z Z.heap.size h0) (P1 : Fld Z h0 a1 sT1 "coder" "B" (iv 0)) :
    Con l Z (⟨sT1, "isLatin1", "()Z"⟩ : MethodName) kC1 1 (some .boolean) ({ frames := 0, cells := 0, slots := 0, locals := 0 } : Room) #[(.ref a1)] h0 (Q_isl0 Z zC vF a1 h0) := by
  obtain ⟨hl, SC, PC, rF, SF, SA, SH, SL, hX⟩ := id G
  refine Con.intro (plainFor_of_name pn2) ?_
  intro p e s m below meth c T0 X0 hx hby hml hown0 hnm hret hlk hZ0 e0
  have N0 := Fr.nil Z.heap.size
  refine castGo (g' := mkF m 0 #[.val (.ref a1)] []) (by first | rfl | (simp [entryFrame, mkF, argsToLocals, Value.category]; done)) ?_
  show Go _ _ _ _ (T0.setTop (mkF m 0 #[.val (.ref a1)] []))
  refine g_getS X0 hx hZ0 hown0 (host := "") (Or.inl (wd19 hw)) Via.refl (SC.ext O0.2) e0 (hb hby e8_0) (q := 3) rfl ?_
  intro T129 X129 e129
  refine ifN X129 hx (hb hby e8_3) (q := 6) rfl ((if0 _ _).trans (feq PC).1) ?_
  refine aL X129 hx (hb hby e8_6) (q := 7) rfl rfl rfl ?_
  refine g_getF X129 hx hZ0 hown0 (host := "") (Or.inl (wd31 hw)) Via.refl P1 e129 (hb hby e8_7) (q := 10) rfl ?_
  intro T130 X130 e130
  refine ifN X130 hx (hb hby e8_10) (q := 13) rfl (by decide) ?_
  refine cI X130 hx (hb hby e8_13) (q := 14) rfl (z := (1 : Int32)) rfl ?_
  refine g_goto X130 hx (hb hby e8_14) (q := 18) (by decide) (by decide) ?_
  refine endP X130 hlk (fun h => by rw [hret] at h; cases h) (lastN X130 hx (t := .boolean) (z' := (1 : Int32)) hret (by simp) (by decide) (hb hby e8_18)) ?_ (by decide) (by decide)
  rw [e130]
  exact ⟨rfl, N0, rfl⟩
theorem e46_0 : decode kC12 0 = .ok (.getstatic 18, 3) := by decide +kernel
theorem wd55 (hw : HW a0 Z) : BW a0 Z (.fieldLink sT0 (18 : Nat) sT1 "COMPACT_STRINGS" "Z") := wat hw 55 rfl
theorem e46_3 : decode kC12 3 = .ok (.ifCond .eq 14, 3) := by decide +kernel
theorem e46_6 : decode kC12 6 = .ok (.aload_n 0, 1) := by decide +kernel
theorem e46_7 : decode kC12 7 = .ok (.getfield 22, 3) := by decide +kernel
theorem wd58 (hw : HW a0 Z) : BW a0 Z (.fieldLink sT0 (22 : Nat) sT0 "coder" "B") := wat hw 58 rfl
theorem e46_10 : decode kC12 10 = .ok (.ifCond .ne 7, 3) := by decide +kernel
theorem e46_13 : decode kC12 13 = .ok (.iconst 1, 1) := by decide +kernel
theorem e46_14 : decode kC12 14 = .ok (.goto 4, 3) := by decide +kernel
theorem e46_18 : decode kC12 18 = .ok (.ireturn, 1) := by decide +kernel
def Q_isa0 (Z : State) (zC : Int32) (vF : Value) (a1 : Addr) (h0 : Heap) (v : Option Value) (h : Heap) (L : List Loc) : Prop := v = some (iv 1) ∧ Fr Z.heap.size L ∧ h = h0
theorem pn4 : plainName "java/lang/AbstractStringBuilder" = true := by first | (simp [plainName, overriddenIn]; done) | decide +kernel
theorem rm_isa0 (l : Launch) (Z : State) (a0 : Array Value) (hw : HW a0 Z) (zC : Int32) (vF : Value) (G : GB l a0 Z zC vF) (a1 : Addr) (h0 : Heap) (O0 : Old Z Z.heap.size h0) (P1 : Fld Z h0 a1 sT0 "coder" "B" (iv 0)) :
    Con l Z (⟨sT0, "isLatin1", "()Z"⟩ : MethodName) kC12 1 (some .boolean) ({ frames := 0, cells := 0, slots := 0, locals := 0 } : Room) #[(.ref a1)] h0 (Q_isa0 Z zC vF a1 h0) := by
  obtain ⟨hl, SC, PC, rF, SF, SA, SH, SL, hX⟩ := id G
  refine Con.intro (plainFor_of_name pn4) ?_
  intro p e s m below meth c T0 X0 hx hby hml hown0 hnm hret hlk hZ0 e0
  have N0 := Fr.nil Z.heap.size
  refine castGo (g' := mkF m 0 #[.val (.ref a1)] []) (by first | rfl | (simp [entryFrame, mkF, argsToLocals, Value.category]; done)) ?_
  show Go _ _ _ _ (T0.setTop (mkF m 0 #[.val (.ref a1)] []))
  refine g_getS X0 hx hZ0 hown0 (host := "") (Or.inl (wd55 hw)) Via.refl (SC.ext O0.2) e0 (hb hby e46_0) (q := 3) rfl ?_
  intro T131 X131 e131
  refine ifN X131 hx (hb hby e46_3) (q := 6) rfl ((if0 _ _).trans (feq PC).1) ?_
  refine aL X131 hx (hb hby e46_6) (q := 7) rfl rfl rfl ?_
  refine g_getF X131 hx hZ0 hown0 (host := "") (Or.inl (wd58 hw)) Via.refl P1 e131 (hb hby e46_7) (q := 10) rfl ?_
  intro T132 X132 e132
  refine ifN X132 hx (hb hby e46_10) (q := 13) rfl (by decide) ?_
  refine cI X132 hx (hb hby e46_13) (q := 14) rfl (z := (1 : Int32)) rfl ?_
  refine g_goto X132 hx (hb hby e46_14) (q := 18) (by decide) (by decide) ?_
  refine endP X132 hlk (fun h => by rw [hret] at h; cases h) (lastN X132 hx (t := .boolean) (z' := (1 : Int32)) hret (by simp) (by decide) (hb hby e46_18)) ?_ (by decide) (by decide)
  rw [e132]
  exact ⟨rfl, N0, rfl⟩
def Q_coder1 (Z : State) (zC : Int32) (vF : Value) (a1 : Addr) (h0 : Heap) (v : Option Value) (h : Heap) (L : List Loc) : Prop := v = some (iv 1) ∧ Fr Z.heap.size L ∧ h = h0
theorem rm_coder1 (l : Launch) (Z : State) (a0 : Array Value) (hw : HW a0 Z) (zC : Int32) (vF : Value) (G : GB l a0 Z zC vF) (a1 : Addr) (h0 : Heap) (O0 : Old Z Z.heap.size h0) (P1 : Fld Z h0 a1 sT1 "coder" "B" (iv 1)) :
    Con l Z (⟨sT1, "coder", "()B"⟩ : MethodName) kC6 1 (some .byte) ({ frames := 0, cells := 0, slots := 0, locals := 0 } : Room) #[(.ref a1)] h0 (Q_coder1 Z zC vF a1 h0) := by
  obtain ⟨hl, SC, PC, rF, SF, SA, SH, SL, hX⟩ := id G
  refine Con.intro (plainFor_of_name pn2) ?_
  intro p e s m below meth c T0 X0 hx hby hml hown0 hnm hret hlk hZ0 e0
  have N0 := Fr.nil Z.heap.size
  refine castGo (g' := mkF m 0 #[.val (.ref a1)] []) (by first | rfl | (simp [entryFrame, mkF, argsToLocals, Value.category]; done)) ?_
  show Go _ _ _ _ (T0.setTop (mkF m 0 #[.val (.ref a1)] []))
  refine g_getS X0 hx hZ0 hown0 (host := "") (Or.inl (wd19 hw)) Via.refl (SC.ext O0.2) e0 (hb hby e7_0) (q := 3) rfl ?_
  intro T133 X133 e133
  refine ifN X133 hx (hb hby e7_3) (q := 6) rfl ((if0 _ _).trans (feq PC).1) ?_
  refine aL X133 hx (hb hby e7_6) (q := 7) rfl rfl rfl ?_
  refine g_getF X133 hx hZ0 hown0 (host := "") (Or.inl (wd31 hw)) Via.refl P1 e133 (hb hby e7_7) (q := 10) rfl ?_
  intro T134 X134 e134
  refine g_goto X134 hx (hb hby e7_10) (q := 14) (by decide) (by decide) ?_
  refine endP X134 hlk (fun h => by rw [hret] at h; cases h) (lastN X134 hx (t := .byte) (z' := (1 : Int32)) hret (by simp) (by decide) (hb hby e7_14)) ?_ (by decide) (by decide)
  rw [e134]
  exact ⟨rfl, N0, rfl⟩
theorem e8_17 : decode kC1 17 = .ok (.iconst 0, 1) := by decide +kernel
def Q_isl1 (Z : State) (zC : Int32) (vF : Value) (a1 : Addr) (h0 : Heap) (v : Option Value) (h : Heap) (L : List Loc) : Prop := v = some (iv 0) ∧ Fr Z.heap.size L ∧ h = h0
theorem rm_isl1 (l : Launch) (Z : State) (a0 : Array Value) (hw : HW a0 Z) (zC : Int32) (vF : Value) (G : GB l a0 Z zC vF) (a1 : Addr) (h0 : Heap) (O0 : Old Z Z.heap.size h0) (P1 : Fld Z h0 a1 sT1 "coder" "B" (iv 1)) :
    Con l Z (⟨sT1, "isLatin1", "()Z"⟩ : MethodName) kC1 1 (some .boolean) ({ frames := 0, cells := 0, slots := 0, locals := 0 } : Room) #[(.ref a1)] h0 (Q_isl1 Z zC vF a1 h0) := by
  obtain ⟨hl, SC, PC, rF, SF, SA, SH, SL, hX⟩ := id G
  refine Con.intro (plainFor_of_name pn2) ?_
  intro p e s m below meth c T0 X0 hx hby hml hown0 hnm hret hlk hZ0 e0
  have N0 := Fr.nil Z.heap.size
  refine castGo (g' := mkF m 0 #[.val (.ref a1)] []) (by first | rfl | (simp [entryFrame, mkF, argsToLocals, Value.category]; done)) ?_
  show Go _ _ _ _ (T0.setTop (mkF m 0 #[.val (.ref a1)] []))
  refine g_getS X0 hx hZ0 hown0 (host := "") (Or.inl (wd19 hw)) Via.refl (SC.ext O0.2) e0 (hb hby e8_0) (q := 3) rfl ?_
  intro T135 X135 e135
  refine ifN X135 hx (hb hby e8_3) (q := 6) rfl ((if0 _ _).trans (feq PC).1) ?_
  refine aL X135 hx (hb hby e8_6) (q := 7) rfl rfl rfl ?_
  refine g_getF X135 hx hZ0 hown0 (host := "") (Or.inl (wd31 hw)) Via.refl P1 e135 (hb hby e8_7) (q := 10) rfl ?_
  intro T136 X136 e136
  refine ifY X136 hx (hb hby e8_10) (q := 17) (by decide) (by decide) (by decide) ?_
  refine cI X136 hx (hb hby e8_17) (q := 18) rfl (z := (0 : Int32)) rfl ?_
  refine endP X136 hlk (fun h => by rw [hret] at h; cases h) (lastN X136 hx (t := .boolean) (z' := (0 : Int32)) hret (by simp) (by decide) (hb hby e8_18)) ?_ (by decide) (by decide)
  rw [e136]
  exact ⟨rfl, N0, rfl⟩
theorem e46_17 : decode kC12 17 = .ok (.iconst 0, 1) := by decide +kernel
def Q_isa1 (Z : State) (zC : Int32) (vF : Value) (a1 : Addr) (h0 : Heap) (v : Option Value) (h : Heap) (L : List Loc) : Prop := v = some (iv 0) ∧ Fr Z.heap.size L ∧ h = h0
theorem rm_isa1 (l : Launch) (Z : State) (a0 : Array Value) (hw : HW a0 Z) (zC : Int32) (vF : Value) (G : GB l a0 Z zC vF) (a1 : Addr) (h0 : Heap) (O0 : Old Z Z.heap.size h0) (P1 : Fld Z h0 a1 sT0 "coder" "B" (iv 1)) :
    Con l Z (⟨sT0, "isLatin1", "()Z"⟩ : MethodName) kC12 1 (some .boolean) ({ frames := 0, cells := 0, slots := 0, locals := 0 } : Room) #[(.ref a1)] h0 (Q_isa1 Z zC vF a1 h0) := by
  obtain ⟨hl, SC, PC, rF, SF, SA, SH, SL, hX⟩ := id G
  refine Con.intro (plainFor_of_name pn4) ?_
  intro p e s m below meth c T0 X0 hx hby hml hown0 hnm hret hlk hZ0 e0
  have N0 := Fr.nil Z.heap.size
  refine castGo (g' := mkF m 0 #[.val (.ref a1)] []) (by first | rfl | (simp [entryFrame, mkF, argsToLocals, Value.category]; done)) ?_
  show Go _ _ _ _ (T0.setTop (mkF m 0 #[.val (.ref a1)] []))
  refine g_getS X0 hx hZ0 hown0 (host := "") (Or.inl (wd55 hw)) Via.refl (SC.ext O0.2) e0 (hb hby e46_0) (q := 3) rfl ?_
  intro T137 X137 e137
  refine ifN X137 hx (hb hby e46_3) (q := 6) rfl ((if0 _ _).trans (feq PC).1) ?_
  refine aL X137 hx (hb hby e46_6) (q := 7) rfl rfl rfl ?_
  refine g_getF X137 hx hZ0 hown0 (host := "") (Or.inl (wd58 hw)) Via.refl P1 e137 (hb hby e46_7) (q := 10) rfl ?_
  intro T138 X138 e138
  refine ifY X138 hx (hb hby e46_10) (q := 17) (by decide) (by decide) (by decide) ?_
  refine cI X138 hx (hb hby e46_17) (q := 18) rfl (z := (0 : Int32)) rfl ?_
  refine endP X138 hlk (fun h => by rw [hret] at h; cases h) (lastN X138 hx (t := .boolean) (z' := (0 : Int32)) hret (by simp) (by decide) (hb hby e46_18)) ?_ (by decide) (by decide)
  rw [e138]
  exact ⟨rfl, N0, rfl⟩
theorem e13_0 : decode kC30 0 = .ok (.aload_n 0, 1) := by decide +kernel
theorem e13_1 : decode kC30 1 = .ok (.getfield 9, 3) := by decide +kernel
theorem e13_4 : decode kC30 4 = .ok (.arraylength, 1) := by decide +kernel
theorem e13_5 : decode kC30 5 = .ok (.aload_n 0, 1) := by decide +kernel
theorem e13_6 : decode kC30 6 = .ok (.invokevirtual 335, 3) := by decide +kernel
theorem wd79 (hw : HW a0 Z) : BW a0 Z (.code ⟨sT1, "coder", "()B"⟩ kC6 (1 : Nat) (Option.some Jvm.ClassFile.FieldType.byte)) := wat hw 79 rfl
theorem pd13 : parseMethodDescriptor "()B" = some ⟨[], some .byte⟩ := by decide +kernel
theorem wd78 (hw : HW a0 Z) : BW a0 Z (.selects sT1 ⟨sT1, "coder", "()B"⟩ ⟨sT1, "coder", "()B"⟩) := wat hw 78 rfl
theorem wd75 (hw : HW a0 Z) : BW a0 Z (.methodLink sT1 (335 : Nat) ⟨sT1, "coder", "()B"⟩) := wat hw 75 rfl
theorem wd76 (hw : HW a0 Z) : BW a0 Z (.declares ⟨sT1, "coder", "()B"⟩) := wat hw 76 rfl
theorem wd77 (hw : HW a0 Z) : BW a0 Z (.instanceMethod ⟨sT1, "coder", "()B"⟩) := wat hw 77 rfl
theorem e13_9 : decode kC30 9 = .ok (.ishr, 1) := by decide +kernel
theorem e13_10 : decode kC30 10 = .ok (.ireturn, 1) := by decide +kernel
def Q_len2_0 (Z : State) (zC : Int32) (vF : Value) (a2 : Addr) (t : Addr) (kt : ClassId) (us : List Value) (h0 : Heap) (v : Option Value) (h : Heap) (L : List Loc) : Prop := v = some (iv 2) ∧ Fr Z.heap.size L ∧ h = h0
theorem rm_len2_0 (l : Launch) (Z : State) (a0 : Array Value) (hw : HW a0 Z) (zC : Int32) (vF : Value) (G : GB l a0 Z zC vF) (a2 : Addr) (t : Addr) (kt : ClassId) (us : List Value) (h0 : Heap) (O0 : Old Z Z.heap.size h0) (Pe : Exa Z h0 a2 sT1) (Pc : Fld Z h0 a2 sT1 "coder" "B" (iv 0)) (Pv : Fld Z h0 a2 sT1 "value" "[B" (.ref t)) (Pa : Arv Z h0 t kt .byte (2 : Int32) us (.int 0)) :
    Con l Z (⟨sT1, "length", "()I"⟩ : MethodName) kC30 1 (some .int) ({ frames := 1, cells := 0, slots := 0, locals := 13 } : Room) #[(.ref a2)] h0 (Q_len2_0 Z zC vF a2 t kt us h0) := by
  refine Con.intro (plainFor_of_name pn2) ?_
  intro p e s m below meth c T0 X0 hx hby hml hown0 hnm hret hlk hZ0 e0
  have N0 := Fr.nil Z.heap.size
  refine castGo (g' := mkF m 0 #[.val (.ref a2)] []) (by first | rfl | (simp [entryFrame, mkF, argsToLocals, Value.category]; done)) ?_
  show Go _ _ _ _ (T0.setTop (mkF m 0 #[.val (.ref a2)] []))
  refine aL X0 hx (hb hby e13_0) (q := 1) rfl rfl rfl ?_
  refine g_getF X0 hx hZ0 hown0 (host := "") (Or.inl (wd33 hw)) Via.refl Pv e0 (hb hby e13_1) (q := 4) rfl ?_
  intro T139 X139 e139
  refine g_len X139 hx hZ0 Pa e139 (hb hby e13_4) (q := 5) rfl ?_
  refine aL X139 hx (hb hby e13_5) (q := 6) rfl rfl rfl ?_
  refine g_vi X139 hx hZ0 hown0 (wd75 hw) (wd76 hw) (notFace_of_selects (args := #[]) (mvT hZ0 (wd78 hw))) (wd78 hw) (wd77 hw) (by decide) Pe e139 (Con.back (W := 1) (rm_coder0 l Z a0 hw zC vF G a2 h0 O0 Pc) hZ0 (wd79 hw) (wd8 hw) (by decide) (by decide)) (by rw [hml]; rfl) (lenOf pd13 rfl) rfl (Nat.le_of_eq rfl) (hb hby e13_6) (q := 9) rfl (by decide) (by decide) ?_
  intro v140 T140 L140 X140 Q140
  obtain ⟨rfl, Nq140, e140⟩ := Q140
  have N140 := Fr.app N0 Nq140
  show Go _ _ _ _ (T140.setTop (mkF m 9 #[.val (.ref a2)] [(iv 0), (iv 2)]))
  refine g_ishr X140 hx (hb hby e13_9) (q := 10) rfl (z := (2 : Int32)) (by decide) ?_
  refine endP X140 hlk (fun h => by rw [hret] at h; cases h) (lastI X140 hx hret (hb hby e13_10)) ?_ (by decide) (by decide)
  rw [e140]
  exact ⟨rfl, N140, rfl⟩
def Q_len16_0 (Z : State) (zC : Int32) (vF : Value) (a2 : Addr) (t : Addr) (kt : ClassId) (us : List Value) (h0 : Heap) (v : Option Value) (h : Heap) (L : List Loc) : Prop := v = some (iv 16) ∧ Fr Z.heap.size L ∧ h = h0
theorem rm_len16_0 (l : Launch) (Z : State) (a0 : Array Value) (hw : HW a0 Z) (zC : Int32) (vF : Value) (G : GB l a0 Z zC vF) (a2 : Addr) (t : Addr) (kt : ClassId) (us : List Value) (h0 : Heap) (O0 : Old Z Z.heap.size h0) (Pe : Exa Z h0 a2 sT1) (Pc : Fld Z h0 a2 sT1 "coder" "B" (iv 0)) (Pv : Fld Z h0 a2 sT1 "value" "[B" (.ref t)) (Pa : Arv Z h0 t kt .byte (16 : Int32) us (.int 0)) :
    Con l Z (⟨sT1, "length", "()I"⟩ : MethodName) kC30 1 (some .int) ({ frames := 1, cells := 0, slots := 0, locals := 13 } : Room) #[(.ref a2)] h0 (Q_len16_0 Z zC vF a2 t kt us h0) := by
  refine Con.intro (plainFor_of_name pn2) ?_
  intro p e s m below meth c T0 X0 hx hby hml hown0 hnm hret hlk hZ0 e0
  have N0 := Fr.nil Z.heap.size
  refine castGo (g' := mkF m 0 #[.val (.ref a2)] []) (by first | rfl | (simp [entryFrame, mkF, argsToLocals, Value.category]; done)) ?_
  show Go _ _ _ _ (T0.setTop (mkF m 0 #[.val (.ref a2)] []))
  refine aL X0 hx (hb hby e13_0) (q := 1) rfl rfl rfl ?_
  refine g_getF X0 hx hZ0 hown0 (host := "") (Or.inl (wd33 hw)) Via.refl Pv e0 (hb hby e13_1) (q := 4) rfl ?_
  intro T141 X141 e141
  refine g_len X141 hx hZ0 Pa e141 (hb hby e13_4) (q := 5) rfl ?_
  refine aL X141 hx (hb hby e13_5) (q := 6) rfl rfl rfl ?_
  refine g_vi X141 hx hZ0 hown0 (wd75 hw) (wd76 hw) (notFace_of_selects (args := #[]) (mvT hZ0 (wd78 hw))) (wd78 hw) (wd77 hw) (by decide) Pe e141 (Con.back (W := 1) (rm_coder0 l Z a0 hw zC vF G a2 h0 O0 Pc) hZ0 (wd79 hw) (wd8 hw) (by decide) (by decide)) (by rw [hml]; rfl) (lenOf pd13 rfl) rfl (Nat.le_of_eq rfl) (hb hby e13_6) (q := 9) rfl (by decide) (by decide) ?_
  intro v142 T142 L142 X142 Q142
  obtain ⟨rfl, Nq142, e142⟩ := Q142
  have N142 := Fr.app N0 Nq142
  show Go _ _ _ _ (T142.setTop (mkF m 9 #[.val (.ref a2)] [(iv 0), (iv 16)]))
  refine g_ishr X142 hx (hb hby e13_9) (q := 10) rfl (z := (16 : Int32)) (by decide) ?_
  refine endP X142 hlk (fun h => by rw [hret] at h; cases h) (lastI X142 hx hret (hb hby e13_10)) ?_ (by decide) (by decide)
  rw [e142]
  exact ⟨rfl, N142, rfl⟩
def Q_len12_0 (Z : State) (zC : Int32) (vF : Value) (a2 : Addr) (t : Addr) (kt : ClassId) (us : List Value) (h0 : Heap) (v : Option Value) (h : Heap) (L : List Loc) : Prop := v = some (iv 12) ∧ Fr Z.heap.size L ∧ h = h0
theorem rm_len12_0 (l : Launch) (Z : State) (a0 : Array Value) (hw : HW a0 Z) (zC : Int32) (vF : Value) (G : GB l a0 Z zC vF) (a2 : Addr) (t : Addr) (kt : ClassId) (us : List Value) (h0 : Heap) (O0 : Old Z Z.heap.size h0) (Pe : Exa Z h0 a2 sT1) (Pc : Fld Z h0 a2 sT1 "coder" "B" (iv 0)) (Pv : Fld Z h0 a2 sT1 "value" "[B" (.ref t)) (Pa : Arv Z h0 t kt .byte (12 : Int32) us (.int 0)) :
    Con l Z (⟨sT1, "length", "()I"⟩ : MethodName) kC30 1 (some .int) ({ frames := 1, cells := 0, slots := 0, locals := 13 } : Room) #[(.ref a2)] h0 (Q_len12_0 Z zC vF a2 t kt us h0) := by
  refine Con.intro (plainFor_of_name pn2) ?_
  intro p e s m below meth c T0 X0 hx hby hml hown0 hnm hret hlk hZ0 e0
  have N0 := Fr.nil Z.heap.size
  refine castGo (g' := mkF m 0 #[.val (.ref a2)] []) (by first | rfl | (simp [entryFrame, mkF, argsToLocals, Value.category]; done)) ?_
  show Go _ _ _ _ (T0.setTop (mkF m 0 #[.val (.ref a2)] []))
  refine aL X0 hx (hb hby e13_0) (q := 1) rfl rfl rfl ?_
  refine g_getF X0 hx hZ0 hown0 (host := "") (Or.inl (wd33 hw)) Via.refl Pv e0 (hb hby e13_1) (q := 4) rfl ?_
  intro T143 X143 e143
  refine g_len X143 hx hZ0 Pa e143 (hb hby e13_4) (q := 5) rfl ?_
  refine aL X143 hx (hb hby e13_5) (q := 6) rfl rfl rfl ?_
  refine g_vi X143 hx hZ0 hown0 (wd75 hw) (wd76 hw) (notFace_of_selects (args := #[]) (mvT hZ0 (wd78 hw))) (wd78 hw) (wd77 hw) (by decide) Pe e143 (Con.back (W := 1) (rm_coder0 l Z a0 hw zC vF G a2 h0 O0 Pc) hZ0 (wd79 hw) (wd8 hw) (by decide) (by decide)) (by rw [hml]; rfl) (lenOf pd13 rfl) rfl (Nat.le_of_eq rfl) (hb hby e13_6) (q := 9) rfl (by decide) (by decide) ?_
  intro v144 T144 L144 X144 Q144
  obtain ⟨rfl, Nq144, e144⟩ := Q144
  have N144 := Fr.app N0 Nq144
  show Go _ _ _ _ (T144.setTop (mkF m 9 #[.val (.ref a2)] [(iv 0), (iv 12)]))
  refine g_ishr X144 hx (hb hby e13_9) (q := 10) rfl (z := (12 : Int32)) (by decide) ?_
  refine endP X144 hlk (fun h => by rw [hret] at h; cases h) (lastI X144 hx hret (hb hby e13_10)) ?_ (by decide) (by decide)
  rw [e144]
  exact ⟨rfl, N144, rfl⟩
def Q_len2_1 (Z : State) (zC : Int32) (vF : Value) (a2 : Addr) (t : Addr) (kt : ClassId) (us : List Value) (h0 : Heap) (v : Option Value) (h : Heap) (L : List Loc) : Prop := v = some (iv 2) ∧ Fr Z.heap.size L ∧ h = h0
theorem rm_len2_1 (l : Launch) (Z : State) (a0 : Array Value) (hw : HW a0 Z) (zC : Int32) (vF : Value) (G : GB l a0 Z zC vF) (a2 : Addr) (t : Addr) (kt : ClassId) (us : List Value) (h0 : Heap) (O0 : Old Z Z.heap.size h0) (Pe : Exa Z h0 a2 sT1) (Pc : Fld Z h0 a2 sT1 "coder" "B" (iv 1)) (Pv : Fld Z h0 a2 sT1 "value" "[B" (.ref t)) (Pa : Arv Z h0 t kt .byte (4 : Int32) us (.int 0)) :
    Con l Z (⟨sT1, "length", "()I"⟩ : MethodName) kC30 1 (some .int) ({ frames := 1, cells := 0, slots := 0, locals := 13 } : Room) #[(.ref a2)] h0 (Q_len2_1 Z zC vF a2 t kt us h0) := by
  refine Con.intro (plainFor_of_name pn2) ?_
  intro p e s m below meth c T0 X0 hx hby hml hown0 hnm hret hlk hZ0 e0
  have N0 := Fr.nil Z.heap.size
  refine castGo (g' := mkF m 0 #[.val (.ref a2)] []) (by first | rfl | (simp [entryFrame, mkF, argsToLocals, Value.category]; done)) ?_
  show Go _ _ _ _ (T0.setTop (mkF m 0 #[.val (.ref a2)] []))
  refine aL X0 hx (hb hby e13_0) (q := 1) rfl rfl rfl ?_
  refine g_getF X0 hx hZ0 hown0 (host := "") (Or.inl (wd33 hw)) Via.refl Pv e0 (hb hby e13_1) (q := 4) rfl ?_
  intro T145 X145 e145
  refine g_len X145 hx hZ0 Pa e145 (hb hby e13_4) (q := 5) rfl ?_
  refine aL X145 hx (hb hby e13_5) (q := 6) rfl rfl rfl ?_
  refine g_vi X145 hx hZ0 hown0 (wd75 hw) (wd76 hw) (notFace_of_selects (args := #[]) (mvT hZ0 (wd78 hw))) (wd78 hw) (wd77 hw) (by decide) Pe e145 (Con.back (W := 1) (rm_coder1 l Z a0 hw zC vF G a2 h0 O0 Pc) hZ0 (wd79 hw) (wd8 hw) (by decide) (by decide)) (by rw [hml]; rfl) (lenOf pd13 rfl) rfl (Nat.le_of_eq rfl) (hb hby e13_6) (q := 9) rfl (by decide) (by decide) ?_
  intro v146 T146 L146 X146 Q146
  obtain ⟨rfl, Nq146, e146⟩ := Q146
  have N146 := Fr.app N0 Nq146
  show Go _ _ _ _ (T146.setTop (mkF m 9 #[.val (.ref a2)] [(iv 1), (iv 4)]))
  refine g_ishr X146 hx (hb hby e13_9) (q := 10) rfl (z := (2 : Int32)) (by decide) ?_
  refine endP X146 hlk (fun h => by rw [hret] at h; cases h) (lastI X146 hx hret (hb hby e13_10)) ?_ (by decide) (by decide)
  rw [e146]
  exact ⟨rfl, N146, rfl⟩
theorem e42_0 : decode kC43 0 = .ok (.aload_n 0, 1) := by decide +kernel
theorem e42_1 : decode kC43 1 = .ok (.invokespecial 3, 3) := by decide +kernel
theorem wd54 (hw : HW a0 Z) : BW a0 Z (.methodLink sT0 (3 : Nat) ⟨"java/lang/Object", "<init>", "()V"⟩) := wat hw 54 rfl
theorem e42_4 : decode kC43 4 = .ok (.getstatic 18, 3) := by decide +kernel
theorem e42_7 : decode kC43 7 = .ok (.ifCond .eq 18, 3) := by decide +kernel
theorem e42_10 : decode kC43 10 = .ok (.aload_n 0, 1) := by decide +kernel
theorem e42_11 : decode kC43 11 = .ok (.iload_n 1, 1) := by decide +kernel
theorem e42_12 : decode kC43 12 = .ok (.newarray .byte, 2) := by decide +kernel
theorem e42_14 : decode kC43 14 = .ok (.putfield 15, 3) := by decide +kernel
theorem wd56 (hw : HW a0 Z) : BW a0 Z (.fieldLink sT0 (15 : Nat) sT0 "value" "[B") := wat hw 56 rfl
theorem wd57 (hw : HW a0 Z) : BW a0 Z (.lays sT2 sT0 "value" "[B") := wat hw 57 rfl
theorem wd43 (hw : HW a0 Z) : BW a0 Z (.instantiable sT2 (4 : Nat)) := wat hw 43 rfl
theorem e42_17 : decode kC43 17 = .ok (.aload_n 0, 1) := by decide +kernel
theorem e42_18 : decode kC43 18 = .ok (.iconst 0, 1) := by decide +kernel
theorem e42_19 : decode kC43 19 = .ok (.putfield 22, 3) := by decide +kernel
theorem wd59 (hw : HW a0 Z) : BW a0 Z (.lays sT2 sT0 "coder" "B") := wat hw 59 rfl
theorem e42_22 : decode kC43 22 = .ok (.goto 16, 3) := by decide +kernel
theorem e42_38 : decode kC43 38 = .ok (.return_, 1) := by decide +kernel
theorem wd81 (hw : HW a0 Z) : BW a0 Z (.lays sT2 sT0 "count" "I") := wat hw 81 rfl
theorem wd310 (hw : HW a0 Z) : BW a0 Z (.lays sT2 sT0 "maybeLatin1" "Z") := wat hw 310 rfl
def Q_asbinit (Z : State) (zC : Int32) (vF : Value) (a1 : Addr) (h0 : Heap) (v : Option Value) (h : Heap) (L : List Loc) : Prop := ∃ (vv : Addr), ∃ (kv : ClassId), v = none ∧ Fr Z.heap.size L ∧ Keep h0 h [a1] ∧ Exa Z h a1 sT2 ∧ Fld Z h a1 sT0 "value" "[B" (.ref vv) ∧ Fld Z h a1 sT0 "coder" "B" (iv 0) ∧ Fld Z h a1 sT0 "count" "I" (iv 0) ∧ Fld Z h a1 sT0 "maybeLatin1" "Z" (iv 0) ∧ h0.size ≤ vv ∧ Arv Z h vv kv .byte (16 : Int32) (List.replicate 16 (iv 0)) (.int 0) ∧ Exa Z h vv "[B"
theorem rm_asbinit (l : Launch) (Z : State) (a0 : Array Value) (hw : HW a0 Z) (zC : Int32) (vF : Value) (G : GB l a0 Z zC vF) (a1 : Addr) (h0 : Heap) (O0 : Old Z Z.heap.size h0) (P1 : Exa Z h0 a1 sT2) (P2 : Fld Z h0 a1 sT0 "value" "[B" .null) (P3 : Fld Z h0 a1 sT0 "coder" "B" (iv 0)) (P4 : Fld Z h0 a1 sT0 "count" "I" (iv 0)) (P6 : Fld Z h0 a1 sT0 "maybeLatin1" "Z" (iv 0)) (P5 : Z.heap.size ≤ a1) :
    Con l Z (⟨sT0, "<init>", "(I)V"⟩ : MethodName) kC43 2 none ({ frames := 1, cells := 1, slots := 16, locals := 12 } : Room) #[(.ref a1), (iv 16)] h0 (Q_asbinit Z zC vF a1 h0) := by
  obtain ⟨hl, SC, PC, rF, SF, SA, SH, SL, hX⟩ := id G
  refine Con.intro (plainFor_of_name pn4) ?_
  intro p e s m below meth c T0 X0 hx hby hml hown0 hnm hret hlk hZ0 e0
  have N0 := Fr.nil Z.heap.size
  refine castGo (g' := mkF m 0 #[.val (.ref a1), .val (iv 16)] []) (by first | rfl | (simp [entryFrame, mkF, argsToLocals, Value.category]; done)) ?_
  show Go _ _ _ _ (T0.setTop (mkF m 0 #[.val (.ref a1), .val (iv 16)] []))
  refine aL X0 hx (hb hby e42_0) (q := 1) rfl rfl rfl ?_
  refine g_init0 X0 hx hZ0 hown0 (wd54 hw) (wd17 hw) (wd18 hw) (by rw [hml]; rfl) (by decide) (W := 0) (Nat.le_of_eq rfl) (by decide) e0 (hb hby e42_1) (q := 4) rfl ?_
  intro T147 X147 e147
  refine g_getS X147 hx hZ0 hown0 (host := "") (Or.inl (wd55 hw)) Via.refl (SC.ext O0.2) e147 (hb hby e42_4) (q := 7) rfl ?_
  intro T148 X148 e148
  refine ifN X148 hx (hb hby e42_7) (q := 10) rfl ((if0 _ _).trans (feq PC).1) ?_
  refine aL X148 hx (hb hby e42_10) (q := 11) rfl rfl rfl ?_
  refine iL X148 hx (hb hby e42_11) (q := 12) rfl rfl ?_
  refine g_newE X148 hx hZ0 (aty := .byte) (wd24 hw) (by decide) (n := 16) (by decide) (by decide) (by decide) (by decide) (ad := "[B") (by decide) e148 (hb hby e42_12) (q := 14) rfl ?_
  intro T149 h149 k149 b149 g149 X149 e149 E149 V149 G149
  have Va149 : Arv Z h149 b149 k149 .byte (16 : Int32) (List.replicate 16 (iv 0)) (.int 0) := V149
  have f150 := P2.ext E149
  have f151 := P1.ext E149
  refine g_putF X149 hx hZ0 hown0 (host := "") (Or.inl (wd56 hw)) Via.refl f150 f151 (Or.inl (wd57 hw)) (wd43 hw) (ty := (.array .byte)) (by decide) rfl rfl e149 (hb hby e42_14) (q := 17) rfl ?_
  intro T152 h152 X152 e152 W152
  have N152 := Fr.snoc X152 N0 P5
  have Fw152 : Fld Z h152 a1 sT0 "value" "[B" (.ref b149) := f150.same W152
  refine aL X152 hx (hb hby e42_17) (q := 18) rfl rfl rfl ?_
  refine cI X152 hx (hb hby e42_18) (q := 19) rfl (z := (0 : Int32)) rfl ?_
  have f153 := P3.ext E149
  have f154 := f153.other W152 (Or.inr (slot_ne (Or.inl (wd59 hw)) (Or.inl (wd57 hw)) (by decide) (t := .byte) (t' := (.array .byte)) (by decide) (by decide)))
  have f155 := f151.wr W152
  refine g_putF X152 hx hZ0 hown0 (host := "") (Or.inl (wd58 hw)) Via.refl f154 f155 (Or.inl (wd59 hw)) (wd43 hw) (ty := .byte) (by decide) rfl rfl e152 (hb hby e42_19) (q := 22) rfl ?_
  intro T156 h156 X156 e156 W156
  have N156 := Fr.snoc X156 N152 P5
  have Fw156 : Fld Z h156 a1 sT0 "coder" "B" (iv 0) := f154.same W156
  refine g_goto X156 hx (hb hby e42_22) (q := 38) (by decide) (by decide) ?_
  have K157 : Keep h0 h149 [a1] := (Keep.refl h0 [a1]).ext E149
  have K158 : Keep h0 h152 [a1] := K157.wr W152 (Or.inl (by simp))
  have K159 : Keep h0 h156 [a1] := K158.wr W156 (Or.inl (by simp))
  have f160 := f155.wr W156
  have f161 := Fw152.other W156 (Or.inr (slot_ne (Or.inl (wd57 hw)) (Or.inl (wd59 hw)) (by decide) (t := (.array .byte)) (t' := .byte) (by decide) (by decide)))
  have f162 := P4.ext E149
  have f163 := f162.other W152 (Or.inr (slot_ne (Or.inl (wd81 hw)) (Or.inl (wd57 hw)) (by decide) (t := .int) (t' := (.array .byte)) (by decide) (by decide)))
  have f164 := f163.other W156 (Or.inr (slot_ne (Or.inl (wd81 hw)) (Or.inl (wd59 hw)) (by decide) (t := .int) (t' := .byte) (by decide) (by decide)))
  have f165 := P6.ext E149
  have f166 := f165.other W152 (Or.inr (slot_ne (Or.inl (wd310 hw)) (Or.inl (wd57 hw)) (by decide) (t := .boolean) (t' := (.array .byte)) (by decide) (by decide)))
  have f167 := f166.other W156 (Or.inr (slot_ne (Or.inl (wd310 hw)) (Or.inl (wd59 hw)) (by decide) (t := .boolean) (t' := .byte) (by decide) (by decide)))
  have gh168 : h0.size ≤ b149 := Nat.le_trans (Nat.le_refl _) (Nat.le_of_eq g149.symm)
  have ne169 : b149 ≠ a1 := (Nat.ne_of_gt (Nat.lt_of_lt_of_le (Nat.lt_of_lt_of_le P1.lt (Nat.le_refl _)) (Nat.le_of_eq g149.symm)))
  have f170 := Va149.other W152 ne169
  have f171 := f170.other W156 ne169
  have f172 := G149.wr W152
  have f173 := f172.wr W156
  refine endP X156 hlk (fun _ => rfl) (lastV X156 hx hret (hb hby e42_38)) ?_ (by decide) (by decide)
  rw [e156]
  exact ⟨b149, k149, rfl, N156, K159, f160, f161, Fw156, f164, f167, gh168, f171, f173⟩
theorem e36_0 : decode kC48 0 = .ok (.aload_n 0, 1) := by decide +kernel
theorem e36_1 : decode kC48 1 = .ok (.bipush 16, 2) := by decide +kernel
theorem e36_3 : decode kC48 3 = .ok (.invokespecial 1, 3) := by decide +kernel
theorem wd53 (hw : HW a0 Z) : BW a0 Z (.code ⟨sT0, "<init>", "(I)V"⟩ kC43 (2 : Nat) (Option.none : Option Jvm.ClassFile.FieldType)) := wat hw 53 rfl
theorem wd52 (hw : HW a0 Z) : BW a0 Z (.initialized sT0) := wat hw 52 rfl
theorem pd14 : parseMethodDescriptor "(I)V" = some ⟨[.int], none⟩ := by decide +kernel
theorem wd48 (hw : HW a0 Z) : BW a0 Z (.methodLink sT2 (1 : Nat) ⟨sT0, "<init>", "(I)V"⟩) := wat hw 48 rfl
theorem wd49 (hw : HW a0 Z) : BW a0 Z (.instanceMethod ⟨sT0, "<init>", "(I)V"⟩) := wat hw 49 rfl
theorem e36_6 : decode kC48 6 = .ok (.return_, 1) := by decide +kernel
def Q_sbinit (Z : State) (zC : Int32) (vF : Value) (a1 : Addr) (h0 : Heap) (v : Option Value) (h : Heap) (L : List Loc) : Prop := ∃ (vv : Addr), ∃ (kv : ClassId), v = none ∧ Fr Z.heap.size L ∧ Keep h0 h [a1] ∧ Exa Z h a1 sT2 ∧ Fld Z h a1 sT0 "value" "[B" (.ref vv) ∧ Fld Z h a1 sT0 "coder" "B" (iv 0) ∧ Fld Z h a1 sT0 "count" "I" (iv 0) ∧ Fld Z h a1 sT0 "maybeLatin1" "Z" (iv 0) ∧ h0.size ≤ vv ∧ Arv Z h vv kv .byte (16 : Int32) (List.replicate 16 (iv 0)) (.int 0) ∧ Exa Z h vv "[B"
theorem pn5 : plainName "java/lang/StringBuilder" = true := by first | (simp [plainName, overriddenIn]; done) | decide +kernel
theorem rm_sbinit (l : Launch) (Z : State) (a0 : Array Value) (hw : HW a0 Z) (zC : Int32) (vF : Value) (G : GB l a0 Z zC vF) (a1 : Addr) (h0 : Heap) (O0 : Old Z Z.heap.size h0) (P1 : Exa Z h0 a1 sT2) (P2 : Fld Z h0 a1 sT0 "value" "[B" .null) (P3 : Fld Z h0 a1 sT0 "coder" "B" (iv 0)) (P4 : Fld Z h0 a1 sT0 "count" "I" (iv 0)) (P6 : Fld Z h0 a1 sT0 "maybeLatin1" "Z" (iv 0)) (P5 : Z.heap.size ≤ a1) :
    Con l Z (⟨sT2, "<init>", "()V"⟩ : MethodName) kC48 1 none ({ frames := 2, cells := 1, slots := 16, locals := 25 } : Room) #[(.ref a1)] h0 (Q_sbinit Z zC vF a1 h0) := by
  refine Con.intro (plainFor_of_name pn5) ?_
  intro p e s m below meth c T0 X0 hx hby hml hown0 hnm hret hlk hZ0 e0
  have N0 := Fr.nil Z.heap.size
  refine castGo (g' := mkF m 0 #[.val (.ref a1)] []) (by first | rfl | (simp [entryFrame, mkF, argsToLocals, Value.category]; done)) ?_
  show Go _ _ _ _ (T0.setTop (mkF m 0 #[.val (.ref a1)] []))
  refine aL X0 hx (hb hby e36_0) (q := 1) rfl rfl rfl ?_
  refine bI X0 hx (hb hby e36_1) (q := 3) rfl (z := (16 : Int32)) rfl ?_
  refine g_sp X0 hx hZ0 hown0 (wd48 hw) (wd49 hw) (wd53 hw) rfl (by decide) e0 (Con.back (W := 0) (rm_asbinit l Z a0 hw zC vF G a1 h0 O0 P1 P2 P3 P4 P6 P5) hZ0 (wd53 hw) (wd52 hw) (by decide) (by decide)) (by rw [hml]; rfl) (lenOf pd14 rfl) rfl (Nat.le_of_eq rfl) (hb hby e36_3) (q := 6) rfl (by decide) (by decide) ?_
  intro v174 T174 L174 X174 Q174
  obtain ⟨vv_174, kv_174, rfl, Nq174, K174q, q174_0, q174_1, q174_2, q174_3, q174_4, q174_5, q174_6, q174_7⟩ := Q174
  have N174 := Fr.app N0 Nq174
  show Go _ _ _ _ (T174.setTop (mkF m 6 #[.val (.ref a1)] []))
  have K175 : Keep h0 T174.heap [a1] := (Keep.refl h0 [a1]).trans K174q (allS (Or.inl (by simp)) all0)
  have gh176 : h0.size ≤ vv_174 := Nat.le_trans (Nat.le_refl _) q174_5
  refine endP X174 hlk (fun _ => rfl) (lastV X174 hx hret (hb hby e36_6)) ?_ (by decide) (by decide)
  exact ⟨vv_174, kv_174, rfl, N174, K175, q174_0, q174_1, q174_2, q174_3, q174_4, gh176, q174_6, q174_7⟩
theorem e49_0 : decode kC49 0 = .ok (.aload_n 0, 1) := by decide +kernel
theorem e49_1 : decode kC49 1 = .ok (.getfield 15, 3) := by decide +kernel
theorem e49_4 : decode kC49 4 = .ok (.arraylength, 1) := by decide +kernel
theorem e49_5 : decode kC49 5 = .ok (.aload_n 0, 1) := by decide +kernel
theorem e49_6 : decode kC49 6 = .ok (.getfield 22, 3) := by decide +kernel
theorem e49_9 : decode kC49 9 = .ok (.ishr, 1) := by decide +kernel
theorem e49_10 : decode kC49 10 = .ok (.istore_n 2, 1) := by decide +kernel
theorem e49_11 : decode kC49 11 = .ok (.iload_n 1, 1) := by decide +kernel
theorem e49_12 : decode kC49 12 = .ok (.iload_n 2, 1) := by decide +kernel
theorem e49_13 : decode kC49 13 = .ok (.isub, 1) := by decide +kernel
theorem e49_14 : decode kC49 14 = .ok (.ifCond .le 24, 3) := by decide +kernel
theorem e49_38 : decode kC49 38 = .ok (.return_, 1) := by decide +kernel
def Q_ens0_0 (Z : State) (zC : Int32) (vF : Value) (a1 : Addr) (vv : Addr) (kv : ClassId) (vd : List Value) (h0 : Heap) (v : Option Value) (h : Heap) (L : List Loc) : Prop := v = none ∧ Fr Z.heap.size L ∧ h = h0
theorem rm_ens0_0 (l : Launch) (Z : State) (a0 : Array Value) (hw : HW a0 Z) (zC : Int32) (vF : Value) (G : GB l a0 Z zC vF) (a1 : Addr) (vv : Addr) (kv : ClassId) (vd : List Value) (h0 : Heap) (O0 : Old Z Z.heap.size h0) (Qe : Exa Z h0 a1 sT2) (Qc : Fld Z h0 a1 sT0 "coder" "B" (iv 0)) (Qv : Fld Z h0 a1 sT0 "value" "[B" (.ref vv)) (Qa : Arv Z h0 vv kv .byte (16 : Int32) vd (.int 0)) :
    Con l Z (⟨sT0, "ensureCapacityInternal", "(I)V"⟩ : MethodName) kC49 3 none ({ frames := 0, cells := 0, slots := 0, locals := 0 } : Room) #[(.ref a1), (iv 2)] h0 (Q_ens0_0 Z zC vF a1 vv kv vd h0) := by
  refine Con.intro (plainFor_of_name pn4) ?_
  intro p e s m below meth c T0 X0 hx hby hml hown0 hnm hret hlk hZ0 e0
  have N0 := Fr.nil Z.heap.size
  refine castGo (g' := mkF m 0 #[.val (.ref a1), .val (iv 2), .unset] []) (by first | rfl | (simp [entryFrame, mkF, argsToLocals, Value.category]; done)) ?_
  show Go _ _ _ _ (T0.setTop (mkF m 0 #[.val (.ref a1), .val (iv 2), .unset] []))
  refine aL X0 hx (hb hby e49_0) (q := 1) rfl rfl rfl ?_
  refine g_getF X0 hx hZ0 hown0 (host := "") (Or.inl (wd56 hw)) Via.refl Qv e0 (hb hby e49_1) (q := 4) rfl ?_
  intro T177 X177 e177
  refine g_len X177 hx hZ0 Qa e177 (hb hby e49_4) (q := 5) rfl ?_
  refine aL X177 hx (hb hby e49_5) (q := 6) rfl rfl rfl ?_
  refine g_getF X177 hx hZ0 hown0 (host := "") (Or.inl (wd58 hw)) Via.refl Qc e177 (hb hby e49_6) (q := 9) rfl ?_
  intro T178 X178 e178
  refine g_ishr X178 hx (hb hby e49_9) (q := 10) rfl (z := (16 : Int32)) (by decide) ?_
  refine sI X178 hx (hb hby e49_10) (q := 11) rfl (Ls' := #[.val (.ref a1), .val (iv 2), .val (iv 16)]) rfl ?_
  refine iL X178 hx (hb hby e49_11) (q := 12) rfl rfl ?_
  refine iL X178 hx (hb hby e49_12) (q := 13) rfl rfl ?_
  refine g_isub X178 hx (hb hby e49_13) (q := 14) rfl (z := (-14 : Int32)) (by decide) ?_
  refine ifY X178 hx (hb hby e49_14) (q := 38) (by decide) (by decide) (by decide) ?_
  refine endP X178 hlk (fun _ => rfl) (lastV X178 hx hret (hb hby e49_38)) ?_ (by decide) (by decide)
  rw [e178]
  exact ⟨rfl, N0, rfl⟩
theorem e4_0 : decode kC2 0 = .ok (.aload_n 0, 1) := by decide +kernel
theorem e4_1 : decode kC2 1 = .ok (.invokevirtual 335, 3) := by decide +kernel
theorem e4_4 : decode kC2 4 = .ok (.iload_n 3, 1) := by decide +kernel
theorem e4_5 : decode kC2 5 = .ok (.if_icmp .ne 23, 3) := by decide +kernel
theorem e4_8 : decode kC2 8 = .ok (.aload_n 0, 1) := by decide +kernel
theorem e4_9 : decode kC2 9 = .ok (.getfield 9, 3) := by decide +kernel
theorem e4_12 : decode kC2 12 = .ok (.iconst 0, 1) := by decide +kernel
theorem e4_13 : decode kC2 13 = .ok (.aload_n 1, 1) := by decide +kernel
theorem e4_14 : decode kC2 14 = .ok (.iload_n 2, 1) := by decide +kernel
theorem e4_15 : decode kC2 15 = .ok (.iload_n 3, 1) := by decide +kernel
theorem e4_16 : decode kC2 16 = .ok (.ishl, 1) := by decide +kernel
theorem e4_17 : decode kC2 17 = .ok (.aload_n 0, 1) := by decide +kernel
theorem e4_18 : decode kC2 18 = .ok (.getfield 9, 3) := by decide +kernel
theorem e4_21 : decode kC2 21 = .ok (.arraylength, 1) := by decide +kernel
theorem e4_22 : decode kC2 22 = .ok (.invokestatic 212, 3) := by decide +kernel
theorem wd103 (hw : HW a0 Z) : BW a0 Z (.methodLink sT1 (212 : Nat) ⟨"java/lang/System", "arraycopy", "(Ljava/lang/Object;ILjava/lang/Object;II)V"⟩) := wat hw 103 rfl
theorem wd106 (hw : HW a0 Z) : BW a0 Z (.native ⟨"java/lang/System", "arraycopy", "(Ljava/lang/Object;ILjava/lang/Object;II)V"⟩) := wat hw 106 rfl
theorem wd104 (hw : HW a0 Z) : BW a0 Z (.static ⟨"java/lang/System", "arraycopy", "(Ljava/lang/Object;ILjava/lang/Object;II)V"⟩) := wat hw 104 rfl
theorem wd105 (hw : HW a0 Z) : BW a0 Z (.initialized "java/lang/System") := wat hw 105 rfl
theorem e4_25 : decode kC2 25 = .ok (.goto 18, 3) := by decide +kernel
theorem e4_43 : decode kC2 43 = .ok (.return_, 1) := by decide +kernel
def Q_gbc0_0 (Z : State) (zC : Int32) (vF : Value) (a2 : Addr) (t : Addr) (kt : ClassId) (us : List Value) (vv : Addr) (kv : ClassId) (vd : List Value) (h0 : Heap) (v : Option Value) (h : Heap) (L : List Loc) : Prop := v = none ∧ Fr Z.heap.size L ∧ Keep h0 h [vv] ∧ Arv Z h vv kv .byte (16 : Int32) (ins vd (sub us 0 2 (.int 0)) 0 2) (.int 0) ∧ ((ins vd (sub us 0 2 (.int 0)) 0 2).length = 16)
theorem rm_gbc0_0 (l : Launch) (Z : State) (a0 : Array Value) (hw : HW a0 Z) (zC : Int32) (vF : Value) (G : GB l a0 Z zC vF) (a2 : Addr) (t : Addr) (kt : ClassId) (us : List Value) (vv : Addr) (kv : ClassId) (vd : List Value) (h0 : Heap) (O0 : Old Z Z.heap.size h0) (Pe : Exa Z h0 a2 sT1) (Pc : Fld Z h0 a2 sT1 "coder" "B" (iv 0)) (Pv : Fld Z h0 a2 sT1 "value" "[B" (.ref t)) (Pa : Arv Z h0 t kt .byte (2 : Int32) us (.int 0)) (Pl : (us.length = 2)) (Wa : Arv Z h0 vv kv .byte (16 : Int32) vd (.int 0)) (Wl : (vd.length = 16)) (Wy : Z.heap.size ≤ vv) :
    Con l Z (⟨sT1, "getBytes", "([BIB)V"⟩ : MethodName) kC2 4 none ({ frames := 1, cells := 0, slots := 0, locals := 31 } : Room) #[(.ref a2), (.ref vv), (iv 0), (iv 0)] h0 (Q_gbc0_0 Z zC vF a2 t kt us vv kv vd h0) := by
  refine Con.intro (plainFor_of_name pn2) ?_
  intro p e s m below meth c T0 X0 hx hby hml hown0 hnm hret hlk hZ0 e0
  have N0 := Fr.nil Z.heap.size
  refine castGo (g' := mkF m 0 #[.val (.ref a2), .val (.ref vv), .val (iv 0), .val (iv 0)] []) (by first | rfl | (simp [entryFrame, mkF, argsToLocals, Value.category]; done)) ?_
  show Go _ _ _ _ (T0.setTop (mkF m 0 #[.val (.ref a2), .val (.ref vv), .val (iv 0), .val (iv 0)] []))
  refine aL X0 hx (hb hby e4_0) (q := 1) rfl rfl rfl ?_
  refine g_vi X0 hx hZ0 hown0 (wd75 hw) (wd76 hw) (notFace_of_selects (args := #[]) (mvT hZ0 (wd78 hw))) (wd78 hw) (wd77 hw) (by decide) Pe e0 (Con.back (W := 0) (rm_coder0 l Z a0 hw zC vF G a2 h0 O0 Pc) hZ0 (wd79 hw) (wd8 hw) (by decide) (by decide)) (by rw [hml]; rfl) (lenOf pd13 rfl) rfl (Nat.le_of_eq rfl) (hb hby e4_1) (q := 4) rfl (by decide) (by decide) ?_
  intro v179 T179 L179 X179 Q179
  obtain ⟨rfl, Nq179, e179⟩ := Q179
  have N179 := Fr.app N0 Nq179
  show Go _ _ _ _ (T179.setTop (mkF m 4 #[.val (.ref a2), .val (.ref vv), .val (iv 0), .val (iv 0)] [(iv 0)]))
  refine iL X179 hx (hb hby e4_4) (q := 5) rfl rfl ?_
  refine icN X179 hx (hb hby e4_5) (q := 8) rfl (by decide) ?_
  refine aL X179 hx (hb hby e4_8) (q := 9) rfl rfl rfl ?_
  refine g_getF X179 hx hZ0 hown0 (host := "") (Or.inl (wd33 hw)) Via.refl Pv e179 (hb hby e4_9) (q := 12) rfl ?_
  intro T180 X180 e180
  refine cI X180 hx (hb hby e4_12) (q := 13) rfl (z := (0 : Int32)) rfl ?_
  refine aL X180 hx (hb hby e4_13) (q := 14) rfl rfl rfl ?_
  refine iL X180 hx (hb hby e4_14) (q := 15) rfl rfl ?_
  refine iL X180 hx (hb hby e4_15) (q := 16) rfl rfl ?_
  refine g_ishl X180 hx (hb hby e4_16) (q := 17) rfl (z := (0 : Int32)) (by decide) ?_
  refine aL X180 hx (hb hby e4_17) (q := 18) rfl rfl rfl ?_
  refine g_getF X180 hx hZ0 hown0 (host := "") (Or.inl (wd33 hw)) Via.refl Pv e180 (hb hby e4_18) (q := 21) rfl ?_
  intro T181 X181 e181
  refine g_len X181 hx hZ0 Pa e181 (hb hby e4_21) (q := 22) rfl ?_
  refine g_cp X181 hx hZ0 hown0 (wd103 hw) (wd106 hw) (wd104 hw) (wd105 hw) (us := (sub us 0 2 (.int 0))) Pa Wa (Or.inl ⟨rfl, rfl⟩) (by decide) (by decide) (by decide) (by decide) (by decide) rfl (by rw [Wl]; exact (show 0 + 2 ≤ 16 from (by decide))) N179 Wy (by rw [hml]; rfl) (by decide) (W := 0) (Nat.le_of_eq rfl) (by decide) e181 (hb hby e4_22) (q := 25) rfl ?_
  intro T182 h182 L182 X182 e182 N182 K182q V182
  have Va182 : Arv Z h182 vv kv .byte (16 : Int32) (ins vd (sub us 0 2 (.int 0)) 0 2) (.int 0) := V182
  have Ln182 : (ins vd (sub us 0 2 (.int 0)) 0 2).length = 16 := (ins_len sub_len (by rw [Wl]; exact (show 0 + 2 ≤ 16 from (by decide)))).trans Wl
  refine g_goto X182 hx (hb hby e4_25) (q := 43) (by decide) (by decide) ?_
  have K183 : Keep h0 h182 [vv] := (Keep.refl h0 [vv]).trans K182q (allS (Or.inl (by simp)) all0)
  refine endP X182 hlk (fun _ => rfl) (lastV X182 hx hret (hb hby e4_43)) ?_ (by decide) (by decide)
  rw [e182]
  exact ⟨rfl, N182, K183, Va182, Ln182⟩
theorem e47_0 : decode kC23 0 = .ok (.getstatic 18, 3) := by decide +kernel
theorem e47_3 : decode kC23 3 = .ok (.ifCond .eq 18, 3) := by decide +kernel
theorem e47_6 : decode kC23 6 = .ok (.aload_n 0, 1) := by decide +kernel
theorem e47_7 : decode kC23 7 = .ok (.getfield 22, 3) := by decide +kernel
theorem e47_10 : decode kC23 10 = .ok (.aload_n 1, 1) := by decide +kernel
theorem e47_11 : decode kC23 11 = .ok (.invokevirtual 40, 3) := by decide +kernel
theorem wd97 (hw : HW a0 Z) : BW a0 Z (.methodLink sT0 (40 : Nat) ⟨sT1, "coder", "()B"⟩) := wat hw 97 rfl
theorem e47_14 : decode kC23 14 = .ok (.if_icmp .eq 7, 3) := by decide +kernel
theorem e47_21 : decode kC23 21 = .ok (.return_, 1) := by decide +kernel
def Q_ifn00 (Z : State) (zC : Int32) (vF : Value) (a1 : Addr) (a2 : Addr) (h0 : Heap) (v : Option Value) (h : Heap) (L : List Loc) : Prop := v = none ∧ Fr Z.heap.size L ∧ h = h0
theorem rm_ifn00 (l : Launch) (Z : State) (a0 : Array Value) (hw : HW a0 Z) (zC : Int32) (vF : Value) (G : GB l a0 Z zC vF) (a1 : Addr) (a2 : Addr) (h0 : Heap) (O0 : Old Z Z.heap.size h0) (Pe : Exa Z h0 a2 sT1) (Pc : Fld Z h0 a2 sT1 "coder" "B" (iv 0)) (We : Exa Z h0 a1 sT2) (Wc : Fld Z h0 a1 sT0 "coder" "B" (iv 0)) :
    Con l Z (⟨sT0, "inflateIfNeededFor", "(Ljava/lang/String;)V"⟩ : MethodName) kC23 2 none ({ frames := 1, cells := 0, slots := 0, locals := 13 } : Room) #[(.ref a1), (.ref a2)] h0 (Q_ifn00 Z zC vF a1 a2 h0) := by
  obtain ⟨hl, SC, PC, rF, SF, SA, SH, SL, hX⟩ := id G
  refine Con.intro (plainFor_of_name pn4) ?_
  intro p e s m below meth c T0 X0 hx hby hml hown0 hnm hret hlk hZ0 e0
  have N0 := Fr.nil Z.heap.size
  refine castGo (g' := mkF m 0 #[.val (.ref a1), .val (.ref a2)] []) (by first | rfl | (simp [entryFrame, mkF, argsToLocals, Value.category]; done)) ?_
  show Go _ _ _ _ (T0.setTop (mkF m 0 #[.val (.ref a1), .val (.ref a2)] []))
  refine g_getS X0 hx hZ0 hown0 (host := "") (Or.inl (wd55 hw)) Via.refl (SC.ext O0.2) e0 (hb hby e47_0) (q := 3) rfl ?_
  intro T184 X184 e184
  refine ifN X184 hx (hb hby e47_3) (q := 6) rfl ((if0 _ _).trans (feq PC).1) ?_
  refine aL X184 hx (hb hby e47_6) (q := 7) rfl rfl rfl ?_
  refine g_getF X184 hx hZ0 hown0 (host := "") (Or.inl (wd58 hw)) Via.refl Wc e184 (hb hby e47_7) (q := 10) rfl ?_
  intro T185 X185 e185
  refine aL X185 hx (hb hby e47_10) (q := 11) rfl rfl rfl ?_
  refine g_vi X185 hx hZ0 hown0 (wd97 hw) (wd76 hw) (notFace_of_selects (args := #[]) (mvT hZ0 (wd78 hw))) (wd78 hw) (wd77 hw) (by decide) Pe e185 (Con.back (W := 1) (rm_coder0 l Z a0 hw zC vF G a2 h0 O0 Pc) hZ0 (wd79 hw) (wd8 hw) (by decide) (by decide)) (by rw [hml]; rfl) (lenOf pd13 rfl) rfl (Nat.le_of_eq rfl) (hb hby e47_11) (q := 14) rfl (by decide) (by decide) ?_
  intro v186 T186 L186 X186 Q186
  obtain ⟨rfl, Nq186, e186⟩ := Q186
  have N186 := Fr.app N0 Nq186
  show Go _ _ _ _ (T186.setTop (mkF m 14 #[.val (.ref a1), .val (.ref a2)] [(iv 0), (iv 0)]))
  refine icY X186 hx (hb hby e47_14) (q := 21) (by decide) (by decide) (by decide) ?_
  refine endP X186 hlk (fun _ => rfl) (lastV X186 hx hret (hb hby e47_21)) ?_ (by decide) (by decide)
  rw [e186]
  exact ⟨rfl, N186, rfl⟩
theorem e48_0 : decode kC24 0 = .ok (.aload_n 0, 1) := by decide +kernel
theorem e48_1 : decode kC24 1 = .ok (.aload_n 2, 1) := by decide +kernel
theorem e48_2 : decode kC24 2 = .ok (.invokevirtual 397, 3) := by decide +kernel
theorem wd96 (hw : HW a0 Z) : BW a0 Z (.code ⟨sT0, "inflateIfNeededFor", sT8⟩ kC23 (2 : Nat) (Option.none : Option Jvm.ClassFile.FieldType)) := wat hw 96 rfl
theorem pd15 : parseMethodDescriptor "(Ljava/lang/String;)V" = some ⟨[(.object "java/lang/String")], none⟩ := by decide +kernel
theorem wd92 (hw : HW a0 Z) : BW a0 Z (.methodLink sT0 (397 : Nat) ⟨sT0, "inflateIfNeededFor", sT8⟩) := wat hw 92 rfl
theorem wd93 (hw : HW a0 Z) : BW a0 Z (.instanceMethod ⟨sT0, "inflateIfNeededFor", sT8⟩) := wat hw 93 rfl
theorem wd95 (hw : HW a0 Z) : BW a0 Z (.selects sT2 ⟨sT0, "inflateIfNeededFor", sT8⟩ ⟨sT0, "inflateIfNeededFor", sT8⟩) := wat hw 95 rfl
theorem wd94 (hw : HW a0 Z) : BW a0 Z (.privateMethod ⟨sT0, "inflateIfNeededFor", sT8⟩) := wat hw 94 rfl
theorem e48_5 : decode kC24 5 = .ok (.aload_n 2, 1) := by decide +kernel
theorem e48_6 : decode kC24 6 = .ok (.aload_n 0, 1) := by decide +kernel
theorem e48_7 : decode kC24 7 = .ok (.getfield 15, 3) := by decide +kernel
theorem e48_10 : decode kC24 10 = .ok (.iload_n 1, 1) := by decide +kernel
theorem e48_11 : decode kC24 11 = .ok (.aload_n 0, 1) := by decide +kernel
theorem e48_12 : decode kC24 12 = .ok (.getfield 22, 3) := by decide +kernel
theorem e48_15 : decode kC24 15 = .ok (.invokevirtual 399, 3) := by decide +kernel
theorem wd102 (hw : HW a0 Z) : BW a0 Z (.code ⟨sT1, "getBytes", "([BIB)V"⟩ kC2 (4 : Nat) (Option.none : Option Jvm.ClassFile.FieldType)) := wat hw 102 rfl
theorem pd16 : parseMethodDescriptor "([BIB)V" = some ⟨[(.array .byte), .int, .byte], none⟩ := by decide +kernel
theorem wd101 (hw : HW a0 Z) : BW a0 Z (.selects sT1 ⟨sT1, "getBytes", "([BIB)V"⟩ ⟨sT1, "getBytes", "([BIB)V"⟩) := wat hw 101 rfl
theorem wd98 (hw : HW a0 Z) : BW a0 Z (.methodLink sT0 (399 : Nat) ⟨sT1, "getBytes", "([BIB)V"⟩) := wat hw 98 rfl
theorem wd99 (hw : HW a0 Z) : BW a0 Z (.declares ⟨sT1, "getBytes", "([BIB)V"⟩) := wat hw 99 rfl
theorem wd100 (hw : HW a0 Z) : BW a0 Z (.instanceMethod ⟨sT1, "getBytes", "([BIB)V"⟩) := wat hw 100 rfl
theorem e48_18 : decode kC24 18 = .ok (.return_, 1) := by decide +kernel
def Q_psaLL0 (Z : State) (zC : Int32) (vF : Value) (a1 : Addr) (a2 : Addr) (t : Addr) (kt : ClassId) (us : List Value) (vv : Addr) (kv : ClassId) (vd : List Value) (h0 : Heap) (v : Option Value) (h : Heap) (L : List Loc) : Prop := v = none ∧ Fr Z.heap.size L ∧ Keep h0 h [vv] ∧ Arv Z h vv kv .byte (16 : Int32) (ins vd (sub us 0 2 (.int 0)) 0 2) (.int 0) ∧ ((ins vd (sub us 0 2 (.int 0)) 0 2).length = 16)
theorem rm_psaLL0 (l : Launch) (Z : State) (a0 : Array Value) (hw : HW a0 Z) (zC : Int32) (vF : Value) (G : GB l a0 Z zC vF) (a1 : Addr) (a2 : Addr) (t : Addr) (kt : ClassId) (us : List Value) (vv : Addr) (kv : ClassId) (vd : List Value) (h0 : Heap) (O0 : Old Z Z.heap.size h0) (Pe : Exa Z h0 a2 sT1) (Pc : Fld Z h0 a2 sT1 "coder" "B" (iv 0)) (Pv : Fld Z h0 a2 sT1 "value" "[B" (.ref t)) (Pa : Arv Z h0 t kt .byte (2 : Int32) us (.int 0)) (Pl : (us.length = 2)) (We : Exa Z h0 a1 sT2) (Wc : Fld Z h0 a1 sT0 "coder" "B" (iv 0)) (Wv : Fld Z h0 a1 sT0 "value" "[B" (.ref vv)) (Wa : Arv Z h0 vv kv .byte (16 : Int32) vd (.int 0)) (Wl : (vd.length = 16)) (Wy : Z.heap.size ≤ vv) :
    Con l Z (⟨sT0, "putStringAt", "(ILjava/lang/String;)V"⟩ : MethodName) kC24 3 none ({ frames := 2, cells := 0, slots := 0, locals := 46 } : Room) #[(.ref a1), (iv 0), (.ref a2)] h0 (Q_psaLL0 Z zC vF a1 a2 t kt us vv kv vd h0) := by
  refine Con.intro (plainFor_of_name pn4) ?_
  intro p e s m below meth c T0 X0 hx hby hml hown0 hnm hret hlk hZ0 e0
  have N0 := Fr.nil Z.heap.size
  refine castGo (g' := mkF m 0 #[.val (.ref a1), .val (iv 0), .val (.ref a2)] []) (by first | rfl | (simp [entryFrame, mkF, argsToLocals, Value.category]; done)) ?_
  show Go _ _ _ _ (T0.setTop (mkF m 0 #[.val (.ref a1), .val (iv 0), .val (.ref a2)] []))
  refine aL X0 hx (hb hby e48_0) (q := 1) rfl rfl rfl ?_
  refine aL X0 hx (hb hby e48_1) (q := 2) rfl rfl rfl ?_
  refine g_pvC X0 hx hZ0 hown0 (wd92 hw) (wd93 hw) (wd95 hw) (wd94 hw) (wd96 hw) (by decide) We e0 (Con.back (W := 0) (rm_ifn00 l Z a0 hw zC vF G a1 a2 h0 O0 Pe Pc We Wc) hZ0 (wd96 hw) (wd52 hw) (by decide) (by decide)) (by rw [hml]; rfl) (lenOf pd15 rfl) rfl (Nat.le_of_eq rfl) (hb hby e48_2) (q := 5) rfl (by decide) (by decide) ?_
  intro v187 T187 L187 X187 Q187
  obtain ⟨rfl, Nq187, e187⟩ := Q187
  have N187 := Fr.app N0 Nq187
  show Go _ _ _ _ (T187.setTop (mkF m 5 #[.val (.ref a1), .val (iv 0), .val (.ref a2)] []))
  refine aL X187 hx (hb hby e48_5) (q := 6) rfl rfl rfl ?_
  refine aL X187 hx (hb hby e48_6) (q := 7) rfl rfl rfl ?_
  refine g_getF X187 hx hZ0 hown0 (host := "") (Or.inl (wd56 hw)) Via.refl Wv e187 (hb hby e48_7) (q := 10) rfl ?_
  intro T188 X188 e188
  refine iL X188 hx (hb hby e48_10) (q := 11) rfl rfl ?_
  refine aL X188 hx (hb hby e48_11) (q := 12) rfl rfl rfl ?_
  refine g_getF X188 hx hZ0 hown0 (host := "") (Or.inl (wd58 hw)) Via.refl Wc e188 (hb hby e48_12) (q := 15) rfl ?_
  intro T189 X189 e189
  refine g_vi X189 hx hZ0 hown0 (wd98 hw) (wd99 hw) (notFace_of_selects (args := #[]) (mvT hZ0 (wd101 hw))) (wd101 hw) (wd100 hw) (by decide) Pe e189 (Con.back (W := 0) (rm_gbc0_0 l Z a0 hw zC vF G a2 t kt us vv kv vd h0 O0 Pe Pc Pv Pa Pl Wa Wl Wy) hZ0 (wd102 hw) (wd8 hw) (by decide) (by decide)) (by rw [hml]; rfl) (lenOf pd16 rfl) rfl (Nat.le_of_eq rfl) (hb hby e48_15) (q := 18) rfl (by decide) (by decide) ?_
  intro v190 T190 L190 X190 Q190
  obtain ⟨rfl, Nq190, K190q, q190_0, q190_1⟩ := Q190
  have N190 := Fr.app N187 Nq190
  show Go _ _ _ _ (T190.setTop (mkF m 18 #[.val (.ref a1), .val (iv 0), .val (.ref a2)] []))
  have K191 : Keep h0 T190.heap [vv] := (Keep.refl h0 [vv]).trans K190q (allS (Or.inl (by simp)) all0)
  refine endP X190 hlk (fun _ => rfl) (lastV X190 hx hret (hb hby e48_18)) ?_ (by decide) (by decide)
  exact ⟨rfl, N190, K191, q190_0, q190_1⟩
theorem e43_0 : decode kC9 0 = .ok (.aload_n 1, 1) := by decide +kernel
theorem e43_1 : decode kC9 1 = .ok (.ifnonnull 8, 3) := by decide +kernel
theorem e43_9 : decode kC9 9 = .ok (.aload_n 1, 1) := by decide +kernel
theorem e43_10 : decode kC9 10 = .ok (.invokevirtual 32, 3) := by decide +kernel
theorem wd74 (hw : HW a0 Z) : BW a0 Z (.code ⟨sT1, "length", "()I"⟩ kC30 (1 : Nat) (Option.some Jvm.ClassFile.FieldType.int)) := wat hw 74 rfl
theorem pd17 : parseMethodDescriptor "()I" = some ⟨[], some .int⟩ := by decide +kernel
theorem wd73 (hw : HW a0 Z) : BW a0 Z (.selects sT1 ⟨sT1, "length", "()I"⟩ ⟨sT1, "length", "()I"⟩) := wat hw 73 rfl
theorem wd70 (hw : HW a0 Z) : BW a0 Z (.methodLink sT0 (32 : Nat) ⟨sT1, "length", "()I"⟩) := wat hw 70 rfl
theorem wd71 (hw : HW a0 Z) : BW a0 Z (.declares ⟨sT1, "length", "()I"⟩) := wat hw 71 rfl
theorem wd72 (hw : HW a0 Z) : BW a0 Z (.instanceMethod ⟨sT1, "length", "()I"⟩) := wat hw 72 rfl
theorem e43_13 : decode kC9 13 = .ok (.istore_n 2, 1) := by decide +kernel
theorem e43_14 : decode kC9 14 = .ok (.aload_n 0, 1) := by decide +kernel
theorem e43_15 : decode kC9 15 = .ok (.aload_n 0, 1) := by decide +kernel
theorem e43_16 : decode kC9 16 = .ok (.getfield 79, 3) := by decide +kernel
theorem wd80 (hw : HW a0 Z) : BW a0 Z (.fieldLink sT0 (79 : Nat) sT0 "count" "I") := wat hw 80 rfl
theorem e43_19 : decode kC9 19 = .ok (.iload_n 2, 1) := by decide +kernel
theorem e43_20 : decode kC9 20 = .ok (.iadd, 1) := by decide +kernel
theorem e43_21 : decode kC9 21 = .ok (.invokevirtual 100, 3) := by decide +kernel
theorem wd86 (hw : HW a0 Z) : BW a0 Z (.code ⟨sT0, "ensureCapacityInternal", "(I)V"⟩ kC49 (3 : Nat) (Option.none : Option Jvm.ClassFile.FieldType)) := wat hw 86 rfl
theorem wd82 (hw : HW a0 Z) : BW a0 Z (.methodLink sT0 (100 : Nat) ⟨sT0, "ensureCapacityInternal", "(I)V"⟩) := wat hw 82 rfl
theorem wd83 (hw : HW a0 Z) : BW a0 Z (.instanceMethod ⟨sT0, "ensureCapacityInternal", "(I)V"⟩) := wat hw 83 rfl
theorem wd85 (hw : HW a0 Z) : BW a0 Z (.selects sT2 ⟨sT0, "ensureCapacityInternal", "(I)V"⟩ ⟨sT0, "ensureCapacityInternal", "(I)V"⟩) := wat hw 85 rfl
theorem wd84 (hw : HW a0 Z) : BW a0 Z (.privateMethod ⟨sT0, "ensureCapacityInternal", "(I)V"⟩) := wat hw 84 rfl
theorem e43_24 : decode kC9 24 = .ok (.aload_n 0, 1) := by decide +kernel
theorem e43_25 : decode kC9 25 = .ok (.aload_n 0, 1) := by decide +kernel
theorem e43_26 : decode kC9 26 = .ok (.getfield 79, 3) := by decide +kernel
theorem e43_29 : decode kC9 29 = .ok (.aload_n 1, 1) := by decide +kernel
theorem e43_30 : decode kC9 30 = .ok (.invokevirtual 208, 3) := by decide +kernel
theorem wd91 (hw : HW a0 Z) : BW a0 Z (.code ⟨sT0, "putStringAt", "(ILjava/lang/String;)V"⟩ kC24 (3 : Nat) (Option.none : Option Jvm.ClassFile.FieldType)) := wat hw 91 rfl
theorem pd18 : parseMethodDescriptor "(ILjava/lang/String;)V" = some ⟨[.int, (.object "java/lang/String")], none⟩ := by decide +kernel
theorem wd87 (hw : HW a0 Z) : BW a0 Z (.methodLink sT0 (208 : Nat) ⟨sT0, "putStringAt", "(ILjava/lang/String;)V"⟩) := wat hw 87 rfl
theorem wd88 (hw : HW a0 Z) : BW a0 Z (.instanceMethod ⟨sT0, "putStringAt", "(ILjava/lang/String;)V"⟩) := wat hw 88 rfl
theorem wd90 (hw : HW a0 Z) : BW a0 Z (.selects sT2 ⟨sT0, "putStringAt", "(ILjava/lang/String;)V"⟩ ⟨sT0, "putStringAt", "(ILjava/lang/String;)V"⟩) := wat hw 90 rfl
theorem wd89 (hw : HW a0 Z) : BW a0 Z (.privateMethod ⟨sT0, "putStringAt", "(ILjava/lang/String;)V"⟩) := wat hw 89 rfl
theorem e43_33 : decode kC9 33 = .ok (.aload_n 0, 1) := by decide +kernel
theorem e43_34 : decode kC9 34 = .ok (.dup, 1) := by decide +kernel
theorem e43_35 : decode kC9 35 = .ok (.getfield 79, 3) := by decide +kernel
theorem e43_38 : decode kC9 38 = .ok (.iload_n 2, 1) := by decide +kernel
theorem e43_39 : decode kC9 39 = .ok (.iadd, 1) := by decide +kernel
theorem e43_40 : decode kC9 40 = .ok (.putfield 79, 3) := by decide +kernel
theorem e43_43 : decode kC9 43 = .ok (.aload_n 0, 1) := by decide +kernel
theorem e43_44 : decode kC9 44 = .ok (.areturn, 1) := by decide +kernel
def Q_aapLL0 (Z : State) (zC : Int32) (vF : Value) (a1 : Addr) (vv : Addr) (kv : ClassId) (vd : List Value) (a2 : Addr) (t : Addr) (kt : ClassId) (us : List Value) (h0 : Heap) (v : Option Value) (h : Heap) (L : List Loc) : Prop := v = some (.ref a1) ∧ Fr Z.heap.size L ∧ Keep h0 h [a1, vv] ∧ Exa Z h a1 sT2 ∧ Fld Z h a1 sT0 "coder" "B" (iv 0) ∧ Fld Z h a1 sT0 "count" "I" (iv 2) ∧ Fld Z h a1 sT0 "maybeLatin1" "Z" (iv 0) ∧ Fld Z h a1 sT0 "value" "[B" (.ref vv) ∧ Arv Z h vv kv .byte (16 : Int32) (ins vd (sub us 0 2 (.int 0)) 0 2) (.int 0) ∧ ((ins vd (sub us 0 2 (.int 0)) 0 2).length = 16)
theorem rm_aapLL0 (l : Launch) (Z : State) (a0 : Array Value) (hw : HW a0 Z) (zC : Int32) (vF : Value) (G : GB l a0 Z zC vF) (a1 : Addr) (vv : Addr) (kv : ClassId) (vd : List Value) (a2 : Addr) (t : Addr) (kt : ClassId) (us : List Value) (h0 : Heap) (O0 : Old Z Z.heap.size h0) (Qe : Exa Z h0 a1 sT2) (Qc : Fld Z h0 a1 sT0 "coder" "B" (iv 0)) (Qn : Fld Z h0 a1 sT0 "count" "I" (iv 0)) (Qm : Fld Z h0 a1 sT0 "maybeLatin1" "Z" (iv 0)) (Qv : Fld Z h0 a1 sT0 "value" "[B" (.ref vv)) (Qa : Arv Z h0 vv kv .byte (16 : Int32) vd (.int 0)) (Ql : (vd.length = 16)) (QE : Exa Z h0 vv "[B") (Qz : Z.heap.size ≤ a1) (Qy : Z.heap.size ≤ vv) (Pe : Exa Z h0 a2 sT1) (Pc : Fld Z h0 a2 sT1 "coder" "B" (iv 0)) (Pv : Fld Z h0 a2 sT1 "value" "[B" (.ref t)) (Pa : Arv Z h0 t kt .byte (2 : Int32) us (.int 0)) (Pl : (us.length = 2)) :
    Con l Z (⟨sT0, "append", "(Ljava/lang/String;)Ljava/lang/AbstractStringBuilder;"⟩ : MethodName) kC9 3 (some (.object sT0)) ({ frames := 3, cells := 0, slots := 0, locals := 60 } : Room) #[(.ref a1), (.ref a2)] h0 (Q_aapLL0 Z zC vF a1 vv kv vd a2 t kt us h0) := by
  refine Con.intro (plainFor_of_name pn4) ?_
  intro p e s m below meth c T0 X0 hx hby hml hown0 hnm hret hlk hZ0 e0
  have N0 := Fr.nil Z.heap.size
  refine castGo (g' := mkF m 0 #[.val (.ref a1), .val (.ref a2), .unset] []) (by first | rfl | (simp [entryFrame, mkF, argsToLocals, Value.category]; done)) ?_
  show Go _ _ _ _ (T0.setTop (mkF m 0 #[.val (.ref a1), .val (.ref a2), .unset] []))
  refine aL X0 hx (hb hby e43_0) (q := 1) rfl rfl rfl ?_
  refine nnY X0 hx (hb hby e43_1) (q := 9) (by decide) (by decide) ?_
  refine aL X0 hx (hb hby e43_9) (q := 10) rfl rfl rfl ?_
  refine g_vi X0 hx hZ0 hown0 (wd70 hw) (wd71 hw) (notFace_of_selects (args := #[]) (mvT hZ0 (wd73 hw))) (wd73 hw) (wd72 hw) (by decide) Pe e0 (Con.back (W := 0) (rm_len2_0 l Z a0 hw zC vF G a2 t kt us h0 O0 Pe Pc Pv Pa) hZ0 (wd74 hw) (wd8 hw) (by decide) (by decide)) (by rw [hml]; rfl) (lenOf pd17 rfl) rfl (Nat.le_of_eq rfl) (hb hby e43_10) (q := 13) rfl (by decide) (by decide) ?_
  intro v192 T192 L192 X192 Q192
  obtain ⟨rfl, Nq192, e192⟩ := Q192
  have N192 := Fr.app N0 Nq192
  show Go _ _ _ _ (T192.setTop (mkF m 13 #[.val (.ref a1), .val (.ref a2), .unset] [(iv 2)]))
  refine sI X192 hx (hb hby e43_13) (q := 14) rfl (Ls' := #[.val (.ref a1), .val (.ref a2), .val (iv 2)]) rfl ?_
  refine aL X192 hx (hb hby e43_14) (q := 15) rfl rfl rfl ?_
  refine aL X192 hx (hb hby e43_15) (q := 16) rfl rfl rfl ?_
  refine g_getF X192 hx hZ0 hown0 (host := "") (Or.inl (wd80 hw)) Via.refl Qn e192 (hb hby e43_16) (q := 19) rfl ?_
  intro T193 X193 e193
  refine iL X193 hx (hb hby e43_19) (q := 20) rfl rfl ?_
  refine g_iadd X193 hx (hb hby e43_20) (q := 21) rfl (z := (2 : Int32)) (by decide) ?_
  refine g_pvC X193 hx hZ0 hown0 (wd82 hw) (wd83 hw) (wd85 hw) (wd84 hw) (wd86 hw) (by decide) Qe e193 (Con.back (W := 0) (rm_ens0_0 l Z a0 hw zC vF G a1 vv kv vd h0 O0 Qe Qc Qv Qa) hZ0 (wd86 hw) (wd52 hw) (by decide) (by decide)) (by rw [hml]; rfl) (lenOf pd14 rfl) rfl (Nat.le_of_eq rfl) (hb hby e43_21) (q := 24) rfl (by decide) (by decide) ?_
  intro v194 T194 L194 X194 Q194
  obtain ⟨rfl, Nq194, e194⟩ := Q194
  have N194 := Fr.app N192 Nq194
  show Go _ _ _ _ (T194.setTop (mkF m 24 #[.val (.ref a1), .val (.ref a2), .val (iv 2)] []))
  refine aL X194 hx (hb hby e43_24) (q := 25) rfl rfl rfl ?_
  refine aL X194 hx (hb hby e43_25) (q := 26) rfl rfl rfl ?_
  refine g_getF X194 hx hZ0 hown0 (host := "") (Or.inl (wd80 hw)) Via.refl Qn e194 (hb hby e43_26) (q := 29) rfl ?_
  intro T195 X195 e195
  refine aL X195 hx (hb hby e43_29) (q := 30) rfl rfl rfl ?_
  refine g_pvC X195 hx hZ0 hown0 (wd87 hw) (wd88 hw) (wd90 hw) (wd89 hw) (wd91 hw) (by decide) Qe e195 (Con.back (W := 0) (rm_psaLL0 l Z a0 hw zC vF G a1 a2 t kt us vv kv vd h0 O0 Pe Pc Pv Pa Pl Qe Qc Qv Qa Ql Qy) hZ0 (wd91 hw) (wd52 hw) (by decide) (by decide)) (by rw [hml]; rfl) (lenOf pd18 rfl) rfl (Nat.le_of_eq rfl) (hb hby e43_30) (q := 33) rfl (by decide) (by decide) ?_
  intro v196 T196 L196 X196 Q196
  obtain ⟨rfl, Nq196, K196q, q196_0, q196_1⟩ := Q196
  have N196 := Fr.app N194 Nq196
  show Go _ _ _ _ (T196.setTop (mkF m 33 #[.val (.ref a1), .val (.ref a2), .val (iv 2)] []))
  refine aL X196 hx (hb hby e43_33) (q := 34) rfl rfl rfl ?_
  refine g_dup X196 hx (hb hby e43_34) (q := 35) rfl rfl ?_
  have ne197 : a1 ≠ vv := (ne_exa Qe QE (by decide))
  have f198 := Qn.keep K196q (ninS ne197 nin0)
  refine g_getF X196 hx hZ0 hown0 (host := "") (Or.inl (wd80 hw)) Via.refl f198 rfl (hb hby e43_35) (q := 38) rfl ?_
  intro T199 X199 e199
  refine iL X199 hx (hb hby e43_38) (q := 39) rfl rfl ?_
  refine g_iadd X199 hx (hb hby e43_39) (q := 40) rfl (z := (2 : Int32)) (by decide) ?_
  have f200 := Qe.keep K196q
  refine g_putF X199 hx hZ0 hown0 (host := "") (Or.inl (wd80 hw)) Via.refl f198 f200 (Or.inl (wd81 hw)) (wd43 hw) (ty := .int) (by decide) rfl rfl e199 (hb hby e43_40) (q := 43) rfl ?_
  intro T201 h201 X201 e201 W201
  have N201 := Fr.snoc X201 N196 Qz
  have Fw201 : Fld Z h201 a1 sT0 "count" "I" (iv 2) := f198.same W201
  refine aL X201 hx (hb hby e43_43) (q := 44) rfl rfl rfl ?_
  have K202 : Keep h0 T196.heap [a1, vv] := (Keep.refl h0 [a1, vv]).trans K196q (allS (Or.inl (by simp)) all0)
  have K203 : Keep h0 h201 [a1, vv] := K202.wr W201 (Or.inl (by simp))
  have f204 := f200.wr W201
  have f205 := Qc.keep K196q (ninS ne197 nin0)
  have f206 := f205.other W201 (Or.inr (slot_ne (Or.inl (wd59 hw)) (Or.inl (wd81 hw)) (by decide) (t := .byte) (t' := .int) (by decide) (by decide)))
  have f207 := Qm.keep K196q (ninS ne197 nin0)
  have f208 := f207.other W201 (Or.inr (slot_ne (Or.inl (wd310 hw)) (Or.inl (wd81 hw)) (by decide) (t := .boolean) (t' := .int) (by decide) (by decide)))
  have f209 := Qv.keep K196q (ninS ne197 nin0)
  have f210 := f209.other W201 (Or.inr (slot_ne (Or.inl (wd57 hw)) (Or.inl (wd81 hw)) (by decide) (t := (.array .byte)) (t' := .int) (by decide) (by decide)))
  have ne211 : vv ≠ a1 := (Ne.symm ne197)
  have f212 := q196_0.other W201 ne211
  refine endP X201 hlk (fun h => by rw [hret] at h; cases h) (lastA X201 hx hret rfl rfl rfl (hb hby e43_44)) ?_ (by decide) (by decide)
  rw [e201]
  exact ⟨rfl, N201, K203, f204, f206, Fw201, f208, f210, f212, q196_1⟩
def Q_gbc1_0 (Z : State) (zC : Int32) (vF : Value) (a2 : Addr) (t : Addr) (kt : ClassId) (us : List Value) (vv : Addr) (kv : ClassId) (vd : List Value) (h0 : Heap) (v : Option Value) (h : Heap) (L : List Loc) : Prop := v = none ∧ Fr Z.heap.size L ∧ Keep h0 h [vv] ∧ Arv Z h vv kv .byte (32 : Int32) (ins vd (sub us 0 4 (.int 0)) 0 4) (.int 0) ∧ ((ins vd (sub us 0 4 (.int 0)) 0 4).length = 32)
theorem rm_gbc1_0 (l : Launch) (Z : State) (a0 : Array Value) (hw : HW a0 Z) (zC : Int32) (vF : Value) (G : GB l a0 Z zC vF) (a2 : Addr) (t : Addr) (kt : ClassId) (us : List Value) (vv : Addr) (kv : ClassId) (vd : List Value) (h0 : Heap) (O0 : Old Z Z.heap.size h0) (Pe : Exa Z h0 a2 sT1) (Pc : Fld Z h0 a2 sT1 "coder" "B" (iv 1)) (Pv : Fld Z h0 a2 sT1 "value" "[B" (.ref t)) (Pa : Arv Z h0 t kt .byte (4 : Int32) us (.int 0)) (Pl : (us.length = 4)) (Wa : Arv Z h0 vv kv .byte (32 : Int32) vd (.int 0)) (Wl : (vd.length = 32)) (Wy : Z.heap.size ≤ vv) :
    Con l Z (⟨sT1, "getBytes", "([BIB)V"⟩ : MethodName) kC2 4 none ({ frames := 1, cells := 0, slots := 0, locals := 31 } : Room) #[(.ref a2), (.ref vv), (iv 0), (iv 1)] h0 (Q_gbc1_0 Z zC vF a2 t kt us vv kv vd h0) := by
  refine Con.intro (plainFor_of_name pn2) ?_
  intro p e s m below meth c T0 X0 hx hby hml hown0 hnm hret hlk hZ0 e0
  have N0 := Fr.nil Z.heap.size
  refine castGo (g' := mkF m 0 #[.val (.ref a2), .val (.ref vv), .val (iv 0), .val (iv 1)] []) (by first | rfl | (simp [entryFrame, mkF, argsToLocals, Value.category]; done)) ?_
  show Go _ _ _ _ (T0.setTop (mkF m 0 #[.val (.ref a2), .val (.ref vv), .val (iv 0), .val (iv 1)] []))
  refine aL X0 hx (hb hby e4_0) (q := 1) rfl rfl rfl ?_
  refine g_vi X0 hx hZ0 hown0 (wd75 hw) (wd76 hw) (notFace_of_selects (args := #[]) (mvT hZ0 (wd78 hw))) (wd78 hw) (wd77 hw) (by decide) Pe e0 (Con.back (W := 0) (rm_coder1 l Z a0 hw zC vF G a2 h0 O0 Pc) hZ0 (wd79 hw) (wd8 hw) (by decide) (by decide)) (by rw [hml]; rfl) (lenOf pd13 rfl) rfl (Nat.le_of_eq rfl) (hb hby e4_1) (q := 4) rfl (by decide) (by decide) ?_
  intro v213 T213 L213 X213 Q213
  obtain ⟨rfl, Nq213, e213⟩ := Q213
  have N213 := Fr.app N0 Nq213
  show Go _ _ _ _ (T213.setTop (mkF m 4 #[.val (.ref a2), .val (.ref vv), .val (iv 0), .val (iv 1)] [(iv 1)]))
  refine iL X213 hx (hb hby e4_4) (q := 5) rfl rfl ?_
  refine icN X213 hx (hb hby e4_5) (q := 8) rfl (by decide) ?_
  refine aL X213 hx (hb hby e4_8) (q := 9) rfl rfl rfl ?_
  refine g_getF X213 hx hZ0 hown0 (host := "") (Or.inl (wd33 hw)) Via.refl Pv e213 (hb hby e4_9) (q := 12) rfl ?_
  intro T214 X214 e214
  refine cI X214 hx (hb hby e4_12) (q := 13) rfl (z := (0 : Int32)) rfl ?_
  refine aL X214 hx (hb hby e4_13) (q := 14) rfl rfl rfl ?_
  refine iL X214 hx (hb hby e4_14) (q := 15) rfl rfl ?_
  refine iL X214 hx (hb hby e4_15) (q := 16) rfl rfl ?_
  refine g_ishl X214 hx (hb hby e4_16) (q := 17) rfl (z := (0 : Int32)) (by decide) ?_
  refine aL X214 hx (hb hby e4_17) (q := 18) rfl rfl rfl ?_
  refine g_getF X214 hx hZ0 hown0 (host := "") (Or.inl (wd33 hw)) Via.refl Pv e214 (hb hby e4_18) (q := 21) rfl ?_
  intro T215 X215 e215
  refine g_len X215 hx hZ0 Pa e215 (hb hby e4_21) (q := 22) rfl ?_
  refine g_cp X215 hx hZ0 hown0 (wd103 hw) (wd106 hw) (wd104 hw) (wd105 hw) (us := (sub us 0 4 (.int 0))) Pa Wa (Or.inl ⟨rfl, rfl⟩) (by decide) (by decide) (by decide) (by decide) (by decide) rfl (by rw [Wl]; exact (show 0 + 4 ≤ 32 from (by decide))) N213 Wy (by rw [hml]; rfl) (by decide) (W := 0) (Nat.le_of_eq rfl) (by decide) e215 (hb hby e4_22) (q := 25) rfl ?_
  intro T216 h216 L216 X216 e216 N216 K216q V216
  have Va216 : Arv Z h216 vv kv .byte (32 : Int32) (ins vd (sub us 0 4 (.int 0)) 0 4) (.int 0) := V216
  have Ln216 : (ins vd (sub us 0 4 (.int 0)) 0 4).length = 32 := (ins_len sub_len (by rw [Wl]; exact (show 0 + 4 ≤ 32 from (by decide)))).trans Wl
  refine g_goto X216 hx (hb hby e4_25) (q := 43) (by decide) (by decide) ?_
  have K217 : Keep h0 h216 [vv] := (Keep.refl h0 [vv]).trans K216q (allS (Or.inl (by simp)) all0)
  refine endP X216 hlk (fun _ => rfl) (lastV X216 hx hret (hb hby e4_43)) ?_ (by decide) (by decide)
  rw [e216]
  exact ⟨rfl, N216, K217, Va216, Ln216⟩
theorem e41_0 : decode kC26 0 = .ok (.aload_n 0, 1) := by decide +kernel
theorem e41_1 : decode kC26 1 = .ok (.invokevirtual 83, 3) := by decide +kernel
theorem wd163 (hw : HW a0 Z) : BW a0 Z (.code ⟨sT0, "isLatin1", "()Z"⟩ kC12 (1 : Nat) (Option.some Jvm.ClassFile.FieldType.boolean)) := wat hw 163 rfl
theorem pd19 : parseMethodDescriptor "()Z" = some ⟨[], some .boolean⟩ := by decide +kernel
theorem wd162 (hw : HW a0 Z) : BW a0 Z (.selects sT2 ⟨sT0, "isLatin1", "()Z"⟩ ⟨sT0, "isLatin1", "()Z"⟩) := wat hw 162 rfl
theorem wd288 (hw : HW a0 Z) : BW a0 Z (.methodLink sT0 (83 : Nat) ⟨sT0, "isLatin1", "()Z"⟩) := wat hw 288 rfl
theorem wd160 (hw : HW a0 Z) : BW a0 Z (.declares ⟨sT0, "isLatin1", "()Z"⟩) := wat hw 160 rfl
theorem wd161 (hw : HW a0 Z) : BW a0 Z (.instanceMethod ⟨sT0, "isLatin1", "()Z"⟩) := wat hw 161 rfl
theorem e41_4 : decode kC26 4 = .ok (.ifCond .ne 4, 3) := by decide +kernel
theorem e41_8 : decode kC26 8 = .ok (.aload_n 0, 1) := by decide +kernel
theorem e41_9 : decode kC26 9 = .ok (.getfield 15, 3) := by decide +kernel
theorem e41_12 : decode kC26 12 = .ok (.arraylength, 1) := by decide +kernel
theorem e41_13 : decode kC26 13 = .ok (.invokestatic 26, 3) := by decide +kernel
theorem wd289 (hw : HW a0 Z) : BW a0 Z (.methodLink sT0 (26 : Nat) ⟨sT5, "newBytesFor", "(I)[B"⟩) := wat hw 289 rfl
theorem e41_16 : decode kC26 16 = .ok (.astore_n 1, 1) := by decide +kernel
theorem e41_17 : decode kC26 17 = .ok (.aload_n 0, 1) := by decide +kernel
theorem e41_18 : decode kC26 18 = .ok (.getfield 15, 3) := by decide +kernel
theorem e41_21 : decode kC26 21 = .ok (.iconst 0, 1) := by decide +kernel
theorem e41_22 : decode kC26 22 = .ok (.aload_n 1, 1) := by decide +kernel
theorem e41_23 : decode kC26 23 = .ok (.iconst 0, 1) := by decide +kernel
theorem e41_24 : decode kC26 24 = .ok (.aload_n 0, 1) := by decide +kernel
theorem e41_25 : decode kC26 25 = .ok (.getfield 79, 3) := by decide +kernel
theorem e41_28 : decode kC26 28 = .ok (.invokestatic 125, 3) := by decide +kernel
theorem wd292 (hw : HW a0 Z) : BW a0 Z (.code ⟨sT10, "inflate", "([BI[BII)V"⟩ kC25 (5 : Nat) (Option.none : Option Jvm.ClassFile.FieldType)) := wat hw 292 rfl
theorem wd245 (hw : HW a0 Z) : BW a0 Z (.initialized sT10) := wat hw 245 rfl
theorem wd290 (hw : HW a0 Z) : BW a0 Z (.methodLink sT0 (125 : Nat) ⟨sT10, "inflate", "([BI[BII)V"⟩) := wat hw 290 rfl
theorem wd291 (hw : HW a0 Z) : BW a0 Z (.static ⟨sT10, "inflate", "([BI[BII)V"⟩) := wat hw 291 rfl
theorem e41_31 : decode kC26 31 = .ok (.aload_n 0, 1) := by decide +kernel
theorem e41_32 : decode kC26 32 = .ok (.aload_n 1, 1) := by decide +kernel
theorem e41_33 : decode kC26 33 = .ok (.putfield 15, 3) := by decide +kernel
theorem e41_36 : decode kC26 36 = .ok (.aload_n 0, 1) := by decide +kernel
theorem e41_37 : decode kC26 37 = .ok (.iconst 1, 1) := by decide +kernel
theorem e41_38 : decode kC26 38 = .ok (.putfield 22, 3) := by decide +kernel
theorem e41_41 : decode kC26 41 = .ok (.return_, 1) := by decide +kernel
def Q_ifl0 (Z : State) (zC : Int32) (vF : Value) (a1 : Addr) (vv : Addr) (kv : ClassId) (vd : List Value) (bs : List Int32) (h0 : Heap) (v : Option Value) (h : Heap) (L : List Loc) : Prop := ∃ (c : Addr), ∃ (kc : ClassId), v = none ∧ Fr Z.heap.size L ∧ Keep h0 h [a1] ∧ h0.size ≤ c ∧ Exa Z h a1 sT2 ∧ Fld Z h a1 sT0 "coder" "B" (iv 1) ∧ Fld Z h a1 sT0 "maybeLatin1" "Z" (iv 0) ∧ Fld Z h a1 sT0 "count" "I" (iv 0) ∧ Fld Z h a1 sT0 "value" "[B" (.ref c) ∧ Arv Z h c kc .byte (32 : Int32) (ins (List.replicate (2 * 16) (.int 0)) (flat bs) (2 * 0) (2 * 0)) (.int 0) ∧ Exa Z h c "[B" ∧ ((ins (List.replicate (2 * 16) (.int 0)) (flat bs) (2 * 0) (2 * 0)).length = 32)
theorem rm_ifl0 (l : Launch) (Z : State) (a0 : Array Value) (hw : HW a0 Z) (zC : Int32) (vF : Value) (G : GB l a0 Z zC vF) (a1 : Addr) (vv : Addr) (kv : ClassId) (vd : List Value) (bs : List Int32) (h0 : Heap) (O0 : Old Z Z.heap.size h0) (We : Exa Z h0 a1 sT2) (Wc : Fld Z h0 a1 sT0 "coder" "B" (iv 0)) (Wm : Fld Z h0 a1 sT0 "maybeLatin1" "Z" (iv 0)) (Wk : Fld Z h0 a1 sT0 "count" "I" (iv 0)) (Wv : Fld Z h0 a1 sT0 "value" "[B" (.ref vv)) (Wa : Arv Z h0 vv kv .byte (16 : Int32) vd (.int 0)) (Wl : (vd.length = 16)) (Wy : Z.heap.size ≤ vv) (HB : (SRC vd bs 0)) (Wz : Z.heap.size ≤ a1) :
    Con l Z (⟨sT0, "inflate", "()V"⟩ : MethodName) kC26 2 none ({ frames := 5, cells := 1, slots := 68, locals := 76 } : Room) #[(.ref a1)] h0 (Q_ifl0 Z zC vF a1 vv kv vd bs h0) := by
  refine Con.intro (plainFor_of_name pn4) ?_
  intro p e s m below meth c T0 X0 hx hby hml hown0 hnm hret hlk hZ0 e0
  have N0 := Fr.nil Z.heap.size
  refine castGo (g' := mkF m 0 #[.val (.ref a1), .unset] []) (by first | rfl | (simp [entryFrame, mkF, argsToLocals, Value.category]; done)) ?_
  show Go _ _ _ _ (T0.setTop (mkF m 0 #[.val (.ref a1), .unset] []))
  refine aL X0 hx (hb hby e41_0) (q := 1) rfl rfl rfl ?_
  refine g_vi X0 hx hZ0 hown0 (wd288 hw) (wd160 hw) (notFace_of_selects (args := #[]) (mvT hZ0 (wd162 hw))) (wd162 hw) (wd161 hw) (by decide) We e0 (Con.back (W := 0) (rm_isa0 l Z a0 hw zC vF G a1 h0 O0 Wc) hZ0 (wd163 hw) (wd52 hw) (by decide) (by decide)) (by rw [hml]; rfl) (lenOf pd19 rfl) rfl (Nat.le_of_eq rfl) (hb hby e41_1) (q := 4) rfl (by decide) (by decide) ?_
  intro v218 T218 L218 X218 Q218
  obtain ⟨rfl, Nq218, e218⟩ := Q218
  have N218 := Fr.app N0 Nq218
  show Go _ _ _ _ (T218.setTop (mkF m 4 #[.val (.ref a1), .unset] [(iv 1)]))
  refine ifY X218 hx (hb hby e41_4) (q := 8) (by decide) (by decide) (by decide) ?_
  refine aL X218 hx (hb hby e41_8) (q := 9) rfl rfl rfl ?_
  refine g_getF X218 hx hZ0 hown0 (host := "") (Or.inl (wd56 hw)) Via.refl Wv e218 (hb hby e41_9) (q := 12) rfl ?_
  intro T219 X219 e219
  refine g_len X219 hx hZ0 Wa e219 (hb hby e41_12) (q := 13) rfl ?_
  refine g_st X219 hx hZ0 hown0 (wd289 hw) (wd268 hw) (wd22 hw) (wd269 hw) (by decide) e219 (Con.back (W := 0) (rm_nbf l Z a0 hw zC vF G 16 h0 O0 (show 16 ≤ 34 from by omega)) hZ0 (wd269 hw) (wd22 hw) (by decide) (by decide)) (by rw [hml]; rfl) (lenOf pd7 rfl) rfl (Nat.le_of_eq rfl) (hb hby e41_13) (q := 16) rfl (by decide) (by decide) ?_
  intro v220 T220 L220 X220 Q220
  obtain ⟨a_220, kb_220, rfl, Nq220, K220q, q220_0, q220_1, q220_2⟩ := Q220
  have N220 := Fr.app N218 Nq220
  show Go _ _ _ _ (T220.setTop (mkF m 16 #[.val (.ref a1), .unset] [(.ref a_220)]))
  refine sA X220 hx (hb hby e41_16) (q := 17) rfl rfl (Ls' := #[.val (.ref a1), .val (.ref a_220)]) rfl ?_
  refine aL X220 hx (hb hby e41_17) (q := 18) rfl rfl rfl ?_
  have f221 := Wv.keep K220q nin0
  refine g_getF X220 hx hZ0 hown0 (host := "") (Or.inl (wd56 hw)) Via.refl f221 rfl (hb hby e41_18) (q := 21) rfl ?_
  intro T222 X222 e222
  refine cI X222 hx (hb hby e41_21) (q := 22) rfl (z := (0 : Int32)) rfl ?_
  refine aL X222 hx (hb hby e41_22) (q := 23) rfl rfl rfl ?_
  refine cI X222 hx (hb hby e41_23) (q := 24) rfl (z := (0 : Int32)) rfl ?_
  refine aL X222 hx (hb hby e41_24) (q := 25) rfl rfl rfl ?_
  have f223 := Wk.keep K220q nin0
  refine g_getF X222 hx hZ0 hown0 (host := "") (Or.inl (wd80 hw)) Via.refl f223 e222 (hb hby e41_25) (q := 28) rfl ?_
  intro T224 X224 e224
  have f229 := Wa.keep K220q nin0
  have gz230 : Z.heap.size ≤ a_220 := Nat.le_trans O0.2.1 q220_0
  have ne231 : vv ≠ a_220 := (Nat.ne_of_lt (Nat.lt_of_lt_of_le (Nat.lt_of_lt_of_le Wa.lt (Nat.le_refl _)) q220_0))
  have f232 := O0.keep K220q all0
  refine g_st X224 hx hZ0 hown0 (wd290 hw) (wd291 hw) (wd245 hw) (wd292 hw) (by decide) e224 (Con.back (W := 0) (rm_linf l Z a0 hw zC vF G vv kv vd 16 bs a_220 kb_220 (List.replicate (2 * 16) (.int 0)) (2 * 16) 0 0 T220.heap f232 q220_1 rfl (show 2 * (0 + 0) ≤ (2 * 16) from by omega) (show (2 * 16) < 1000 from by omega) f229 (show 0 ≤ 16 from by omega) (show 16 < 1000 from by omega) HB gz230 ne231) hZ0 (wd292 hw) (wd245 hw) (by decide) (by decide)) (by rw [hml]; rfl) (lenOf pd6 rfl) rfl (Nat.le_of_eq rfl) (hb hby e41_28) (q := 31) rfl (by decide) (by decide) ?_
  intro v228 T228 L228 X228 Q228
  obtain ⟨rfl, Nq228, K228q, q228_0⟩ := Q228
  have N228 := Fr.app N220 Nq228
  show Go _ _ _ _ (T228.setTop (mkF m 31 #[.val (.ref a1), .val (.ref a_220)] []))
  have Vz233 : Arv Z T228.heap a_220 kb_220 .byte (32 : Int32) (ins (List.replicate (2 * 16) (.int 0)) (flat bs) (2 * 0) (2 * 0)) (.int 0) := q228_0
  refine aL X228 hx (hb hby e41_31) (q := 32) rfl rfl rfl ?_
  refine aL X228 hx (hb hby e41_32) (q := 33) rfl rfl rfl ?_
  have ne234 : a1 ≠ a_220 := (Nat.ne_of_lt (Nat.lt_of_lt_of_le (Nat.lt_of_lt_of_le We.lt (Nat.le_refl _)) q220_0))
  have f235 := f221.keep K228q (ninS ne234 nin0)
  have f236 := We.keep K220q
  have f237 := f236.keep K228q
  refine g_putF X228 hx hZ0 hown0 (host := "") (Or.inl (wd56 hw)) Via.refl f235 f237 (Or.inl (wd57 hw)) (wd43 hw) (ty := (.array .byte)) (by decide) rfl rfl rfl (hb hby e41_33) (q := 36) rfl ?_
  intro T238 h238 X238 e238 W238
  have N238 := Fr.snoc X238 N228 Wz
  have Fw238 : Fld Z h238 a1 sT0 "value" "[B" (.ref a_220) := f235.same W238
  refine aL X238 hx (hb hby e41_36) (q := 37) rfl rfl rfl ?_
  refine cI X238 hx (hb hby e41_37) (q := 38) rfl (z := (1 : Int32)) rfl ?_
  have f239 := Wc.keep K220q nin0
  have f240 := f239.keep K228q (ninS ne234 nin0)
  have f241 := f240.other W238 (Or.inr (slot_ne (Or.inl (wd59 hw)) (Or.inl (wd57 hw)) (by decide) (t := .byte) (t' := (.array .byte)) (by decide) (by decide)))
  have f242 := f237.wr W238
  refine g_putF X238 hx hZ0 hown0 (host := "") (Or.inl (wd58 hw)) Via.refl f241 f242 (Or.inl (wd59 hw)) (wd43 hw) (ty := .byte) (by decide) rfl rfl e238 (hb hby e41_38) (q := 41) rfl ?_
  intro T243 h243 X243 e243 W243
  have N243 := Fr.snoc X243 N238 Wz
  have Fw243 : Fld Z h243 a1 sT0 "coder" "B" (iv 1) := f241.same W243
  have K244 : Keep h0 T220.heap [a1] := (Keep.refl h0 [a1]).trans K220q all0
  have gh245 : h0.size ≤ a_220 := Nat.le_trans (Nat.le_refl _) q220_0
  have K246 : Keep h0 T228.heap [a1] := K244.trans K228q (allS (Or.inr gh245) all0)
  have K247 : Keep h0 h238 [a1] := K246.wr W238 (Or.inl (by simp))
  have K248 : Keep h0 h243 [a1] := K247.wr W243 (Or.inl (by simp))
  have f249 := f242.wr W243
  have f250 := Wm.keep K220q nin0
  have f251 := f250.keep K228q (ninS ne234 nin0)
  have f252 := f251.other W238 (Or.inr (slot_ne (Or.inl (wd310 hw)) (Or.inl (wd57 hw)) (by decide) (t := .boolean) (t' := (.array .byte)) (by decide) (by decide)))
  have f253 := f252.other W243 (Or.inr (slot_ne (Or.inl (wd310 hw)) (Or.inl (wd59 hw)) (by decide) (t := .boolean) (t' := .byte) (by decide) (by decide)))
  have f254 := f223.keep K228q (ninS ne234 nin0)
  have f255 := f254.other W238 (Or.inr (slot_ne (Or.inl (wd81 hw)) (Or.inl (wd57 hw)) (by decide) (t := .int) (t' := (.array .byte)) (by decide) (by decide)))
  have f256 := f255.other W243 (Or.inr (slot_ne (Or.inl (wd81 hw)) (Or.inl (wd59 hw)) (by decide) (t := .int) (t' := .byte) (by decide) (by decide)))
  have f257 := Fw238.other W243 (Or.inr (slot_ne (Or.inl (wd57 hw)) (Or.inl (wd59 hw)) (by decide) (t := (.array .byte)) (t' := .byte) (by decide) (by decide)))
  have ne258 : a_220 ≠ a1 := (Ne.symm ne234)
  have f259 := Vz233.other W238 ne258
  have f260 := f259.other W243 ne258
  have f261 := q220_2.keep K228q
  have f262 := f261.wr W238
  have f263 := f262.wr W243
  refine endP X243 hlk (fun _ => rfl) (lastV X243 hx hret (hb hby e41_41)) ?_ (by decide) (by decide)
  rw [e243]
  exact ⟨a_220, kb_220, rfl, N243, K248, gh245, f249, Fw243, f253, f256, f257, f260, f263, ((ins_len (by rw [flat_len, HB.1]) (by rw [List.length_replicate]; decide)).trans List.length_replicate)⟩
theorem e47_17 : decode kC23 17 = .ok (.aload_n 0, 1) := by decide +kernel
theorem e47_18 : decode kC23 18 = .ok (.invokevirtual 195, 3) := by decide +kernel
theorem wd287 (hw : HW a0 Z) : BW a0 Z (.code ⟨sT0, "inflate", "()V"⟩ kC26 (2 : Nat) (Option.none : Option Jvm.ClassFile.FieldType)) := wat hw 287 rfl
theorem pd20 : parseMethodDescriptor "()V" = some ⟨[], none⟩ := by decide +kernel
theorem wd283 (hw : HW a0 Z) : BW a0 Z (.methodLink sT0 (195 : Nat) ⟨sT0, "inflate", "()V"⟩) := wat hw 283 rfl
theorem wd284 (hw : HW a0 Z) : BW a0 Z (.instanceMethod ⟨sT0, "inflate", "()V"⟩) := wat hw 284 rfl
theorem wd286 (hw : HW a0 Z) : BW a0 Z (.selects sT2 ⟨sT0, "inflate", "()V"⟩ ⟨sT0, "inflate", "()V"⟩) := wat hw 286 rfl
theorem wd285 (hw : HW a0 Z) : BW a0 Z (.privateMethod ⟨sT0, "inflate", "()V"⟩) := wat hw 285 rfl
def Q_ifn0 (Z : State) (zC : Int32) (vF : Value) (a1 : Addr) (vv : Addr) (kv : ClassId) (vd : List Value) (bs : List Int32) (a2 : Addr) (h0 : Heap) (v : Option Value) (h : Heap) (L : List Loc) : Prop := ∃ (c : Addr), ∃ (kc : ClassId), v = none ∧ Fr Z.heap.size L ∧ Keep h0 h [a1] ∧ h0.size ≤ c ∧ Exa Z h a1 sT2 ∧ Fld Z h a1 sT0 "coder" "B" (iv 1) ∧ Fld Z h a1 sT0 "maybeLatin1" "Z" (iv 0) ∧ Fld Z h a1 sT0 "count" "I" (iv 0) ∧ Fld Z h a1 sT0 "value" "[B" (.ref c) ∧ Arv Z h c kc .byte (32 : Int32) (ins (List.replicate (2 * 16) (.int 0)) (flat bs) (2 * 0) (2 * 0)) (.int 0) ∧ Exa Z h c "[B" ∧ ((ins (List.replicate (2 * 16) (.int 0)) (flat bs) (2 * 0) (2 * 0)).length = 32)
theorem rm_ifn0 (l : Launch) (Z : State) (a0 : Array Value) (hw : HW a0 Z) (zC : Int32) (vF : Value) (G : GB l a0 Z zC vF) (a1 : Addr) (vv : Addr) (kv : ClassId) (vd : List Value) (bs : List Int32) (a2 : Addr) (h0 : Heap) (O0 : Old Z Z.heap.size h0) (Pe : Exa Z h0 a2 sT1) (Pc : Fld Z h0 a2 sT1 "coder" "B" (iv 1)) (We : Exa Z h0 a1 sT2) (Wc : Fld Z h0 a1 sT0 "coder" "B" (iv 0)) (Wm : Fld Z h0 a1 sT0 "maybeLatin1" "Z" (iv 0)) (Wk : Fld Z h0 a1 sT0 "count" "I" (iv 0)) (Wv : Fld Z h0 a1 sT0 "value" "[B" (.ref vv)) (Wa : Arv Z h0 vv kv .byte (16 : Int32) vd (.int 0)) (Wl : (vd.length = 16)) (Wy : Z.heap.size ≤ vv) (HB : (SRC vd bs 0)) (Wz : Z.heap.size ≤ a1) :
    Con l Z (⟨sT0, "inflateIfNeededFor", "(Ljava/lang/String;)V"⟩ : MethodName) kC23 2 none ({ frames := 6, cells := 1, slots := 68, locals := 89 } : Room) #[(.ref a1), (.ref a2)] h0 (Q_ifn0 Z zC vF a1 vv kv vd bs a2 h0) := by
  obtain ⟨hl, SC, PC, rF, SF, SA, SH, SL, hX⟩ := id G
  refine Con.intro (plainFor_of_name pn4) ?_
  intro p e s m below meth c T0 X0 hx hby hml hown0 hnm hret hlk hZ0 e0
  have N0 := Fr.nil Z.heap.size
  refine castGo (g' := mkF m 0 #[.val (.ref a1), .val (.ref a2)] []) (by first | rfl | (simp [entryFrame, mkF, argsToLocals, Value.category]; done)) ?_
  show Go _ _ _ _ (T0.setTop (mkF m 0 #[.val (.ref a1), .val (.ref a2)] []))
  refine g_getS X0 hx hZ0 hown0 (host := "") (Or.inl (wd55 hw)) Via.refl (SC.ext O0.2) e0 (hb hby e47_0) (q := 3) rfl ?_
  intro T264 X264 e264
  refine ifN X264 hx (hb hby e47_3) (q := 6) rfl ((if0 _ _).trans (feq PC).1) ?_
  refine aL X264 hx (hb hby e47_6) (q := 7) rfl rfl rfl ?_
  refine g_getF X264 hx hZ0 hown0 (host := "") (Or.inl (wd58 hw)) Via.refl Wc e264 (hb hby e47_7) (q := 10) rfl ?_
  intro T265 X265 e265
  refine aL X265 hx (hb hby e47_10) (q := 11) rfl rfl rfl ?_
  refine g_vi X265 hx hZ0 hown0 (wd97 hw) (wd76 hw) (notFace_of_selects (args := #[]) (mvT hZ0 (wd78 hw))) (wd78 hw) (wd77 hw) (by decide) Pe e265 (Con.back (W := 1) (rm_coder1 l Z a0 hw zC vF G a2 h0 O0 Pc) hZ0 (wd79 hw) (wd8 hw) (by decide) (by decide)) (by rw [hml]; rfl) (lenOf pd13 rfl) rfl (Nat.le_of_eq rfl) (hb hby e47_11) (q := 14) rfl (by decide) (by decide) ?_
  intro v266 T266 L266 X266 Q266
  obtain ⟨rfl, Nq266, e266⟩ := Q266
  have N266 := Fr.app N0 Nq266
  show Go _ _ _ _ (T266.setTop (mkF m 14 #[.val (.ref a1), .val (.ref a2)] [(iv 1), (iv 0)]))
  refine icN X266 hx (hb hby e47_14) (q := 17) rfl (by decide) ?_
  refine aL X266 hx (hb hby e47_17) (q := 18) rfl rfl rfl ?_
  refine g_pvC X266 hx hZ0 hown0 (wd283 hw) (wd284 hw) (wd286 hw) (wd285 hw) (wd287 hw) (by decide) We e266 (Con.back (W := 0) (rm_ifl0 l Z a0 hw zC vF G a1 vv kv vd bs h0 O0 We Wc Wm Wk Wv Wa Wl Wy HB Wz) hZ0 (wd287 hw) (wd52 hw) (by decide) (by decide)) (by rw [hml]; rfl) (lenOf pd20 rfl) rfl (Nat.le_of_eq rfl) (hb hby e47_18) (q := 21) rfl (by decide) (by decide) ?_
  intro v267 T267 L267 X267 Q267
  obtain ⟨c_267, kc_267, rfl, Nq267, K267q, q267_0, q267_1, q267_2, q267_3, q267_4, q267_5, q267_6, q267_7, q267_8⟩ := Q267
  have N267 := Fr.app N266 Nq267
  show Go _ _ _ _ (T267.setTop (mkF m 21 #[.val (.ref a1), .val (.ref a2)] []))
  have K268 : Keep h0 T267.heap [a1] := (Keep.refl h0 [a1]).trans K267q (allS (Or.inl (by simp)) all0)
  have gh269 : h0.size ≤ c_267 := Nat.le_trans (Nat.le_refl _) q267_0
  refine endP X267 hlk (fun _ => rfl) (lastV X267 hx hret (hb hby e47_21)) ?_ (by decide) (by decide)
  exact ⟨c_267, kc_267, rfl, N267, K268, gh269, q267_1, q267_2, q267_3, q267_4, q267_5, q267_6, q267_7, q267_8⟩
def Q_psaLW0 (Z : State) (zC : Int32) (vF : Value) (a1 : Addr) (a2 : Addr) (t : Addr) (kt : ClassId) (us : List Value) (vv : Addr) (kv : ClassId) (vd : List Value) (bs : List Int32) (h0 : Heap) (v : Option Value) (h : Heap) (L : List Loc) : Prop := ∃ (c : Addr), ∃ (kc : ClassId), v = none ∧ Fr Z.heap.size L ∧ Keep h0 h [a1] ∧ h0.size ≤ c ∧ Exa Z h a1 sT2 ∧ Fld Z h a1 sT0 "coder" "B" (iv 1) ∧ Fld Z h a1 sT0 "maybeLatin1" "Z" (iv 0) ∧ Fld Z h a1 sT0 "count" "I" (iv 0) ∧ Fld Z h a1 sT0 "value" "[B" (.ref c) ∧ Exa Z h c "[B" ∧ Arv Z h c kc .byte (32 : Int32) (ins (ins (List.replicate (2 * 16) (.int 0)) (flat bs) (2 * 0) (2 * 0)) (sub us 0 4 (.int 0)) 0 4) (.int 0) ∧ ((ins (ins (List.replicate (2 * 16) (.int 0)) (flat bs) (2 * 0) (2 * 0)) (sub us 0 4 (.int 0)) 0 4).length = 32)
theorem rm_psaLW0 (l : Launch) (Z : State) (a0 : Array Value) (hw : HW a0 Z) (zC : Int32) (vF : Value) (G : GB l a0 Z zC vF) (a1 : Addr) (a2 : Addr) (t : Addr) (kt : ClassId) (us : List Value) (vv : Addr) (kv : ClassId) (vd : List Value) (bs : List Int32) (h0 : Heap) (O0 : Old Z Z.heap.size h0) (Pe : Exa Z h0 a2 sT1) (Pc : Fld Z h0 a2 sT1 "coder" "B" (iv 1)) (Pv : Fld Z h0 a2 sT1 "value" "[B" (.ref t)) (Pa : Arv Z h0 t kt .byte (4 : Int32) us (.int 0)) (Pl : (us.length = 4)) (We : Exa Z h0 a1 sT2) (Wc : Fld Z h0 a1 sT0 "coder" "B" (iv 0)) (Wm : Fld Z h0 a1 sT0 "maybeLatin1" "Z" (iv 0)) (Wk : Fld Z h0 a1 sT0 "count" "I" (iv 0)) (Wv : Fld Z h0 a1 sT0 "value" "[B" (.ref vv)) (Wa : Arv Z h0 vv kv .byte (16 : Int32) vd (.int 0)) (Wl : (vd.length = 16)) (Wy : Z.heap.size ≤ vv) (HB : (SRC vd bs 0)) (Wz : Z.heap.size ≤ a1) :
    Con l Z (⟨sT0, "putStringAt", "(ILjava/lang/String;)V"⟩ : MethodName) kC24 3 none ({ frames := 7, cells := 1, slots := 68, locals := 102 } : Room) #[(.ref a1), (iv 0), (.ref a2)] h0 (Q_psaLW0 Z zC vF a1 a2 t kt us vv kv vd bs h0) := by
  refine Con.intro (plainFor_of_name pn4) ?_
  intro p e s m below meth c T0 X0 hx hby hml hown0 hnm hret hlk hZ0 e0
  have N0 := Fr.nil Z.heap.size
  refine castGo (g' := mkF m 0 #[.val (.ref a1), .val (iv 0), .val (.ref a2)] []) (by first | rfl | (simp [entryFrame, mkF, argsToLocals, Value.category]; done)) ?_
  show Go _ _ _ _ (T0.setTop (mkF m 0 #[.val (.ref a1), .val (iv 0), .val (.ref a2)] []))
  refine aL X0 hx (hb hby e48_0) (q := 1) rfl rfl rfl ?_
  refine aL X0 hx (hb hby e48_1) (q := 2) rfl rfl rfl ?_
  refine g_pvC X0 hx hZ0 hown0 (wd92 hw) (wd93 hw) (wd95 hw) (wd94 hw) (wd96 hw) (by decide) We e0 (Con.back (W := 0) (rm_ifn0 l Z a0 hw zC vF G a1 vv kv vd bs a2 h0 O0 Pe Pc We Wc Wm Wk Wv Wa Wl Wy HB Wz) hZ0 (wd96 hw) (wd52 hw) (by decide) (by decide)) (by rw [hml]; rfl) (lenOf pd15 rfl) rfl (Nat.le_of_eq rfl) (hb hby e48_2) (q := 5) rfl (by decide) (by decide) ?_
  intro v270 T270 L270 X270 Q270
  obtain ⟨c_270, kc_270, rfl, Nq270, K270q, q270_0, q270_1, q270_2, q270_3, q270_4, q270_5, q270_6, q270_7, q270_8⟩ := Q270
  have N270 := Fr.app N0 Nq270
  show Go _ _ _ _ (T270.setTop (mkF m 5 #[.val (.ref a1), .val (iv 0), .val (.ref a2)] []))
  refine aL X270 hx (hb hby e48_5) (q := 6) rfl rfl rfl ?_
  refine aL X270 hx (hb hby e48_6) (q := 7) rfl rfl rfl ?_
  refine g_getF X270 hx hZ0 hown0 (host := "") (Or.inl (wd56 hw)) Via.refl q270_5 rfl (hb hby e48_7) (q := 10) rfl ?_
  intro T271 X271 e271
  refine iL X271 hx (hb hby e48_10) (q := 11) rfl rfl ?_
  refine aL X271 hx (hb hby e48_11) (q := 12) rfl rfl rfl ?_
  refine g_getF X271 hx hZ0 hown0 (host := "") (Or.inl (wd58 hw)) Via.refl q270_2 e271 (hb hby e48_12) (q := 15) rfl ?_
  intro T272 X272 e272
  have f281 := Pe.keep K270q
  have ne282 : a2 ≠ a1 := (ne_exa Pe We (by decide))
  have f283 := Pc.keep K270q (ninS ne282 nin0)
  have f284 := Pv.keep K270q (ninS ne282 nin0)
  have ne285 : t ≠ a1 := (Ne.symm (Exa.neArv We Pa (wd43 hw)))
  have f286 := Pa.keep K270q (ninS ne285 nin0)
  have gz287 : Z.heap.size ≤ c_270 := Nat.le_trans O0.2.1 q270_0
  have f288 := O0.keep K270q (allS Wz all0)
  refine g_vi X272 hx hZ0 hown0 (wd98 hw) (wd99 hw) (notFace_of_selects (args := #[]) (mvT hZ0 (wd101 hw))) (wd101 hw) (wd100 hw) (by decide) f281 e272 (Con.back (W := 0) (rm_gbc1_0 l Z a0 hw zC vF G a2 t kt us c_270 kc_270 (ins (List.replicate (2 * 16) (.int 0)) (flat bs) (2 * 0) (2 * 0)) T270.heap f288 f281 f283 f284 f286 Pl q270_6 q270_8 gz287) hZ0 (wd102 hw) (wd8 hw) (by decide) (by decide)) (by rw [hml]; rfl) (lenOf pd16 rfl) rfl (Nat.le_of_eq rfl) (hb hby e48_15) (q := 18) rfl (by decide) (by decide) ?_
  intro v280 T280 L280 X280 Q280
  obtain ⟨rfl, Nq280, K280q, q280_0, q280_1⟩ := Q280
  have N280 := Fr.app N270 Nq280
  show Go _ _ _ _ (T280.setTop (mkF m 18 #[.val (.ref a1), .val (iv 0), .val (.ref a2)] []))
  have K289 : Keep h0 T270.heap [a1] := (Keep.refl h0 [a1]).trans K270q (allS (Or.inl (by simp)) all0)
  have gh290 : h0.size ≤ c_270 := Nat.le_trans (Nat.le_refl _) q270_0
  have K291 : Keep h0 T280.heap [a1] := K289.trans K280q (allS (Or.inr gh290) all0)
  have f292 := q270_1.keep K280q
  have ne293 : a1 ≠ c_270 := (Nat.ne_of_lt (Nat.lt_of_lt_of_le (Nat.lt_of_lt_of_le We.lt (Nat.le_refl _)) q270_0))
  have f294 := q270_2.keep K280q (ninS ne293 nin0)
  have f295 := q270_3.keep K280q (ninS ne293 nin0)
  have f296 := q270_4.keep K280q (ninS ne293 nin0)
  have f297 := q270_5.keep K280q (ninS ne293 nin0)
  have f298 := q270_7.keep K280q
  refine endP X280 hlk (fun _ => rfl) (lastV X280 hx hret (hb hby e48_18)) ?_ (by decide) (by decide)
  exact ⟨c_270, kc_270, rfl, N280, K291, gh290, f292, f294, f295, f296, f297, f298, q280_0, q280_1⟩
def Q_aapLW0 (Z : State) (zC : Int32) (vF : Value) (a1 : Addr) (vv : Addr) (kv : ClassId) (vd : List Value) (a2 : Addr) (t : Addr) (kt : ClassId) (us : List Value) (bs : List Int32) (h0 : Heap) (v : Option Value) (h : Heap) (L : List Loc) : Prop := ∃ (c : Addr), ∃ (kc : ClassId), v = some (.ref a1) ∧ Fr Z.heap.size L ∧ Keep h0 h [a1] ∧ Exa Z h a1 sT2 ∧ Fld Z h a1 sT0 "coder" "B" (iv 1) ∧ Fld Z h a1 sT0 "count" "I" (iv 2) ∧ Fld Z h a1 sT0 "maybeLatin1" "Z" (iv 0) ∧ Fld Z h a1 sT0 "value" "[B" (.ref c) ∧ Arv Z h c kc .byte (32 : Int32) (ins (ins (List.replicate (2 * 16) (.int 0)) (flat bs) (2 * 0) (2 * 0)) (sub us 0 4 (.int 0)) 0 4) (.int 0) ∧ ((ins (ins (List.replicate (2 * 16) (.int 0)) (flat bs) (2 * 0) (2 * 0)) (sub us 0 4 (.int 0)) 0 4).length = 32) ∧ h0.size ≤ c ∧ Exa Z h c "[B"
theorem rm_aapLW0 (l : Launch) (Z : State) (a0 : Array Value) (hw : HW a0 Z) (zC : Int32) (vF : Value) (G : GB l a0 Z zC vF) (a1 : Addr) (vv : Addr) (kv : ClassId) (vd : List Value) (a2 : Addr) (t : Addr) (kt : ClassId) (us : List Value) (bs : List Int32) (h0 : Heap) (O0 : Old Z Z.heap.size h0) (Qe : Exa Z h0 a1 sT2) (Qc : Fld Z h0 a1 sT0 "coder" "B" (iv 0)) (Qn : Fld Z h0 a1 sT0 "count" "I" (iv 0)) (Qm : Fld Z h0 a1 sT0 "maybeLatin1" "Z" (iv 0)) (Qv : Fld Z h0 a1 sT0 "value" "[B" (.ref vv)) (Qa : Arv Z h0 vv kv .byte (16 : Int32) vd (.int 0)) (Ql : (vd.length = 16)) (QE : Exa Z h0 vv "[B") (Qz : Z.heap.size ≤ a1) (Qy : Z.heap.size ≤ vv) (Pe : Exa Z h0 a2 sT1) (Pc : Fld Z h0 a2 sT1 "coder" "B" (iv 1)) (Pv : Fld Z h0 a2 sT1 "value" "[B" (.ref t)) (Pa : Arv Z h0 t kt .byte (4 : Int32) us (.int 0)) (Pl : (us.length = 4)) (HB : (SRC vd bs 0)) :
    Con l Z (⟨sT0, "append", "(Ljava/lang/String;)Ljava/lang/AbstractStringBuilder;"⟩ : MethodName) kC9 3 (some (.object sT0)) ({ frames := 8, cells := 1, slots := 68, locals := 116 } : Room) #[(.ref a1), (.ref a2)] h0 (Q_aapLW0 Z zC vF a1 vv kv vd a2 t kt us bs h0) := by
  refine Con.intro (plainFor_of_name pn4) ?_
  intro p e s m below meth c T0 X0 hx hby hml hown0 hnm hret hlk hZ0 e0
  have N0 := Fr.nil Z.heap.size
  refine castGo (g' := mkF m 0 #[.val (.ref a1), .val (.ref a2), .unset] []) (by first | rfl | (simp [entryFrame, mkF, argsToLocals, Value.category]; done)) ?_
  show Go _ _ _ _ (T0.setTop (mkF m 0 #[.val (.ref a1), .val (.ref a2), .unset] []))
  refine aL X0 hx (hb hby e43_0) (q := 1) rfl rfl rfl ?_
  refine nnY X0 hx (hb hby e43_1) (q := 9) (by decide) (by decide) ?_
  refine aL X0 hx (hb hby e43_9) (q := 10) rfl rfl rfl ?_
  refine g_vi X0 hx hZ0 hown0 (wd70 hw) (wd71 hw) (notFace_of_selects (args := #[]) (mvT hZ0 (wd73 hw))) (wd73 hw) (wd72 hw) (by decide) Pe e0 (Con.back (W := 0) (rm_len2_1 l Z a0 hw zC vF G a2 t kt us h0 O0 Pe Pc Pv Pa) hZ0 (wd74 hw) (wd8 hw) (by decide) (by decide)) (by rw [hml]; rfl) (lenOf pd17 rfl) rfl (Nat.le_of_eq rfl) (hb hby e43_10) (q := 13) rfl (by decide) (by decide) ?_
  intro v299 T299 L299 X299 Q299
  obtain ⟨rfl, Nq299, e299⟩ := Q299
  have N299 := Fr.app N0 Nq299
  show Go _ _ _ _ (T299.setTop (mkF m 13 #[.val (.ref a1), .val (.ref a2), .unset] [(iv 2)]))
  refine sI X299 hx (hb hby e43_13) (q := 14) rfl (Ls' := #[.val (.ref a1), .val (.ref a2), .val (iv 2)]) rfl ?_
  refine aL X299 hx (hb hby e43_14) (q := 15) rfl rfl rfl ?_
  refine aL X299 hx (hb hby e43_15) (q := 16) rfl rfl rfl ?_
  refine g_getF X299 hx hZ0 hown0 (host := "") (Or.inl (wd80 hw)) Via.refl Qn e299 (hb hby e43_16) (q := 19) rfl ?_
  intro T300 X300 e300
  refine iL X300 hx (hb hby e43_19) (q := 20) rfl rfl ?_
  refine g_iadd X300 hx (hb hby e43_20) (q := 21) rfl (z := (2 : Int32)) (by decide) ?_
  refine g_pvC X300 hx hZ0 hown0 (wd82 hw) (wd83 hw) (wd85 hw) (wd84 hw) (wd86 hw) (by decide) Qe e300 (Con.back (W := 0) (rm_ens0_0 l Z a0 hw zC vF G a1 vv kv vd h0 O0 Qe Qc Qv Qa) hZ0 (wd86 hw) (wd52 hw) (by decide) (by decide)) (by rw [hml]; rfl) (lenOf pd14 rfl) rfl (Nat.le_of_eq rfl) (hb hby e43_21) (q := 24) rfl (by decide) (by decide) ?_
  intro v301 T301 L301 X301 Q301
  obtain ⟨rfl, Nq301, e301⟩ := Q301
  have N301 := Fr.app N299 Nq301
  show Go _ _ _ _ (T301.setTop (mkF m 24 #[.val (.ref a1), .val (.ref a2), .val (iv 2)] []))
  refine aL X301 hx (hb hby e43_24) (q := 25) rfl rfl rfl ?_
  refine aL X301 hx (hb hby e43_25) (q := 26) rfl rfl rfl ?_
  refine g_getF X301 hx hZ0 hown0 (host := "") (Or.inl (wd80 hw)) Via.refl Qn e301 (hb hby e43_26) (q := 29) rfl ?_
  intro T302 X302 e302
  refine aL X302 hx (hb hby e43_29) (q := 30) rfl rfl rfl ?_
  refine g_pvC X302 hx hZ0 hown0 (wd87 hw) (wd88 hw) (wd90 hw) (wd89 hw) (wd91 hw) (by decide) Qe e302 (Con.back (W := 0) (rm_psaLW0 l Z a0 hw zC vF G a1 a2 t kt us vv kv vd bs h0 O0 Pe Pc Pv Pa Pl Qe Qc Qm Qn Qv Qa Ql Qy HB Qz) hZ0 (wd91 hw) (wd52 hw) (by decide) (by decide)) (by rw [hml]; rfl) (lenOf pd18 rfl) rfl (Nat.le_of_eq rfl) (hb hby e43_30) (q := 33) rfl (by decide) (by decide) ?_
  intro v303 T303 L303 X303 Q303
  obtain ⟨c_303, kc_303, rfl, Nq303, K303q, q303_0, q303_1, q303_2, q303_3, q303_4, q303_5, q303_6, q303_7, q303_8⟩ := Q303
  have N303 := Fr.app N301 Nq303
  show Go _ _ _ _ (T303.setTop (mkF m 33 #[.val (.ref a1), .val (.ref a2), .val (iv 2)] []))
  refine aL X303 hx (hb hby e43_33) (q := 34) rfl rfl rfl ?_
  refine g_dup X303 hx (hb hby e43_34) (q := 35) rfl rfl ?_
  refine g_getF X303 hx hZ0 hown0 (host := "") (Or.inl (wd80 hw)) Via.refl q303_4 rfl (hb hby e43_35) (q := 38) rfl ?_
  intro T304 X304 e304
  refine iL X304 hx (hb hby e43_38) (q := 39) rfl rfl ?_
  refine g_iadd X304 hx (hb hby e43_39) (q := 40) rfl (z := (2 : Int32)) (by decide) ?_
  refine g_putF X304 hx hZ0 hown0 (host := "") (Or.inl (wd80 hw)) Via.refl q303_4 q303_1 (Or.inl (wd81 hw)) (wd43 hw) (ty := .int) (by decide) rfl rfl e304 (hb hby e43_40) (q := 43) rfl ?_
  intro T305 h305 X305 e305 W305
  have N305 := Fr.snoc X305 N303 Qz
  have Fw305 : Fld Z h305 a1 sT0 "count" "I" (iv 2) := q303_4.same W305
  refine aL X305 hx (hb hby e43_43) (q := 44) rfl rfl rfl ?_
  have K306 : Keep h0 T303.heap [a1] := (Keep.refl h0 [a1]).trans K303q (allS (Or.inl (by simp)) all0)
  have K307 : Keep h0 h305 [a1] := K306.wr W305 (Or.inl (by simp))
  have f308 := q303_1.wr W305
  have f309 := q303_2.other W305 (Or.inr (slot_ne (Or.inl (wd59 hw)) (Or.inl (wd81 hw)) (by decide) (t := .byte) (t' := .int) (by decide) (by decide)))
  have f310 := q303_3.other W305 (Or.inr (slot_ne (Or.inl (wd310 hw)) (Or.inl (wd81 hw)) (by decide) (t := .boolean) (t' := .int) (by decide) (by decide)))
  have f311 := q303_5.other W305 (Or.inr (slot_ne (Or.inl (wd57 hw)) (Or.inl (wd81 hw)) (by decide) (t := (.array .byte)) (t' := .int) (by decide) (by decide)))
  have ne312 : c_303 ≠ a1 := (Nat.ne_of_gt (Nat.lt_of_lt_of_le (Nat.lt_of_lt_of_le Qe.lt (Nat.le_refl _)) q303_0))
  have f313 := q303_7.other W305 ne312
  have gh314 : h0.size ≤ c_303 := Nat.le_trans (Nat.le_refl _) q303_0
  have f315 := q303_6.wr W305
  refine endP X305 hlk (fun h => by rw [hret] at h; cases h) (lastA X305 hx hret rfl rfl rfl (hb hby e43_44)) ?_ (by decide) (by decide)
  rw [e305]
  exact ⟨c_303, kc_303, rfl, N305, K307, f308, f309, Fw305, f310, f311, f313, q303_8, gh314, f315⟩
theorem e1_0 : decode kC19 0 = .ok (.iload_n 0, 1) := by decide +kernel
theorem e1_1 : decode kC19 1 = .ok (.iload_n 1, 1) := by decide +kernel
theorem e1_2 : decode kC19 2 = .ok (.if_icmp .gt 7, 3) := by decide +kernel
theorem e1_5 : decode kC19 5 = .ok (.iload_n 0, 1) := by decide +kernel
theorem e1_6 : decode kC19 6 = .ok (.goto 4, 3) := by decide +kernel
theorem e1_10 : decode kC19 10 = .ok (.ireturn, 1) := by decide +kernel
def Q_mn16 (Z : State) (zC : Int32) (vF : Value) (h0 : Heap) (v : Option Value) (h : Heap) (L : List Loc) : Prop := v = some (iv 16) ∧ Fr Z.heap.size L ∧ h = h0
theorem pf6 : plainFor (⟨"java/lang/Math", "min", "(II)I"⟩ : MethodName) = true := by decide +kernel
theorem rm_mn16 (l : Launch) (Z : State) (a0 : Array Value) (hw : HW a0 Z) (zC : Int32) (vF : Value) (G : GB l a0 Z zC vF)  (h0 : Heap) (O0 : Old Z Z.heap.size h0)  :
    Con l Z (⟨"java/lang/Math", "min", "(II)I"⟩ : MethodName) kC19 2 (some .int) ({ frames := 0, cells := 0, slots := 0, locals := 0 } : Room) #[(iv 16), (iv 34)] h0 (Q_mn16 Z zC vF h0) := by
  refine Con.intro pf6 ?_
  intro p e s m below meth c T0 X0 hx hby hml hown0 hnm hret hlk hZ0 e0
  have N0 := Fr.nil Z.heap.size
  refine castGo (g' := mkF m 0 #[.val (iv 16), .val (iv 34)] []) (by first | rfl | (simp [entryFrame, mkF, argsToLocals, Value.category]; done)) ?_
  show Go _ _ _ _ (T0.setTop (mkF m 0 #[.val (iv 16), .val (iv 34)] []))
  refine iL X0 hx (hb hby e1_0) (q := 1) rfl rfl ?_
  refine iL X0 hx (hb hby e1_1) (q := 2) rfl rfl ?_
  refine icN X0 hx (hb hby e1_2) (q := 5) rfl (by decide) ?_
  refine iL X0 hx (hb hby e1_5) (q := 6) rfl rfl ?_
  refine g_goto X0 hx (hb hby e1_6) (q := 10) (by decide) (by decide) ?_
  refine endP X0 hlk (fun h => by rw [hret] at h; cases h) (lastI X0 hx hret (hb hby e1_10)) ?_ (by decide) (by decide)
  rw [e0]
  exact ⟨rfl, N0, rfl⟩
theorem e0_0 : decode kC17 0 = .ok (.iload_n 0, 1) := by decide +kernel
theorem e0_1 : decode kC17 1 = .ok (.iload_n 1, 1) := by decide +kernel
theorem e0_2 : decode kC17 2 = .ok (.if_icmp .lt 7, 3) := by decide +kernel
theorem e0_9 : decode kC17 9 = .ok (.iload_n 1, 1) := by decide +kernel
theorem e0_10 : decode kC17 10 = .ok (.ireturn, 1) := by decide +kernel
def Q_mx16 (Z : State) (zC : Int32) (vF : Value) (h0 : Heap) (v : Option Value) (h : Heap) (L : List Loc) : Prop := v = some (iv 18) ∧ Fr Z.heap.size L ∧ h = h0
theorem pf7 : plainFor (⟨"java/lang/Math", "max", "(II)I"⟩ : MethodName) = true := by decide +kernel
theorem rm_mx16 (l : Launch) (Z : State) (a0 : Array Value) (hw : HW a0 Z) (zC : Int32) (vF : Value) (G : GB l a0 Z zC vF)  (h0 : Heap) (O0 : Old Z Z.heap.size h0)  :
    Con l Z (⟨"java/lang/Math", "max", "(II)I"⟩ : MethodName) kC17 2 (some .int) ({ frames := 0, cells := 0, slots := 0, locals := 0 } : Room) #[(iv 2), (iv 18)] h0 (Q_mx16 Z zC vF h0) := by
  refine Con.intro pf7 ?_
  intro p e s m below meth c T0 X0 hx hby hml hown0 hnm hret hlk hZ0 e0
  have N0 := Fr.nil Z.heap.size
  refine castGo (g' := mkF m 0 #[.val (iv 2), .val (iv 18)] []) (by first | rfl | (simp [entryFrame, mkF, argsToLocals, Value.category]; done)) ?_
  show Go _ _ _ _ (T0.setTop (mkF m 0 #[.val (iv 2), .val (iv 18)] []))
  refine iL X0 hx (hb hby e0_0) (q := 1) rfl rfl ?_
  refine iL X0 hx (hb hby e0_1) (q := 2) rfl rfl ?_
  refine icY X0 hx (hb hby e0_2) (q := 9) (by decide) (by decide) (by decide) ?_
  refine iL X0 hx (hb hby e0_9) (q := 10) rfl rfl ?_
  refine endP X0 hlk (fun h => by rw [hret] at h; cases h) (lastI X0 hx hret (hb hby e0_10)) ?_ (by decide) (by decide)
  rw [e0]
  exact ⟨rfl, N0, rfl⟩
theorem e19_0 : decode kC35 0 = .ok (.iload_n 0, 1) := by decide +kernel
theorem e19_1 : decode kC35 1 = .ok (.iload_n 1, 1) := by decide +kernel
theorem e19_2 : decode kC35 2 = .ok (.iload_n 2, 1) := by decide +kernel
theorem e19_3 : decode kC35 3 = .ok (.invokestatic 194, 3) := by decide +kernel
theorem wd122 (hw : HW a0 Z) : BW a0 Z (.code ⟨"java/lang/Math", "max", "(II)I"⟩ kC17 (2 : Nat) (Option.some Jvm.ClassFile.FieldType.int)) := wat hw 122 rfl
theorem wd121 (hw : HW a0 Z) : BW a0 Z (.initialized "java/lang/Math") := wat hw 121 rfl
theorem pd21 : parseMethodDescriptor "(II)I" = some ⟨[.int, .int], some .int⟩ := by decide +kernel
theorem wd119 (hw : HW a0 Z) : BW a0 Z (.methodLink "jdk/internal/util/ArraysSupport" (194 : Nat) ⟨"java/lang/Math", "max", "(II)I"⟩) := wat hw 119 rfl
theorem wd120 (hw : HW a0 Z) : BW a0 Z (.static ⟨"java/lang/Math", "max", "(II)I"⟩) := wat hw 120 rfl
theorem e19_6 : decode kC35 6 = .ok (.iadd, 1) := by decide +kernel
theorem e19_7 : decode kC35 7 = .ok (.istore_n 3, 1) := by decide +kernel
theorem e19_8 : decode kC35 8 = .ok (.iconst 0, 1) := by decide +kernel
theorem e19_9 : decode kC35 9 = .ok (.iload_n 3, 1) := by decide +kernel
theorem e19_10 : decode kC35 10 = .ok (.if_icmp .ge 11, 3) := by decide +kernel
theorem e19_13 : decode kC35 13 = .ok (.iload_n 3, 1) := by decide +kernel
theorem e19_14 : decode kC35 14 = .ok (.ldc 200, 2) := by decide +kernel
theorem wd123 (hw : HW a0 Z) : BW a0 Z (.constant "jdk/internal/util/ArraysSupport" (200 : Nat) (2147483639 : Int32)) := wat hw 123 rfl
theorem e19_16 : decode kC35 16 = .ok (.if_icmp .gt 5, 3) := by decide +kernel
theorem e19_19 : decode kC35 19 = .ok (.iload_n 3, 1) := by decide +kernel
theorem e19_20 : decode kC35 20 = .ok (.ireturn, 1) := by decide +kernel
def Q_nl16 (Z : State) (zC : Int32) (vF : Value) (h0 : Heap) (v : Option Value) (h : Heap) (L : List Loc) : Prop := v = some (iv 34) ∧ Fr Z.heap.size L ∧ h = h0
theorem pn8 : plainName "jdk/internal/util/ArraysSupport" = true := by first | (simp [plainName, overriddenIn]; done) | decide +kernel
theorem rm_nl16 (l : Launch) (Z : State) (a0 : Array Value) (hw : HW a0 Z) (zC : Int32) (vF : Value) (G : GB l a0 Z zC vF)  (h0 : Heap) (O0 : Old Z Z.heap.size h0)  :
    Con l Z (⟨"jdk/internal/util/ArraysSupport", "newLength", "(III)I"⟩ : MethodName) kC35 4 (some .int) ({ frames := 1, cells := 0, slots := 0, locals := 14 } : Room) #[(iv 16), (iv 2), (iv 18)] h0 (Q_nl16 Z zC vF h0) := by
  refine Con.intro (plainFor_of_name pn8) ?_
  intro p e s m below meth c T0 X0 hx hby hml hown0 hnm hret hlk hZ0 e0
  have N0 := Fr.nil Z.heap.size
  refine castGo (g' := mkF m 0 #[.val (iv 16), .val (iv 2), .val (iv 18), .unset] []) (by first | rfl | (simp [entryFrame, mkF, argsToLocals, Value.category]; done)) ?_
  show Go _ _ _ _ (T0.setTop (mkF m 0 #[.val (iv 16), .val (iv 2), .val (iv 18), .unset] []))
  refine iL X0 hx (hb hby e19_0) (q := 1) rfl rfl ?_
  refine iL X0 hx (hb hby e19_1) (q := 2) rfl rfl ?_
  refine iL X0 hx (hb hby e19_2) (q := 3) rfl rfl ?_
  refine g_st X0 hx hZ0 hown0 (wd119 hw) (wd120 hw) (wd121 hw) (wd122 hw) (by decide) e0 (Con.back (W := 1) (rm_mx16 l Z a0 hw zC vF G  h0 O0 ) hZ0 (wd122 hw) (wd121 hw) (by decide) (by decide)) (by rw [hml]; rfl) (lenOf pd21 rfl) rfl (Nat.le_of_eq rfl) (hb hby e19_3) (q := 6) rfl (by decide) (by decide) ?_
  intro v316 T316 L316 X316 Q316
  obtain ⟨rfl, Nq316, e316⟩ := Q316
  have N316 := Fr.app N0 Nq316
  show Go _ _ _ _ (T316.setTop (mkF m 6 #[.val (iv 16), .val (iv 2), .val (iv 18), .unset] [(iv 18), (iv 16)]))
  refine g_iadd X316 hx (hb hby e19_6) (q := 7) rfl (z := (34 : Int32)) (by decide) ?_
  refine sI X316 hx (hb hby e19_7) (q := 8) rfl (Ls' := #[.val (iv 16), .val (iv 2), .val (iv 18), .val (iv 34)]) rfl ?_
  refine cI X316 hx (hb hby e19_8) (q := 9) rfl (z := (0 : Int32)) rfl ?_
  refine iL X316 hx (hb hby e19_9) (q := 10) rfl rfl ?_
  refine icN X316 hx (hb hby e19_10) (q := 13) rfl (by decide) ?_
  refine iL X316 hx (hb hby e19_13) (q := 14) rfl rfl ?_
  refine g_ldcI X316 hx (a1 := #[]) hZ0 hown0 (wd123 hw) (hb hby e19_14) (q := 16) rfl ?_
  refine icN X316 hx (hb hby e19_16) (q := 19) rfl (by decide) ?_
  refine iL X316 hx (hb hby e19_19) (q := 20) rfl rfl ?_
  refine endP X316 hlk (fun h => by rw [hret] at h; cases h) (lastI X316 hx hret (hb hby e19_20)) ?_ (by decide) (by decide)
  rw [e316]
  exact ⟨rfl, N316, rfl⟩
theorem e40_0 : decode kC18 0 = .ok (.aload_n 0, 1) := by decide +kernel
theorem e40_1 : decode kC18 1 = .ok (.getfield 15, 3) := by decide +kernel
theorem e40_4 : decode kC18 4 = .ok (.arraylength, 1) := by decide +kernel
theorem e40_5 : decode kC18 5 = .ok (.istore_n 2, 1) := by decide +kernel
theorem e40_6 : decode kC18 6 = .ok (.iload_n 1, 1) := by decide +kernel
theorem e40_7 : decode kC18 7 = .ok (.aload_n 0, 1) := by decide +kernel
theorem e40_8 : decode kC18 8 = .ok (.getfield 22, 3) := by decide +kernel
theorem e40_11 : decode kC18 11 = .ok (.ishl, 1) := by decide +kernel
theorem e40_12 : decode kC18 12 = .ok (.istore_n 3, 1) := by decide +kernel
theorem e40_13 : decode kC18 13 = .ok (.iload_n 3, 1) := by decide +kernel
theorem e40_14 : decode kC18 14 = .ok (.iload_n 2, 1) := by decide +kernel
theorem e40_15 : decode kC18 15 = .ok (.isub, 1) := by decide +kernel
theorem e40_16 : decode kC18 16 = .ok (.istore 4, 2) := by decide +kernel
theorem e40_18 : decode kC18 18 = .ok (.iload_n 2, 1) := by decide +kernel
theorem e40_19 : decode kC18 19 = .ok (.iload 4, 2) := by decide +kernel
theorem e40_21 : decode kC18 21 = .ok (.iload_n 2, 1) := by decide +kernel
theorem e40_22 : decode kC18 22 = .ok (.iconst 2, 1) := by decide +kernel
theorem e40_23 : decode kC18 23 = .ok (.aload_n 0, 1) := by decide +kernel
theorem e40_24 : decode kC18 24 = .ok (.getfield 22, 3) := by decide +kernel
theorem e40_27 : decode kC18 27 = .ok (.ishl, 1) := by decide +kernel
theorem e40_28 : decode kC18 28 = .ok (.iadd, 1) := by decide +kernel
theorem e40_29 : decode kC18 29 = .ok (.invokestatic 114, 3) := by decide +kernel
theorem wd118 (hw : HW a0 Z) : BW a0 Z (.code ⟨"jdk/internal/util/ArraysSupport", "newLength", "(III)I"⟩ kC35 (4 : Nat) (Option.some Jvm.ClassFile.FieldType.int)) := wat hw 118 rfl
theorem wd117 (hw : HW a0 Z) : BW a0 Z (.initialized "jdk/internal/util/ArraysSupport") := wat hw 117 rfl
theorem wd115 (hw : HW a0 Z) : BW a0 Z (.methodLink sT0 (114 : Nat) ⟨"jdk/internal/util/ArraysSupport", "newLength", "(III)I"⟩) := wat hw 115 rfl
theorem wd116 (hw : HW a0 Z) : BW a0 Z (.static ⟨"jdk/internal/util/ArraysSupport", "newLength", "(III)I"⟩) := wat hw 116 rfl
theorem e40_32 : decode kC18 32 = .ok (.istore 5, 2) := by decide +kernel
theorem e40_34 : decode kC18 34 = .ok (.iload 5, 2) := by decide +kernel
theorem e40_36 : decode kC18 36 = .ok (.ldc 39, 2) := by decide +kernel
theorem wd124 (hw : HW a0 Z) : BW a0 Z (.constant sT0 (39 : Nat) (2147483647 : Int32)) := wat hw 124 rfl
theorem e40_38 : decode kC18 38 = .ok (.if_icmp .ne 13, 3) := by decide +kernel
theorem e40_51 : decode kC18 51 = .ok (.iload 5, 2) := by decide +kernel
theorem e40_53 : decode kC18 53 = .ok (.aload_n 0, 1) := by decide +kernel
theorem e40_54 : decode kC18 54 = .ok (.getfield 22, 3) := by decide +kernel
theorem e40_57 : decode kC18 57 = .ok (.ishr, 1) := by decide +kernel
theorem e40_58 : decode kC18 58 = .ok (.ireturn, 1) := by decide +kernel
def Q_nc16 (Z : State) (zC : Int32) (vF : Value) (a1 : Addr) (vv : Addr) (kv : ClassId) (vd : List Value) (h0 : Heap) (v : Option Value) (h : Heap) (L : List Loc) : Prop := v = some (iv 34) ∧ Fr Z.heap.size L ∧ h = h0
theorem rm_nc16 (l : Launch) (Z : State) (a0 : Array Value) (hw : HW a0 Z) (zC : Int32) (vF : Value) (G : GB l a0 Z zC vF) (a1 : Addr) (vv : Addr) (kv : ClassId) (vd : List Value) (h0 : Heap) (O0 : Old Z Z.heap.size h0) (Qe : Exa Z h0 a1 sT2) (Qc : Fld Z h0 a1 sT0 "coder" "B" (iv 0)) (Qv : Fld Z h0 a1 sT0 "value" "[B" (.ref vv)) (Qa : Arv Z h0 vv kv .byte (16 : Int32) vd (.int 0)) :
    Con l Z (⟨sT0, "newCapacity", "(I)I"⟩ : MethodName) kC18 6 (some .int) ({ frames := 2, cells := 0, slots := 0, locals := 29 } : Room) #[(.ref a1), (iv 18)] h0 (Q_nc16 Z zC vF a1 vv kv vd h0) := by
  refine Con.intro (plainFor_of_name pn4) ?_
  intro p e s m below meth c T0 X0 hx hby hml hown0 hnm hret hlk hZ0 e0
  have N0 := Fr.nil Z.heap.size
  refine castGo (g' := mkF m 0 #[.val (.ref a1), .val (iv 18), .unset, .unset, .unset, .unset] []) (by first | rfl | (simp [entryFrame, mkF, argsToLocals, Value.category]; done)) ?_
  show Go _ _ _ _ (T0.setTop (mkF m 0 #[.val (.ref a1), .val (iv 18), .unset, .unset, .unset, .unset] []))
  refine aL X0 hx (hb hby e40_0) (q := 1) rfl rfl rfl ?_
  refine g_getF X0 hx hZ0 hown0 (host := "") (Or.inl (wd56 hw)) Via.refl Qv e0 (hb hby e40_1) (q := 4) rfl ?_
  intro T317 X317 e317
  refine g_len X317 hx hZ0 Qa e317 (hb hby e40_4) (q := 5) rfl ?_
  refine sI X317 hx (hb hby e40_5) (q := 6) rfl (Ls' := #[.val (.ref a1), .val (iv 18), .val (iv 16), .unset, .unset, .unset]) rfl ?_
  refine iL X317 hx (hb hby e40_6) (q := 7) rfl rfl ?_
  refine aL X317 hx (hb hby e40_7) (q := 8) rfl rfl rfl ?_
  refine g_getF X317 hx hZ0 hown0 (host := "") (Or.inl (wd58 hw)) Via.refl Qc e317 (hb hby e40_8) (q := 11) rfl ?_
  intro T318 X318 e318
  refine g_ishl X318 hx (hb hby e40_11) (q := 12) rfl (z := (18 : Int32)) (by decide) ?_
  refine sI X318 hx (hb hby e40_12) (q := 13) rfl (Ls' := #[.val (.ref a1), .val (iv 18), .val (iv 16), .val (iv 18), .unset, .unset]) rfl ?_
  refine iL X318 hx (hb hby e40_13) (q := 14) rfl rfl ?_
  refine iL X318 hx (hb hby e40_14) (q := 15) rfl rfl ?_
  refine g_isub X318 hx (hb hby e40_15) (q := 16) rfl (z := (2 : Int32)) (by decide) ?_
  refine sIw X318 hx (hb hby e40_16) (q := 18) rfl (Ls' := #[.val (.ref a1), .val (iv 18), .val (iv 16), .val (iv 18), .val (iv 2), .unset]) rfl ?_
  refine iL X318 hx (hb hby e40_18) (q := 19) rfl rfl ?_
  refine iLw X318 hx (hb hby e40_19) (q := 21) rfl rfl ?_
  refine iL X318 hx (hb hby e40_21) (q := 22) rfl rfl ?_
  refine cI X318 hx (hb hby e40_22) (q := 23) rfl (z := (2 : Int32)) rfl ?_
  refine aL X318 hx (hb hby e40_23) (q := 24) rfl rfl rfl ?_
  refine g_getF X318 hx hZ0 hown0 (host := "") (Or.inl (wd58 hw)) Via.refl Qc e318 (hb hby e40_24) (q := 27) rfl ?_
  intro T319 X319 e319
  refine g_ishl X319 hx (hb hby e40_27) (q := 28) rfl (z := (2 : Int32)) (by decide) ?_
  refine g_iadd X319 hx (hb hby e40_28) (q := 29) rfl (z := (18 : Int32)) (by decide) ?_
  refine g_st X319 hx hZ0 hown0 (wd115 hw) (wd116 hw) (wd117 hw) (wd118 hw) (by decide) e319 (Con.back (W := 0) (rm_nl16 l Z a0 hw zC vF G  h0 O0 ) hZ0 (wd118 hw) (wd117 hw) (by decide) (by decide)) (by rw [hml]; rfl) (lenOf pd3 rfl) rfl (Nat.le_of_eq rfl) (hb hby e40_29) (q := 32) rfl (by decide) (by decide) ?_
  intro v320 T320 L320 X320 Q320
  obtain ⟨rfl, Nq320, e320⟩ := Q320
  have N320 := Fr.app N0 Nq320
  show Go _ _ _ _ (T320.setTop (mkF m 32 #[.val (.ref a1), .val (iv 18), .val (iv 16), .val (iv 18), .val (iv 2), .unset] [(iv 34)]))
  refine sIw X320 hx (hb hby e40_32) (q := 34) rfl (Ls' := #[.val (.ref a1), .val (iv 18), .val (iv 16), .val (iv 18), .val (iv 2), .val (iv 34)]) rfl ?_
  refine iLw X320 hx (hb hby e40_34) (q := 36) rfl rfl ?_
  refine g_ldcI X320 hx (a1 := #[]) hZ0 hown0 (wd124 hw) (hb hby e40_36) (q := 38) rfl ?_
  refine icY X320 hx (hb hby e40_38) (q := 51) (by decide) (by decide) (by decide) ?_
  refine iLw X320 hx (hb hby e40_51) (q := 53) rfl rfl ?_
  refine aL X320 hx (hb hby e40_53) (q := 54) rfl rfl rfl ?_
  refine g_getF X320 hx hZ0 hown0 (host := "") (Or.inl (wd58 hw)) Via.refl Qc e320 (hb hby e40_54) (q := 57) rfl ?_
  intro T321 X321 e321
  refine g_ishr X321 hx (hb hby e40_57) (q := 58) rfl (z := (34 : Int32)) (by decide) ?_
  refine endP X321 hlk (fun h => by rw [hret] at h; cases h) (lastI X321 hx hret (hb hby e40_58)) ?_ (by decide) (by decide)
  rw [e321]
  exact ⟨rfl, N320, rfl⟩
theorem e34_0 : decode kC3 0 = .ok (.iload_n 1, 1) := by decide +kernel
theorem e34_1 : decode kC3 1 = .ok (.aload_n 0, 1) := by decide +kernel
theorem e34_2 : decode kC3 2 = .ok (.arraylength, 1) := by decide +kernel
theorem e34_3 : decode kC3 3 = .ok (.if_icmp .ne 11, 3) := by decide +kernel
theorem e34_14 : decode kC3 14 = .ok (.iload_n 1, 1) := by decide +kernel
theorem e34_15 : decode kC3 15 = .ok (.newarray .byte, 2) := by decide +kernel
theorem e34_17 : decode kC3 17 = .ok (.astore_n 2, 1) := by decide +kernel
theorem e34_18 : decode kC3 18 = .ok (.aload_n 0, 1) := by decide +kernel
theorem e34_19 : decode kC3 19 = .ok (.iconst 0, 1) := by decide +kernel
theorem e34_20 : decode kC3 20 = .ok (.aload_n 2, 1) := by decide +kernel
theorem e34_21 : decode kC3 21 = .ok (.iconst 0, 1) := by decide +kernel
theorem e34_22 : decode kC3 22 = .ok (.aload_n 0, 1) := by decide +kernel
theorem e34_23 : decode kC3 23 = .ok (.arraylength, 1) := by decide +kernel
theorem e34_24 : decode kC3 24 = .ok (.iload_n 1, 1) := by decide +kernel
theorem e34_25 : decode kC3 25 = .ok (.invokestatic 304, 3) := by decide +kernel
theorem wd131 (hw : HW a0 Z) : BW a0 Z (.code ⟨"java/lang/Math", "min", "(II)I"⟩ kC19 (2 : Nat) (Option.some Jvm.ClassFile.FieldType.int)) := wat hw 131 rfl
theorem wd129 (hw : HW a0 Z) : BW a0 Z (.methodLink "java/util/Arrays" (304 : Nat) ⟨"java/lang/Math", "min", "(II)I"⟩) := wat hw 129 rfl
theorem wd130 (hw : HW a0 Z) : BW a0 Z (.static ⟨"java/lang/Math", "min", "(II)I"⟩) := wat hw 130 rfl
theorem e34_28 : decode kC3 28 = .ok (.invokestatic 150, 3) := by decide +kernel
theorem wd132 (hw : HW a0 Z) : BW a0 Z (.methodLink "java/util/Arrays" (150 : Nat) ⟨"java/lang/System", "arraycopy", "(Ljava/lang/Object;ILjava/lang/Object;II)V"⟩) := wat hw 132 rfl
theorem e34_31 : decode kC3 31 = .ok (.aload_n 2, 1) := by decide +kernel
theorem e34_32 : decode kC3 32 = .ok (.areturn, 1) := by decide +kernel
def Q_cpo16 (Z : State) (zC : Int32) (vF : Value) (vv : Addr) (kv : ClassId) (vd : List Value) (h0 : Heap) (v : Option Value) (h : Heap) (L : List Loc) : Prop := ∃ (c : Addr), ∃ (kc : ClassId), v = some (.ref c) ∧ Fr Z.heap.size L ∧ Keep h0 h [] ∧ h0.size ≤ c ∧ Arv Z h c kc .byte (34 : Int32) (ins (List.replicate 34 (iv 0)) (sub vd 0 16 (.int 0)) 0 16) (.int 0) ∧ Exa Z h c "[B" ∧ ((ins (List.replicate 34 (iv 0)) (sub vd 0 16 (.int 0)) 0 16).length = 34)
theorem pn9 : plainName "java/util/Arrays" = true := by first | (simp [plainName, overriddenIn]; done) | decide +kernel
theorem rm_cpo16 (l : Launch) (Z : State) (a0 : Array Value) (hw : HW a0 Z) (zC : Int32) (vF : Value) (G : GB l a0 Z zC vF) (vv : Addr) (kv : ClassId) (vd : List Value) (h0 : Heap) (O0 : Old Z Z.heap.size h0) (Qa : Arv Z h0 vv kv .byte (16 : Int32) vd (.int 0)) (Ql : (vd.length = 16)) :
    Con l Z (⟨"java/util/Arrays", "copyOf", "([BI)[B"⟩ : MethodName) kC3 3 (some (.array .byte)) ({ frames := 1, cells := 1, slots := 34, locals := 31 } : Room) #[(.ref vv), (iv 34)] h0 (Q_cpo16 Z zC vF vv kv vd h0) := by
  refine Con.intro (plainFor_of_name pn9) ?_
  intro p e s m below meth c T0 X0 hx hby hml hown0 hnm hret hlk hZ0 e0
  have N0 := Fr.nil Z.heap.size
  refine castGo (g' := mkF m 0 #[.val (.ref vv), .val (iv 34), .unset] []) (by first | rfl | (simp [entryFrame, mkF, argsToLocals, Value.category]; done)) ?_
  show Go _ _ _ _ (T0.setTop (mkF m 0 #[.val (.ref vv), .val (iv 34), .unset] []))
  refine iL X0 hx (hb hby e34_0) (q := 1) rfl rfl ?_
  refine aL X0 hx (hb hby e34_1) (q := 2) rfl rfl rfl ?_
  refine g_len X0 hx hZ0 Qa e0 (hb hby e34_2) (q := 3) rfl ?_
  refine icY X0 hx (hb hby e34_3) (q := 14) (by decide) (by decide) (by decide) ?_
  refine iL X0 hx (hb hby e34_14) (q := 15) rfl rfl ?_
  refine g_newE X0 hx hZ0 (aty := .byte) (wd24 hw) (by decide) (n := 34) (by decide) (by decide) (by decide) (by decide) (ad := "[B") (by decide) e0 (hb hby e34_15) (q := 17) rfl ?_
  intro T322 h322 k322 b322 g322 X322 e322 E322 V322 G322
  have Va322 : Arv Z h322 b322 k322 .byte (34 : Int32) (List.replicate 34 (iv 0)) (.int 0) := V322
  refine sA X322 hx (hb hby e34_17) (q := 18) rfl rfl (Ls' := #[.val (.ref vv), .val (iv 34), .val (.ref b322)]) rfl ?_
  refine aL X322 hx (hb hby e34_18) (q := 19) rfl rfl rfl ?_
  refine cI X322 hx (hb hby e34_19) (q := 20) rfl (z := (0 : Int32)) rfl ?_
  refine aL X322 hx (hb hby e34_20) (q := 21) rfl rfl rfl ?_
  refine cI X322 hx (hb hby e34_21) (q := 22) rfl (z := (0 : Int32)) rfl ?_
  refine aL X322 hx (hb hby e34_22) (q := 23) rfl rfl rfl ?_
  have f323 := Qa.ext E322
  refine g_len X322 hx hZ0 f323 e322 (hb hby e34_23) (q := 24) rfl ?_
  refine iL X322 hx (hb hby e34_24) (q := 25) rfl rfl ?_
  have f325 := O0.ext E322
  refine g_st X322 hx hZ0 hown0 (wd129 hw) (wd130 hw) (wd121 hw) (wd131 hw) (by decide) e322 (Con.back (W := 4) (rm_mn16 l Z a0 hw zC vF G  h322 f325 ) hZ0 (wd131 hw) (wd121 hw) (by decide) (by decide)) (by rw [hml]; rfl) (lenOf pd21 rfl) rfl (Nat.le_of_eq rfl) (hb hby e34_25) (q := 28) rfl (by decide) (by decide) ?_
  intro v324 T324 L324 X324 Q324
  obtain ⟨rfl, Nq324, e324⟩ := Q324
  have N324 := Fr.app N0 Nq324
  show Go _ _ _ _ (T324.setTop (mkF m 28 #[.val (.ref vv), .val (iv 34), .val (.ref b322)] [(iv 16), (iv 0), (.ref b322), (iv 0), (.ref vv)]))
  have gz327 : Z.heap.size ≤ b322 := Nat.le_trans O0.2.1 (Nat.le_of_eq g322.symm)
  refine g_cp X324 hx hZ0 hown0 (wd132 hw) (wd106 hw) (wd104 hw) (wd105 hw) (us := (sub vd 0 16 (.int 0))) f323 Va322 (Or.inl ⟨rfl, rfl⟩) (by decide) (by decide) (by decide) (by decide) (by decide) rfl (show 0 + 16 ≤ 34 from (by decide)) N324 gz327 (by rw [hml]; rfl) (by decide) (W := 0) (Nat.le_of_eq rfl) (by decide) e324 (hb hby e34_28) (q := 31) rfl ?_
  intro T326 h326 L326 X326 e326 N326 K326q V326
  have Va326 : Arv Z h326 b322 k322 .byte (34 : Int32) (ins (List.replicate 34 (iv 0)) (sub vd 0 16 (.int 0)) 0 16) (.int 0) := V326
  have Ln326 : (ins (List.replicate 34 (iv 0)) (sub vd 0 16 (.int 0)) 0 16).length = 34 := (ins_len sub_len (show 0 + 16 ≤ 34 from (by decide))).trans rfl
  refine aL X326 hx (hb hby e34_31) (q := 32) rfl rfl rfl ?_
  have K328 : Keep h0 h322 [] := (Keep.refl h0 []).ext E322
  have gh329 : h0.size ≤ b322 := Nat.le_trans (Nat.le_refl _) (Nat.le_of_eq g322.symm)
  have K330 : Keep h0 h326 [] := K328.trans K326q (allS (Or.inr gh329) all0)
  have f331 := G322.keep K326q
  refine endP X326 hlk (fun h => by rw [hret] at h; cases h) (lastA X326 hx hret rfl rfl rfl (hb hby e34_32)) ?_ (by decide) (by decide)
  rw [e326]
  exact ⟨b322, k322, rfl, N326, K330, gh329, Va326, f331, Ln326⟩
theorem e49_17 : decode kC49 17 = .ok (.aload_n 0, 1) := by decide +kernel
theorem e49_18 : decode kC49 18 = .ok (.aload_n 0, 1) := by decide +kernel
theorem e49_19 : decode kC49 19 = .ok (.getfield 15, 3) := by decide +kernel
theorem e49_22 : decode kC49 22 = .ok (.aload_n 0, 1) := by decide +kernel
theorem e49_23 : decode kC49 23 = .ok (.iload_n 1, 1) := by decide +kernel
theorem e49_24 : decode kC49 24 = .ok (.invokevirtual 104, 3) := by decide +kernel
theorem wd114 (hw : HW a0 Z) : BW a0 Z (.code ⟨sT0, "newCapacity", "(I)I"⟩ kC18 (6 : Nat) (Option.some Jvm.ClassFile.FieldType.int)) := wat hw 114 rfl
theorem wd110 (hw : HW a0 Z) : BW a0 Z (.methodLink sT0 (104 : Nat) ⟨sT0, "newCapacity", "(I)I"⟩) := wat hw 110 rfl
theorem wd111 (hw : HW a0 Z) : BW a0 Z (.instanceMethod ⟨sT0, "newCapacity", "(I)I"⟩) := wat hw 111 rfl
theorem wd113 (hw : HW a0 Z) : BW a0 Z (.selects sT2 ⟨sT0, "newCapacity", "(I)I"⟩ ⟨sT0, "newCapacity", "(I)I"⟩) := wat hw 113 rfl
theorem wd112 (hw : HW a0 Z) : BW a0 Z (.privateMethod ⟨sT0, "newCapacity", "(I)I"⟩) := wat hw 112 rfl
theorem e49_27 : decode kC49 27 = .ok (.aload_n 0, 1) := by decide +kernel
theorem e49_28 : decode kC49 28 = .ok (.getfield 22, 3) := by decide +kernel
theorem e49_31 : decode kC49 31 = .ok (.ishl, 1) := by decide +kernel
theorem e49_32 : decode kC49 32 = .ok (.invokestatic 108, 3) := by decide +kernel
theorem wd128 (hw : HW a0 Z) : BW a0 Z (.code ⟨"java/util/Arrays", "copyOf", "([BI)[B"⟩ kC3 (3 : Nat) (Option.some (Jvm.ClassFile.FieldType.array Jvm.ClassFile.FieldType.byte))) := wat hw 128 rfl
theorem wd127 (hw : HW a0 Z) : BW a0 Z (.initialized "java/util/Arrays") := wat hw 127 rfl
theorem pd22 : parseMethodDescriptor "([BI)[B" = some ⟨[(.array .byte), .int], some (.array .byte)⟩ := by decide +kernel
theorem wd125 (hw : HW a0 Z) : BW a0 Z (.methodLink sT0 (108 : Nat) ⟨"java/util/Arrays", "copyOf", "([BI)[B"⟩) := wat hw 125 rfl
theorem wd126 (hw : HW a0 Z) : BW a0 Z (.static ⟨"java/util/Arrays", "copyOf", "([BI)[B"⟩) := wat hw 126 rfl
theorem e49_35 : decode kC49 35 = .ok (.putfield 15, 3) := by decide +kernel
def Q_ens0_2 (Z : State) (zC : Int32) (vF : Value) (a1 : Addr) (vv : Addr) (kv : ClassId) (vd : List Value) (h0 : Heap) (v : Option Value) (h : Heap) (L : List Loc) : Prop := ∃ (c : Addr), ∃ (kc : ClassId), v = none ∧ Fr Z.heap.size L ∧ Keep h0 h [a1] ∧ h0.size ≤ c ∧ Exa Z h a1 sT2 ∧ Fld Z h a1 sT0 "coder" "B" (iv 0) ∧ Fld Z h a1 sT0 "count" "I" (iv 2) ∧ Fld Z h a1 sT0 "maybeLatin1" "Z" (iv 0) ∧ Fld Z h a1 sT0 "value" "[B" (.ref c) ∧ Arv Z h c kc .byte (34 : Int32) (ins (List.replicate 34 (iv 0)) (sub vd 0 16 (.int 0)) 0 16) (.int 0) ∧ Exa Z h c "[B" ∧ ((ins (List.replicate 34 (iv 0)) (sub vd 0 16 (.int 0)) 0 16).length = 34)
theorem rm_ens0_2 (l : Launch) (Z : State) (a0 : Array Value) (hw : HW a0 Z) (zC : Int32) (vF : Value) (G : GB l a0 Z zC vF) (a1 : Addr) (vv : Addr) (kv : ClassId) (vd : List Value) (h0 : Heap) (O0 : Old Z Z.heap.size h0) (Qe : Exa Z h0 a1 sT2) (Qc : Fld Z h0 a1 sT0 "coder" "B" (iv 0)) (Qn : Fld Z h0 a1 sT0 "count" "I" (iv 2)) (Qm : Fld Z h0 a1 sT0 "maybeLatin1" "Z" (iv 0)) (Qv : Fld Z h0 a1 sT0 "value" "[B" (.ref vv)) (Qa : Arv Z h0 vv kv .byte (16 : Int32) vd (.int 0)) (Ql : (vd.length = 16)) (QE : Exa Z h0 vv "[B") (Qz : Z.heap.size ≤ a1) (Qy : Z.heap.size ≤ vv) :
    Con l Z (⟨sT0, "ensureCapacityInternal", "(I)V"⟩ : MethodName) kC49 3 none ({ frames := 3, cells := 1, slots := 34, locals := 48 } : Room) #[(.ref a1), (iv 18)] h0 (Q_ens0_2 Z zC vF a1 vv kv vd h0) := by
  refine Con.intro (plainFor_of_name pn4) ?_
  intro p e s m below meth c T0 X0 hx hby hml hown0 hnm hret hlk hZ0 e0
  have N0 := Fr.nil Z.heap.size
  refine castGo (g' := mkF m 0 #[.val (.ref a1), .val (iv 18), .unset] []) (by first | rfl | (simp [entryFrame, mkF, argsToLocals, Value.category]; done)) ?_
  show Go _ _ _ _ (T0.setTop (mkF m 0 #[.val (.ref a1), .val (iv 18), .unset] []))
  refine aL X0 hx (hb hby e49_0) (q := 1) rfl rfl rfl ?_
  refine g_getF X0 hx hZ0 hown0 (host := "") (Or.inl (wd56 hw)) Via.refl Qv e0 (hb hby e49_1) (q := 4) rfl ?_
  intro T332 X332 e332
  refine g_len X332 hx hZ0 Qa e332 (hb hby e49_4) (q := 5) rfl ?_
  refine aL X332 hx (hb hby e49_5) (q := 6) rfl rfl rfl ?_
  refine g_getF X332 hx hZ0 hown0 (host := "") (Or.inl (wd58 hw)) Via.refl Qc e332 (hb hby e49_6) (q := 9) rfl ?_
  intro T333 X333 e333
  refine g_ishr X333 hx (hb hby e49_9) (q := 10) rfl (z := (16 : Int32)) (by decide) ?_
  refine sI X333 hx (hb hby e49_10) (q := 11) rfl (Ls' := #[.val (.ref a1), .val (iv 18), .val (iv 16)]) rfl ?_
  refine iL X333 hx (hb hby e49_11) (q := 12) rfl rfl ?_
  refine iL X333 hx (hb hby e49_12) (q := 13) rfl rfl ?_
  refine g_isub X333 hx (hb hby e49_13) (q := 14) rfl (z := (2 : Int32)) (by decide) ?_
  refine ifN X333 hx (hb hby e49_14) (q := 17) rfl (by decide) ?_
  refine aL X333 hx (hb hby e49_17) (q := 18) rfl rfl rfl ?_
  refine aL X333 hx (hb hby e49_18) (q := 19) rfl rfl rfl ?_
  refine g_getF X333 hx hZ0 hown0 (host := "") (Or.inl (wd56 hw)) Via.refl Qv e333 (hb hby e49_19) (q := 22) rfl ?_
  intro T334 X334 e334
  refine aL X334 hx (hb hby e49_22) (q := 23) rfl rfl rfl ?_
  refine iL X334 hx (hb hby e49_23) (q := 24) rfl rfl ?_
  refine g_pvC X334 hx hZ0 hown0 (wd110 hw) (wd111 hw) (wd113 hw) (wd112 hw) (wd114 hw) (by decide) Qe e334 (Con.back (W := 2) (rm_nc16 l Z a0 hw zC vF G a1 vv kv vd h0 O0 Qe Qc Qv Qa) hZ0 (wd114 hw) (wd52 hw) (by decide) (by decide)) (by rw [hml]; rfl) (lenOf pd0 rfl) rfl (Nat.le_of_eq rfl) (hb hby e49_24) (q := 27) rfl (by decide) (by decide) ?_
  intro v335 T335 L335 X335 Q335
  obtain ⟨rfl, Nq335, e335⟩ := Q335
  have N335 := Fr.app N0 Nq335
  show Go _ _ _ _ (T335.setTop (mkF m 27 #[.val (.ref a1), .val (iv 18), .val (iv 16)] [(iv 34), (.ref vv), (.ref a1)]))
  refine aL X335 hx (hb hby e49_27) (q := 28) rfl rfl rfl ?_
  refine g_getF X335 hx hZ0 hown0 (host := "") (Or.inl (wd58 hw)) Via.refl Qc e335 (hb hby e49_28) (q := 31) rfl ?_
  intro T336 X336 e336
  refine g_ishl X336 hx (hb hby e49_31) (q := 32) rfl (z := (34 : Int32)) (by decide) ?_
  refine g_st X336 hx hZ0 hown0 (wd125 hw) (wd126 hw) (wd127 hw) (wd128 hw) (by decide) e336 (Con.back (W := 1) (rm_cpo16 l Z a0 hw zC vF G vv kv vd h0 O0 Qa Ql) hZ0 (wd128 hw) (wd127 hw) (by decide) (by decide)) (by rw [hml]; rfl) (lenOf pd22 rfl) rfl (Nat.le_of_eq rfl) (hb hby e49_32) (q := 35) rfl (by decide) (by decide) ?_
  intro v337 T337 L337 X337 Q337
  obtain ⟨c_337, kc_337, rfl, Nq337, K337q, q337_0, q337_1, q337_2, q337_3⟩ := Q337
  have N337 := Fr.app N335 Nq337
  show Go _ _ _ _ (T337.setTop (mkF m 35 #[.val (.ref a1), .val (iv 18), .val (iv 16)] [(.ref c_337), (.ref a1)]))
  have f338 := Qv.keep K337q nin0
  have f339 := Qe.keep K337q
  refine g_putF X337 hx hZ0 hown0 (host := "") (Or.inl (wd56 hw)) Via.refl f338 f339 (Or.inl (wd57 hw)) (wd43 hw) (ty := (.array .byte)) (by decide) rfl rfl rfl (hb hby e49_35) (q := 38) rfl ?_
  intro T340 h340 X340 e340 W340
  have N340 := Fr.snoc X340 N337 Qz
  have Fw340 : Fld Z h340 a1 sT0 "value" "[B" (.ref c_337) := f338.same W340
  have K341 : Keep h0 T337.heap [a1] := (Keep.refl h0 [a1]).trans K337q all0
  have K342 : Keep h0 h340 [a1] := K341.wr W340 (Or.inl (by simp))
  have gh343 : h0.size ≤ c_337 := Nat.le_trans (Nat.le_refl _) q337_0
  have f344 := f339.wr W340
  have f345 := Qc.keep K337q nin0
  have f346 := f345.other W340 (Or.inr (slot_ne (Or.inl (wd59 hw)) (Or.inl (wd57 hw)) (by decide) (t := .byte) (t' := (.array .byte)) (by decide) (by decide)))
  have f347 := Qn.keep K337q nin0
  have f348 := f347.other W340 (Or.inr (slot_ne (Or.inl (wd81 hw)) (Or.inl (wd57 hw)) (by decide) (t := .int) (t' := (.array .byte)) (by decide) (by decide)))
  have f349 := Qm.keep K337q nin0
  have f350 := f349.other W340 (Or.inr (slot_ne (Or.inl (wd310 hw)) (Or.inl (wd57 hw)) (by decide) (t := .boolean) (t' := (.array .byte)) (by decide) (by decide)))
  have ne351 : c_337 ≠ a1 := (Nat.ne_of_gt (Nat.lt_of_lt_of_le (Nat.lt_of_lt_of_le Qe.lt (Nat.le_refl _)) q337_0))
  have f352 := q337_1.other W340 ne351
  have f353 := q337_2.wr W340
  refine endP X340 hlk (fun _ => rfl) (lastV X340 hx hret (hb hby e49_38)) ?_ (by decide) (by decide)
  rw [e340]
  exact ⟨c_337, kc_337, rfl, N340, K342, gh343, f344, f346, f348, f350, Fw340, f352, f353, q337_3⟩
def Q_gbc0_2 (Z : State) (zC : Int32) (vF : Value) (a2 : Addr) (t : Addr) (kt : ClassId) (us : List Value) (vv : Addr) (kv : ClassId) (vd : List Value) (h0 : Heap) (v : Option Value) (h : Heap) (L : List Loc) : Prop := v = none ∧ Fr Z.heap.size L ∧ Keep h0 h [vv] ∧ Arv Z h vv kv .byte (34 : Int32) (ins vd (sub us 0 16 (.int 0)) 2 16) (.int 0) ∧ ((ins vd (sub us 0 16 (.int 0)) 2 16).length = 34)
theorem rm_gbc0_2 (l : Launch) (Z : State) (a0 : Array Value) (hw : HW a0 Z) (zC : Int32) (vF : Value) (G : GB l a0 Z zC vF) (a2 : Addr) (t : Addr) (kt : ClassId) (us : List Value) (vv : Addr) (kv : ClassId) (vd : List Value) (h0 : Heap) (O0 : Old Z Z.heap.size h0) (Pe : Exa Z h0 a2 sT1) (Pc : Fld Z h0 a2 sT1 "coder" "B" (iv 0)) (Pv : Fld Z h0 a2 sT1 "value" "[B" (.ref t)) (Pa : Arv Z h0 t kt .byte (16 : Int32) us (.int 0)) (Pl : (us.length = 16)) (Wa : Arv Z h0 vv kv .byte (34 : Int32) vd (.int 0)) (Wl : (vd.length = 34)) (Wy : Z.heap.size ≤ vv) :
    Con l Z (⟨sT1, "getBytes", "([BIB)V"⟩ : MethodName) kC2 4 none ({ frames := 1, cells := 0, slots := 0, locals := 31 } : Room) #[(.ref a2), (.ref vv), (iv 2), (iv 0)] h0 (Q_gbc0_2 Z zC vF a2 t kt us vv kv vd h0) := by
  refine Con.intro (plainFor_of_name pn2) ?_
  intro p e s m below meth c T0 X0 hx hby hml hown0 hnm hret hlk hZ0 e0
  have N0 := Fr.nil Z.heap.size
  refine castGo (g' := mkF m 0 #[.val (.ref a2), .val (.ref vv), .val (iv 2), .val (iv 0)] []) (by first | rfl | (simp [entryFrame, mkF, argsToLocals, Value.category]; done)) ?_
  show Go _ _ _ _ (T0.setTop (mkF m 0 #[.val (.ref a2), .val (.ref vv), .val (iv 2), .val (iv 0)] []))
  refine aL X0 hx (hb hby e4_0) (q := 1) rfl rfl rfl ?_
  refine g_vi X0 hx hZ0 hown0 (wd75 hw) (wd76 hw) (notFace_of_selects (args := #[]) (mvT hZ0 (wd78 hw))) (wd78 hw) (wd77 hw) (by decide) Pe e0 (Con.back (W := 0) (rm_coder0 l Z a0 hw zC vF G a2 h0 O0 Pc) hZ0 (wd79 hw) (wd8 hw) (by decide) (by decide)) (by rw [hml]; rfl) (lenOf pd13 rfl) rfl (Nat.le_of_eq rfl) (hb hby e4_1) (q := 4) rfl (by decide) (by decide) ?_
  intro v354 T354 L354 X354 Q354
  obtain ⟨rfl, Nq354, e354⟩ := Q354
  have N354 := Fr.app N0 Nq354
  show Go _ _ _ _ (T354.setTop (mkF m 4 #[.val (.ref a2), .val (.ref vv), .val (iv 2), .val (iv 0)] [(iv 0)]))
  refine iL X354 hx (hb hby e4_4) (q := 5) rfl rfl ?_
  refine icN X354 hx (hb hby e4_5) (q := 8) rfl (by decide) ?_
  refine aL X354 hx (hb hby e4_8) (q := 9) rfl rfl rfl ?_
  refine g_getF X354 hx hZ0 hown0 (host := "") (Or.inl (wd33 hw)) Via.refl Pv e354 (hb hby e4_9) (q := 12) rfl ?_
  intro T355 X355 e355
  refine cI X355 hx (hb hby e4_12) (q := 13) rfl (z := (0 : Int32)) rfl ?_
  refine aL X355 hx (hb hby e4_13) (q := 14) rfl rfl rfl ?_
  refine iL X355 hx (hb hby e4_14) (q := 15) rfl rfl ?_
  refine iL X355 hx (hb hby e4_15) (q := 16) rfl rfl ?_
  refine g_ishl X355 hx (hb hby e4_16) (q := 17) rfl (z := (2 : Int32)) (by decide) ?_
  refine aL X355 hx (hb hby e4_17) (q := 18) rfl rfl rfl ?_
  refine g_getF X355 hx hZ0 hown0 (host := "") (Or.inl (wd33 hw)) Via.refl Pv e355 (hb hby e4_18) (q := 21) rfl ?_
  intro T356 X356 e356
  refine g_len X356 hx hZ0 Pa e356 (hb hby e4_21) (q := 22) rfl ?_
  refine g_cp X356 hx hZ0 hown0 (wd103 hw) (wd106 hw) (wd104 hw) (wd105 hw) (us := (sub us 0 16 (.int 0))) Pa Wa (Or.inl ⟨rfl, rfl⟩) (by decide) (by decide) (by decide) (by decide) (by decide) rfl (by rw [Wl]; exact (show 2 + 16 ≤ 34 from (by decide))) N354 Wy (by rw [hml]; rfl) (by decide) (W := 0) (Nat.le_of_eq rfl) (by decide) e356 (hb hby e4_22) (q := 25) rfl ?_
  intro T357 h357 L357 X357 e357 N357 K357q V357
  have Va357 : Arv Z h357 vv kv .byte (34 : Int32) (ins vd (sub us 0 16 (.int 0)) 2 16) (.int 0) := V357
  have Ln357 : (ins vd (sub us 0 16 (.int 0)) 2 16).length = 34 := (ins_len sub_len (by rw [Wl]; exact (show 2 + 16 ≤ 34 from (by decide)))).trans Wl
  refine g_goto X357 hx (hb hby e4_25) (q := 43) (by decide) (by decide) ?_
  have K358 : Keep h0 h357 [vv] := (Keep.refl h0 [vv]).trans K357q (allS (Or.inl (by simp)) all0)
  refine endP X357 hlk (fun _ => rfl) (lastV X357 hx hret (hb hby e4_43)) ?_ (by decide) (by decide)
  rw [e357]
  exact ⟨rfl, N357, K358, Va357, Ln357⟩
def Q_psaLL2 (Z : State) (zC : Int32) (vF : Value) (a1 : Addr) (a2 : Addr) (t : Addr) (kt : ClassId) (us : List Value) (vv : Addr) (kv : ClassId) (vd : List Value) (h0 : Heap) (v : Option Value) (h : Heap) (L : List Loc) : Prop := v = none ∧ Fr Z.heap.size L ∧ Keep h0 h [vv] ∧ Arv Z h vv kv .byte (34 : Int32) (ins vd (sub us 0 16 (.int 0)) 2 16) (.int 0) ∧ ((ins vd (sub us 0 16 (.int 0)) 2 16).length = 34)
theorem rm_psaLL2 (l : Launch) (Z : State) (a0 : Array Value) (hw : HW a0 Z) (zC : Int32) (vF : Value) (G : GB l a0 Z zC vF) (a1 : Addr) (a2 : Addr) (t : Addr) (kt : ClassId) (us : List Value) (vv : Addr) (kv : ClassId) (vd : List Value) (h0 : Heap) (O0 : Old Z Z.heap.size h0) (Pe : Exa Z h0 a2 sT1) (Pc : Fld Z h0 a2 sT1 "coder" "B" (iv 0)) (Pv : Fld Z h0 a2 sT1 "value" "[B" (.ref t)) (Pa : Arv Z h0 t kt .byte (16 : Int32) us (.int 0)) (Pl : (us.length = 16)) (We : Exa Z h0 a1 sT2) (Wc : Fld Z h0 a1 sT0 "coder" "B" (iv 0)) (Wv : Fld Z h0 a1 sT0 "value" "[B" (.ref vv)) (Wa : Arv Z h0 vv kv .byte (34 : Int32) vd (.int 0)) (Wl : (vd.length = 34)) (Wy : Z.heap.size ≤ vv) :
    Con l Z (⟨sT0, "putStringAt", "(ILjava/lang/String;)V"⟩ : MethodName) kC24 3 none ({ frames := 2, cells := 0, slots := 0, locals := 46 } : Room) #[(.ref a1), (iv 2), (.ref a2)] h0 (Q_psaLL2 Z zC vF a1 a2 t kt us vv kv vd h0) := by
  refine Con.intro (plainFor_of_name pn4) ?_
  intro p e s m below meth c T0 X0 hx hby hml hown0 hnm hret hlk hZ0 e0
  have N0 := Fr.nil Z.heap.size
  refine castGo (g' := mkF m 0 #[.val (.ref a1), .val (iv 2), .val (.ref a2)] []) (by first | rfl | (simp [entryFrame, mkF, argsToLocals, Value.category]; done)) ?_
  show Go _ _ _ _ (T0.setTop (mkF m 0 #[.val (.ref a1), .val (iv 2), .val (.ref a2)] []))
  refine aL X0 hx (hb hby e48_0) (q := 1) rfl rfl rfl ?_
  refine aL X0 hx (hb hby e48_1) (q := 2) rfl rfl rfl ?_
  refine g_pvC X0 hx hZ0 hown0 (wd92 hw) (wd93 hw) (wd95 hw) (wd94 hw) (wd96 hw) (by decide) We e0 (Con.back (W := 0) (rm_ifn00 l Z a0 hw zC vF G a1 a2 h0 O0 Pe Pc We Wc) hZ0 (wd96 hw) (wd52 hw) (by decide) (by decide)) (by rw [hml]; rfl) (lenOf pd15 rfl) rfl (Nat.le_of_eq rfl) (hb hby e48_2) (q := 5) rfl (by decide) (by decide) ?_
  intro v359 T359 L359 X359 Q359
  obtain ⟨rfl, Nq359, e359⟩ := Q359
  have N359 := Fr.app N0 Nq359
  show Go _ _ _ _ (T359.setTop (mkF m 5 #[.val (.ref a1), .val (iv 2), .val (.ref a2)] []))
  refine aL X359 hx (hb hby e48_5) (q := 6) rfl rfl rfl ?_
  refine aL X359 hx (hb hby e48_6) (q := 7) rfl rfl rfl ?_
  refine g_getF X359 hx hZ0 hown0 (host := "") (Or.inl (wd56 hw)) Via.refl Wv e359 (hb hby e48_7) (q := 10) rfl ?_
  intro T360 X360 e360
  refine iL X360 hx (hb hby e48_10) (q := 11) rfl rfl ?_
  refine aL X360 hx (hb hby e48_11) (q := 12) rfl rfl rfl ?_
  refine g_getF X360 hx hZ0 hown0 (host := "") (Or.inl (wd58 hw)) Via.refl Wc e360 (hb hby e48_12) (q := 15) rfl ?_
  intro T361 X361 e361
  refine g_vi X361 hx hZ0 hown0 (wd98 hw) (wd99 hw) (notFace_of_selects (args := #[]) (mvT hZ0 (wd101 hw))) (wd101 hw) (wd100 hw) (by decide) Pe e361 (Con.back (W := 0) (rm_gbc0_2 l Z a0 hw zC vF G a2 t kt us vv kv vd h0 O0 Pe Pc Pv Pa Pl Wa Wl Wy) hZ0 (wd102 hw) (wd8 hw) (by decide) (by decide)) (by rw [hml]; rfl) (lenOf pd16 rfl) rfl (Nat.le_of_eq rfl) (hb hby e48_15) (q := 18) rfl (by decide) (by decide) ?_
  intro v362 T362 L362 X362 Q362
  obtain ⟨rfl, Nq362, K362q, q362_0, q362_1⟩ := Q362
  have N362 := Fr.app N359 Nq362
  show Go _ _ _ _ (T362.setTop (mkF m 18 #[.val (.ref a1), .val (iv 2), .val (.ref a2)] []))
  have K363 : Keep h0 T362.heap [vv] := (Keep.refl h0 [vv]).trans K362q (allS (Or.inl (by simp)) all0)
  refine endP X362 hlk (fun _ => rfl) (lastV X362 hx hret (hb hby e48_18)) ?_ (by decide) (by decide)
  exact ⟨rfl, N362, K363, q362_0, q362_1⟩
def Q_aapLL2 (Z : State) (zC : Int32) (vF : Value) (a1 : Addr) (vv : Addr) (kv : ClassId) (vd : List Value) (a2 : Addr) (t : Addr) (kt : ClassId) (us : List Value) (h0 : Heap) (v : Option Value) (h : Heap) (L : List Loc) : Prop := ∃ (c : Addr), ∃ (kc : ClassId), v = some (.ref a1) ∧ Fr Z.heap.size L ∧ Keep h0 h [a1] ∧ Exa Z h a1 sT2 ∧ Fld Z h a1 sT0 "coder" "B" (iv 0) ∧ Fld Z h a1 sT0 "count" "I" (iv 18) ∧ Fld Z h a1 sT0 "maybeLatin1" "Z" (iv 0) ∧ Fld Z h a1 sT0 "value" "[B" (.ref c) ∧ Arv Z h c kc .byte (34 : Int32) (ins (ins (List.replicate 34 (iv 0)) (sub vd 0 16 (.int 0)) 0 16) (sub us 0 16 (.int 0)) 2 16) (.int 0) ∧ ((ins (ins (List.replicate 34 (iv 0)) (sub vd 0 16 (.int 0)) 0 16) (sub us 0 16 (.int 0)) 2 16).length = 34) ∧ h0.size ≤ c ∧ Exa Z h c "[B"
theorem rm_aapLL2 (l : Launch) (Z : State) (a0 : Array Value) (hw : HW a0 Z) (zC : Int32) (vF : Value) (G : GB l a0 Z zC vF) (a1 : Addr) (vv : Addr) (kv : ClassId) (vd : List Value) (a2 : Addr) (t : Addr) (kt : ClassId) (us : List Value) (h0 : Heap) (O0 : Old Z Z.heap.size h0) (Qe : Exa Z h0 a1 sT2) (Qc : Fld Z h0 a1 sT0 "coder" "B" (iv 0)) (Qn : Fld Z h0 a1 sT0 "count" "I" (iv 2)) (Qm : Fld Z h0 a1 sT0 "maybeLatin1" "Z" (iv 0)) (Qv : Fld Z h0 a1 sT0 "value" "[B" (.ref vv)) (Qa : Arv Z h0 vv kv .byte (16 : Int32) vd (.int 0)) (Ql : (vd.length = 16)) (QE : Exa Z h0 vv "[B") (Qz : Z.heap.size ≤ a1) (Qy : Z.heap.size ≤ vv) (Pe : Exa Z h0 a2 sT1) (Pc : Fld Z h0 a2 sT1 "coder" "B" (iv 0)) (Pv : Fld Z h0 a2 sT1 "value" "[B" (.ref t)) (Pa : Arv Z h0 t kt .byte (16 : Int32) us (.int 0)) (Pl : (us.length = 16)) :
    Con l Z (⟨sT0, "append", "(Ljava/lang/String;)Ljava/lang/AbstractStringBuilder;"⟩ : MethodName) kC9 3 (some (.object sT0)) ({ frames := 4, cells := 1, slots := 34, locals := 62 } : Room) #[(.ref a1), (.ref a2)] h0 (Q_aapLL2 Z zC vF a1 vv kv vd a2 t kt us h0) := by
  refine Con.intro (plainFor_of_name pn4) ?_
  intro p e s m below meth c T0 X0 hx hby hml hown0 hnm hret hlk hZ0 e0
  have N0 := Fr.nil Z.heap.size
  refine castGo (g' := mkF m 0 #[.val (.ref a1), .val (.ref a2), .unset] []) (by first | rfl | (simp [entryFrame, mkF, argsToLocals, Value.category]; done)) ?_
  show Go _ _ _ _ (T0.setTop (mkF m 0 #[.val (.ref a1), .val (.ref a2), .unset] []))
  refine aL X0 hx (hb hby e43_0) (q := 1) rfl rfl rfl ?_
  refine nnY X0 hx (hb hby e43_1) (q := 9) (by decide) (by decide) ?_
  refine aL X0 hx (hb hby e43_9) (q := 10) rfl rfl rfl ?_
  refine g_vi X0 hx hZ0 hown0 (wd70 hw) (wd71 hw) (notFace_of_selects (args := #[]) (mvT hZ0 (wd73 hw))) (wd73 hw) (wd72 hw) (by decide) Pe e0 (Con.back (W := 0) (rm_len16_0 l Z a0 hw zC vF G a2 t kt us h0 O0 Pe Pc Pv Pa) hZ0 (wd74 hw) (wd8 hw) (by decide) (by decide)) (by rw [hml]; rfl) (lenOf pd17 rfl) rfl (Nat.le_of_eq rfl) (hb hby e43_10) (q := 13) rfl (by decide) (by decide) ?_
  intro v364 T364 L364 X364 Q364
  obtain ⟨rfl, Nq364, e364⟩ := Q364
  have N364 := Fr.app N0 Nq364
  show Go _ _ _ _ (T364.setTop (mkF m 13 #[.val (.ref a1), .val (.ref a2), .unset] [(iv 16)]))
  refine sI X364 hx (hb hby e43_13) (q := 14) rfl (Ls' := #[.val (.ref a1), .val (.ref a2), .val (iv 16)]) rfl ?_
  refine aL X364 hx (hb hby e43_14) (q := 15) rfl rfl rfl ?_
  refine aL X364 hx (hb hby e43_15) (q := 16) rfl rfl rfl ?_
  refine g_getF X364 hx hZ0 hown0 (host := "") (Or.inl (wd80 hw)) Via.refl Qn e364 (hb hby e43_16) (q := 19) rfl ?_
  intro T365 X365 e365
  refine iL X365 hx (hb hby e43_19) (q := 20) rfl rfl ?_
  refine g_iadd X365 hx (hb hby e43_20) (q := 21) rfl (z := (18 : Int32)) (by decide) ?_
  refine g_pvC X365 hx hZ0 hown0 (wd82 hw) (wd83 hw) (wd85 hw) (wd84 hw) (wd86 hw) (by decide) Qe e365 (Con.back (W := 0) (rm_ens0_2 l Z a0 hw zC vF G a1 vv kv vd h0 O0 Qe Qc Qn Qm Qv Qa Ql QE Qz Qy) hZ0 (wd86 hw) (wd52 hw) (by decide) (by decide)) (by rw [hml]; rfl) (lenOf pd14 rfl) rfl (Nat.le_of_eq rfl) (hb hby e43_21) (q := 24) rfl (by decide) (by decide) ?_
  intro v366 T366 L366 X366 Q366
  obtain ⟨c_366, kc_366, rfl, Nq366, K366q, q366_0, q366_1, q366_2, q366_3, q366_4, q366_5, q366_6, q366_7, q366_8⟩ := Q366
  have N366 := Fr.app N364 Nq366
  show Go _ _ _ _ (T366.setTop (mkF m 24 #[.val (.ref a1), .val (.ref a2), .val (iv 16)] []))
  refine aL X366 hx (hb hby e43_24) (q := 25) rfl rfl rfl ?_
  refine aL X366 hx (hb hby e43_25) (q := 26) rfl rfl rfl ?_
  refine g_getF X366 hx hZ0 hown0 (host := "") (Or.inl (wd80 hw)) Via.refl q366_3 rfl (hb hby e43_26) (q := 29) rfl ?_
  intro T367 X367 e367
  refine aL X367 hx (hb hby e43_29) (q := 30) rfl rfl rfl ?_
  have f376 := Pe.keep K366q
  have ne377 : a2 ≠ a1 := (ne_exa Pe Qe (by decide))
  have f378 := Pc.keep K366q (ninS ne377 nin0)
  have f379 := Pv.keep K366q (ninS ne377 nin0)
  have ne380 : t ≠ a1 := (Ne.symm (Exa.neArv Qe Pa (wd43 hw)))
  have f381 := Pa.keep K366q (ninS ne380 nin0)
  have gz382 : Z.heap.size ≤ c_366 := Nat.le_trans O0.2.1 q366_0
  have f383 := O0.keep K366q (allS Qz all0)
  refine g_pvC X367 hx hZ0 hown0 (wd87 hw) (wd88 hw) (wd90 hw) (wd89 hw) (wd91 hw) (by decide) q366_1 e367 (Con.back (W := 0) (rm_psaLL2 l Z a0 hw zC vF G a1 a2 t kt us c_366 kc_366 (ins (List.replicate 34 (iv 0)) (sub vd 0 16 (.int 0)) 0 16) T366.heap f383 f376 f378 f379 f381 Pl q366_1 q366_2 q366_5 q366_6 q366_8 gz382) hZ0 (wd91 hw) (wd52 hw) (by decide) (by decide)) (by rw [hml]; rfl) (lenOf pd18 rfl) rfl (Nat.le_of_eq rfl) (hb hby e43_30) (q := 33) rfl (by decide) (by decide) ?_
  intro v375 T375 L375 X375 Q375
  obtain ⟨rfl, Nq375, K375q, q375_0, q375_1⟩ := Q375
  have N375 := Fr.app N366 Nq375
  show Go _ _ _ _ (T375.setTop (mkF m 33 #[.val (.ref a1), .val (.ref a2), .val (iv 16)] []))
  refine aL X375 hx (hb hby e43_33) (q := 34) rfl rfl rfl ?_
  refine g_dup X375 hx (hb hby e43_34) (q := 35) rfl rfl ?_
  have ne384 : a1 ≠ c_366 := (Nat.ne_of_lt (Nat.lt_of_lt_of_le (Nat.lt_of_lt_of_le Qe.lt (Nat.le_refl _)) q366_0))
  have f385 := q366_3.keep K375q (ninS ne384 nin0)
  refine g_getF X375 hx hZ0 hown0 (host := "") (Or.inl (wd80 hw)) Via.refl f385 rfl (hb hby e43_35) (q := 38) rfl ?_
  intro T386 X386 e386
  refine iL X386 hx (hb hby e43_38) (q := 39) rfl rfl ?_
  refine g_iadd X386 hx (hb hby e43_39) (q := 40) rfl (z := (18 : Int32)) (by decide) ?_
  have f387 := q366_1.keep K375q
  refine g_putF X386 hx hZ0 hown0 (host := "") (Or.inl (wd80 hw)) Via.refl f385 f387 (Or.inl (wd81 hw)) (wd43 hw) (ty := .int) (by decide) rfl rfl e386 (hb hby e43_40) (q := 43) rfl ?_
  intro T388 h388 X388 e388 W388
  have N388 := Fr.snoc X388 N375 Qz
  have Fw388 : Fld Z h388 a1 sT0 "count" "I" (iv 18) := f385.same W388
  refine aL X388 hx (hb hby e43_43) (q := 44) rfl rfl rfl ?_
  have K389 : Keep h0 T366.heap [a1] := (Keep.refl h0 [a1]).trans K366q (allS (Or.inl (by simp)) all0)
  have gh390 : h0.size ≤ c_366 := Nat.le_trans (Nat.le_refl _) q366_0
  have K391 : Keep h0 T375.heap [a1] := K389.trans K375q (allS (Or.inr gh390) all0)
  have K392 : Keep h0 h388 [a1] := K391.wr W388 (Or.inl (by simp))
  have f393 := f387.wr W388
  have f394 := q366_2.keep K375q (ninS ne384 nin0)
  have f395 := f394.other W388 (Or.inr (slot_ne (Or.inl (wd59 hw)) (Or.inl (wd81 hw)) (by decide) (t := .byte) (t' := .int) (by decide) (by decide)))
  have f396 := q366_4.keep K375q (ninS ne384 nin0)
  have f397 := f396.other W388 (Or.inr (slot_ne (Or.inl (wd310 hw)) (Or.inl (wd81 hw)) (by decide) (t := .boolean) (t' := .int) (by decide) (by decide)))
  have f398 := q366_5.keep K375q (ninS ne384 nin0)
  have f399 := f398.other W388 (Or.inr (slot_ne (Or.inl (wd57 hw)) (Or.inl (wd81 hw)) (by decide) (t := (.array .byte)) (t' := .int) (by decide) (by decide)))
  have ne400 : c_366 ≠ a1 := (Ne.symm ne384)
  have f401 := q375_0.other W388 ne400
  have f402 := q366_7.keep K375q
  have f403 := f402.wr W388
  refine endP X388 hlk (fun h => by rw [hret] at h; cases h) (lastA X388 hx hret rfl rfl rfl (hb hby e43_44)) ?_ (by decide) (by decide)
  rw [e388]
  exact ⟨c_366, kc_366, rfl, N388, K392, f393, f395, Fw388, f397, f399, f401, q375_1, gh390, f403⟩
def Q_mn32 (Z : State) (zC : Int32) (vF : Value) (h0 : Heap) (v : Option Value) (h : Heap) (L : List Loc) : Prop := v = some (iv 32) ∧ Fr Z.heap.size L ∧ h = h0
theorem rm_mn32 (l : Launch) (Z : State) (a0 : Array Value) (hw : HW a0 Z) (zC : Int32) (vF : Value) (G : GB l a0 Z zC vF)  (h0 : Heap) (O0 : Old Z Z.heap.size h0)  :
    Con l Z (⟨"java/lang/Math", "min", "(II)I"⟩ : MethodName) kC19 2 (some .int) ({ frames := 0, cells := 0, slots := 0, locals := 0 } : Room) #[(iv 32), (iv 68)] h0 (Q_mn32 Z zC vF h0) := by
  refine Con.intro pf6 ?_
  intro p e s m below meth c T0 X0 hx hby hml hown0 hnm hret hlk hZ0 e0
  have N0 := Fr.nil Z.heap.size
  refine castGo (g' := mkF m 0 #[.val (iv 32), .val (iv 68)] []) (by first | rfl | (simp [entryFrame, mkF, argsToLocals, Value.category]; done)) ?_
  show Go _ _ _ _ (T0.setTop (mkF m 0 #[.val (iv 32), .val (iv 68)] []))
  refine iL X0 hx (hb hby e1_0) (q := 1) rfl rfl ?_
  refine iL X0 hx (hb hby e1_1) (q := 2) rfl rfl ?_
  refine icN X0 hx (hb hby e1_2) (q := 5) rfl (by decide) ?_
  refine iL X0 hx (hb hby e1_5) (q := 6) rfl rfl ?_
  refine g_goto X0 hx (hb hby e1_6) (q := 10) (by decide) (by decide) ?_
  refine endP X0 hlk (fun h => by rw [hret] at h; cases h) (lastI X0 hx hret (hb hby e1_10)) ?_ (by decide) (by decide)
  rw [e0]
  exact ⟨rfl, N0, rfl⟩
def Q_mx32 (Z : State) (zC : Int32) (vF : Value) (h0 : Heap) (v : Option Value) (h : Heap) (L : List Loc) : Prop := v = some (iv 36) ∧ Fr Z.heap.size L ∧ h = h0
theorem rm_mx32 (l : Launch) (Z : State) (a0 : Array Value) (hw : HW a0 Z) (zC : Int32) (vF : Value) (G : GB l a0 Z zC vF)  (h0 : Heap) (O0 : Old Z Z.heap.size h0)  :
    Con l Z (⟨"java/lang/Math", "max", "(II)I"⟩ : MethodName) kC17 2 (some .int) ({ frames := 0, cells := 0, slots := 0, locals := 0 } : Room) #[(iv 4), (iv 36)] h0 (Q_mx32 Z zC vF h0) := by
  refine Con.intro pf7 ?_
  intro p e s m below meth c T0 X0 hx hby hml hown0 hnm hret hlk hZ0 e0
  have N0 := Fr.nil Z.heap.size
  refine castGo (g' := mkF m 0 #[.val (iv 4), .val (iv 36)] []) (by first | rfl | (simp [entryFrame, mkF, argsToLocals, Value.category]; done)) ?_
  show Go _ _ _ _ (T0.setTop (mkF m 0 #[.val (iv 4), .val (iv 36)] []))
  refine iL X0 hx (hb hby e0_0) (q := 1) rfl rfl ?_
  refine iL X0 hx (hb hby e0_1) (q := 2) rfl rfl ?_
  refine icY X0 hx (hb hby e0_2) (q := 9) (by decide) (by decide) (by decide) ?_
  refine iL X0 hx (hb hby e0_9) (q := 10) rfl rfl ?_
  refine endP X0 hlk (fun h => by rw [hret] at h; cases h) (lastI X0 hx hret (hb hby e0_10)) ?_ (by decide) (by decide)
  rw [e0]
  exact ⟨rfl, N0, rfl⟩
def Q_nl32 (Z : State) (zC : Int32) (vF : Value) (h0 : Heap) (v : Option Value) (h : Heap) (L : List Loc) : Prop := v = some (iv 68) ∧ Fr Z.heap.size L ∧ h = h0
theorem rm_nl32 (l : Launch) (Z : State) (a0 : Array Value) (hw : HW a0 Z) (zC : Int32) (vF : Value) (G : GB l a0 Z zC vF)  (h0 : Heap) (O0 : Old Z Z.heap.size h0)  :
    Con l Z (⟨"jdk/internal/util/ArraysSupport", "newLength", "(III)I"⟩ : MethodName) kC35 4 (some .int) ({ frames := 1, cells := 0, slots := 0, locals := 14 } : Room) #[(iv 32), (iv 4), (iv 36)] h0 (Q_nl32 Z zC vF h0) := by
  refine Con.intro (plainFor_of_name pn8) ?_
  intro p e s m below meth c T0 X0 hx hby hml hown0 hnm hret hlk hZ0 e0
  have N0 := Fr.nil Z.heap.size
  refine castGo (g' := mkF m 0 #[.val (iv 32), .val (iv 4), .val (iv 36), .unset] []) (by first | rfl | (simp [entryFrame, mkF, argsToLocals, Value.category]; done)) ?_
  show Go _ _ _ _ (T0.setTop (mkF m 0 #[.val (iv 32), .val (iv 4), .val (iv 36), .unset] []))
  refine iL X0 hx (hb hby e19_0) (q := 1) rfl rfl ?_
  refine iL X0 hx (hb hby e19_1) (q := 2) rfl rfl ?_
  refine iL X0 hx (hb hby e19_2) (q := 3) rfl rfl ?_
  refine g_st X0 hx hZ0 hown0 (wd119 hw) (wd120 hw) (wd121 hw) (wd122 hw) (by decide) e0 (Con.back (W := 1) (rm_mx32 l Z a0 hw zC vF G  h0 O0 ) hZ0 (wd122 hw) (wd121 hw) (by decide) (by decide)) (by rw [hml]; rfl) (lenOf pd21 rfl) rfl (Nat.le_of_eq rfl) (hb hby e19_3) (q := 6) rfl (by decide) (by decide) ?_
  intro v404 T404 L404 X404 Q404
  obtain ⟨rfl, Nq404, e404⟩ := Q404
  have N404 := Fr.app N0 Nq404
  show Go _ _ _ _ (T404.setTop (mkF m 6 #[.val (iv 32), .val (iv 4), .val (iv 36), .unset] [(iv 36), (iv 32)]))
  refine g_iadd X404 hx (hb hby e19_6) (q := 7) rfl (z := (68 : Int32)) (by decide) ?_
  refine sI X404 hx (hb hby e19_7) (q := 8) rfl (Ls' := #[.val (iv 32), .val (iv 4), .val (iv 36), .val (iv 68)]) rfl ?_
  refine cI X404 hx (hb hby e19_8) (q := 9) rfl (z := (0 : Int32)) rfl ?_
  refine iL X404 hx (hb hby e19_9) (q := 10) rfl rfl ?_
  refine icN X404 hx (hb hby e19_10) (q := 13) rfl (by decide) ?_
  refine iL X404 hx (hb hby e19_13) (q := 14) rfl rfl ?_
  refine g_ldcI X404 hx (a1 := #[]) hZ0 hown0 (wd123 hw) (hb hby e19_14) (q := 16) rfl ?_
  refine icN X404 hx (hb hby e19_16) (q := 19) rfl (by decide) ?_
  refine iL X404 hx (hb hby e19_19) (q := 20) rfl rfl ?_
  refine endP X404 hlk (fun h => by rw [hret] at h; cases h) (lastI X404 hx hret (hb hby e19_20)) ?_ (by decide) (by decide)
  rw [e404]
  exact ⟨rfl, N404, rfl⟩
def Q_nc32 (Z : State) (zC : Int32) (vF : Value) (a1 : Addr) (vv : Addr) (kv : ClassId) (vd : List Value) (h0 : Heap) (v : Option Value) (h : Heap) (L : List Loc) : Prop := v = some (iv 34) ∧ Fr Z.heap.size L ∧ h = h0
theorem rm_nc32 (l : Launch) (Z : State) (a0 : Array Value) (hw : HW a0 Z) (zC : Int32) (vF : Value) (G : GB l a0 Z zC vF) (a1 : Addr) (vv : Addr) (kv : ClassId) (vd : List Value) (h0 : Heap) (O0 : Old Z Z.heap.size h0) (Qe : Exa Z h0 a1 sT2) (Qc : Fld Z h0 a1 sT0 "coder" "B" (iv 1)) (Qv : Fld Z h0 a1 sT0 "value" "[B" (.ref vv)) (Qa : Arv Z h0 vv kv .byte (32 : Int32) vd (.int 0)) :
    Con l Z (⟨sT0, "newCapacity", "(I)I"⟩ : MethodName) kC18 6 (some .int) ({ frames := 2, cells := 0, slots := 0, locals := 29 } : Room) #[(.ref a1), (iv 18)] h0 (Q_nc32 Z zC vF a1 vv kv vd h0) := by
  refine Con.intro (plainFor_of_name pn4) ?_
  intro p e s m below meth c T0 X0 hx hby hml hown0 hnm hret hlk hZ0 e0
  have N0 := Fr.nil Z.heap.size
  refine castGo (g' := mkF m 0 #[.val (.ref a1), .val (iv 18), .unset, .unset, .unset, .unset] []) (by first | rfl | (simp [entryFrame, mkF, argsToLocals, Value.category]; done)) ?_
  show Go _ _ _ _ (T0.setTop (mkF m 0 #[.val (.ref a1), .val (iv 18), .unset, .unset, .unset, .unset] []))
  refine aL X0 hx (hb hby e40_0) (q := 1) rfl rfl rfl ?_
  refine g_getF X0 hx hZ0 hown0 (host := "") (Or.inl (wd56 hw)) Via.refl Qv e0 (hb hby e40_1) (q := 4) rfl ?_
  intro T405 X405 e405
  refine g_len X405 hx hZ0 Qa e405 (hb hby e40_4) (q := 5) rfl ?_
  refine sI X405 hx (hb hby e40_5) (q := 6) rfl (Ls' := #[.val (.ref a1), .val (iv 18), .val (iv 32), .unset, .unset, .unset]) rfl ?_
  refine iL X405 hx (hb hby e40_6) (q := 7) rfl rfl ?_
  refine aL X405 hx (hb hby e40_7) (q := 8) rfl rfl rfl ?_
  refine g_getF X405 hx hZ0 hown0 (host := "") (Or.inl (wd58 hw)) Via.refl Qc e405 (hb hby e40_8) (q := 11) rfl ?_
  intro T406 X406 e406
  refine g_ishl X406 hx (hb hby e40_11) (q := 12) rfl (z := (36 : Int32)) (by decide) ?_
  refine sI X406 hx (hb hby e40_12) (q := 13) rfl (Ls' := #[.val (.ref a1), .val (iv 18), .val (iv 32), .val (iv 36), .unset, .unset]) rfl ?_
  refine iL X406 hx (hb hby e40_13) (q := 14) rfl rfl ?_
  refine iL X406 hx (hb hby e40_14) (q := 15) rfl rfl ?_
  refine g_isub X406 hx (hb hby e40_15) (q := 16) rfl (z := (4 : Int32)) (by decide) ?_
  refine sIw X406 hx (hb hby e40_16) (q := 18) rfl (Ls' := #[.val (.ref a1), .val (iv 18), .val (iv 32), .val (iv 36), .val (iv 4), .unset]) rfl ?_
  refine iL X406 hx (hb hby e40_18) (q := 19) rfl rfl ?_
  refine iLw X406 hx (hb hby e40_19) (q := 21) rfl rfl ?_
  refine iL X406 hx (hb hby e40_21) (q := 22) rfl rfl ?_
  refine cI X406 hx (hb hby e40_22) (q := 23) rfl (z := (2 : Int32)) rfl ?_
  refine aL X406 hx (hb hby e40_23) (q := 24) rfl rfl rfl ?_
  refine g_getF X406 hx hZ0 hown0 (host := "") (Or.inl (wd58 hw)) Via.refl Qc e406 (hb hby e40_24) (q := 27) rfl ?_
  intro T407 X407 e407
  refine g_ishl X407 hx (hb hby e40_27) (q := 28) rfl (z := (4 : Int32)) (by decide) ?_
  refine g_iadd X407 hx (hb hby e40_28) (q := 29) rfl (z := (36 : Int32)) (by decide) ?_
  refine g_st X407 hx hZ0 hown0 (wd115 hw) (wd116 hw) (wd117 hw) (wd118 hw) (by decide) e407 (Con.back (W := 0) (rm_nl32 l Z a0 hw zC vF G  h0 O0 ) hZ0 (wd118 hw) (wd117 hw) (by decide) (by decide)) (by rw [hml]; rfl) (lenOf pd3 rfl) rfl (Nat.le_of_eq rfl) (hb hby e40_29) (q := 32) rfl (by decide) (by decide) ?_
  intro v408 T408 L408 X408 Q408
  obtain ⟨rfl, Nq408, e408⟩ := Q408
  have N408 := Fr.app N0 Nq408
  show Go _ _ _ _ (T408.setTop (mkF m 32 #[.val (.ref a1), .val (iv 18), .val (iv 32), .val (iv 36), .val (iv 4), .unset] [(iv 68)]))
  refine sIw X408 hx (hb hby e40_32) (q := 34) rfl (Ls' := #[.val (.ref a1), .val (iv 18), .val (iv 32), .val (iv 36), .val (iv 4), .val (iv 68)]) rfl ?_
  refine iLw X408 hx (hb hby e40_34) (q := 36) rfl rfl ?_
  refine g_ldcI X408 hx (a1 := #[]) hZ0 hown0 (wd124 hw) (hb hby e40_36) (q := 38) rfl ?_
  refine icY X408 hx (hb hby e40_38) (q := 51) (by decide) (by decide) (by decide) ?_
  refine iLw X408 hx (hb hby e40_51) (q := 53) rfl rfl ?_
  refine aL X408 hx (hb hby e40_53) (q := 54) rfl rfl rfl ?_
  refine g_getF X408 hx hZ0 hown0 (host := "") (Or.inl (wd58 hw)) Via.refl Qc e408 (hb hby e40_54) (q := 57) rfl ?_
  intro T409 X409 e409
  refine g_ishr X409 hx (hb hby e40_57) (q := 58) rfl (z := (34 : Int32)) (by decide) ?_
  refine endP X409 hlk (fun h => by rw [hret] at h; cases h) (lastI X409 hx hret (hb hby e40_58)) ?_ (by decide) (by decide)
  rw [e409]
  exact ⟨rfl, N408, rfl⟩
def Q_cpo32 (Z : State) (zC : Int32) (vF : Value) (vv : Addr) (kv : ClassId) (vd : List Value) (h0 : Heap) (v : Option Value) (h : Heap) (L : List Loc) : Prop := ∃ (c : Addr), ∃ (kc : ClassId), v = some (.ref c) ∧ Fr Z.heap.size L ∧ Keep h0 h [] ∧ h0.size ≤ c ∧ Arv Z h c kc .byte (68 : Int32) (ins (List.replicate 68 (iv 0)) (sub vd 0 32 (.int 0)) 0 32) (.int 0) ∧ Exa Z h c "[B" ∧ ((ins (List.replicate 68 (iv 0)) (sub vd 0 32 (.int 0)) 0 32).length = 68)
theorem rm_cpo32 (l : Launch) (Z : State) (a0 : Array Value) (hw : HW a0 Z) (zC : Int32) (vF : Value) (G : GB l a0 Z zC vF) (vv : Addr) (kv : ClassId) (vd : List Value) (h0 : Heap) (O0 : Old Z Z.heap.size h0) (Qa : Arv Z h0 vv kv .byte (32 : Int32) vd (.int 0)) (Ql : (vd.length = 32)) :
    Con l Z (⟨"java/util/Arrays", "copyOf", "([BI)[B"⟩ : MethodName) kC3 3 (some (.array .byte)) ({ frames := 1, cells := 1, slots := 68, locals := 31 } : Room) #[(.ref vv), (iv 68)] h0 (Q_cpo32 Z zC vF vv kv vd h0) := by
  refine Con.intro (plainFor_of_name pn9) ?_
  intro p e s m below meth c T0 X0 hx hby hml hown0 hnm hret hlk hZ0 e0
  have N0 := Fr.nil Z.heap.size
  refine castGo (g' := mkF m 0 #[.val (.ref vv), .val (iv 68), .unset] []) (by first | rfl | (simp [entryFrame, mkF, argsToLocals, Value.category]; done)) ?_
  show Go _ _ _ _ (T0.setTop (mkF m 0 #[.val (.ref vv), .val (iv 68), .unset] []))
  refine iL X0 hx (hb hby e34_0) (q := 1) rfl rfl ?_
  refine aL X0 hx (hb hby e34_1) (q := 2) rfl rfl rfl ?_
  refine g_len X0 hx hZ0 Qa e0 (hb hby e34_2) (q := 3) rfl ?_
  refine icY X0 hx (hb hby e34_3) (q := 14) (by decide) (by decide) (by decide) ?_
  refine iL X0 hx (hb hby e34_14) (q := 15) rfl rfl ?_
  refine g_newE X0 hx hZ0 (aty := .byte) (wd24 hw) (by decide) (n := 68) (by decide) (by decide) (by decide) (by decide) (ad := "[B") (by decide) e0 (hb hby e34_15) (q := 17) rfl ?_
  intro T410 h410 k410 b410 g410 X410 e410 E410 V410 G410
  have Va410 : Arv Z h410 b410 k410 .byte (68 : Int32) (List.replicate 68 (iv 0)) (.int 0) := V410
  refine sA X410 hx (hb hby e34_17) (q := 18) rfl rfl (Ls' := #[.val (.ref vv), .val (iv 68), .val (.ref b410)]) rfl ?_
  refine aL X410 hx (hb hby e34_18) (q := 19) rfl rfl rfl ?_
  refine cI X410 hx (hb hby e34_19) (q := 20) rfl (z := (0 : Int32)) rfl ?_
  refine aL X410 hx (hb hby e34_20) (q := 21) rfl rfl rfl ?_
  refine cI X410 hx (hb hby e34_21) (q := 22) rfl (z := (0 : Int32)) rfl ?_
  refine aL X410 hx (hb hby e34_22) (q := 23) rfl rfl rfl ?_
  have f411 := Qa.ext E410
  refine g_len X410 hx hZ0 f411 e410 (hb hby e34_23) (q := 24) rfl ?_
  refine iL X410 hx (hb hby e34_24) (q := 25) rfl rfl ?_
  have f413 := O0.ext E410
  refine g_st X410 hx hZ0 hown0 (wd129 hw) (wd130 hw) (wd121 hw) (wd131 hw) (by decide) e410 (Con.back (W := 4) (rm_mn32 l Z a0 hw zC vF G  h410 f413 ) hZ0 (wd131 hw) (wd121 hw) (by decide) (by decide)) (by rw [hml]; rfl) (lenOf pd21 rfl) rfl (Nat.le_of_eq rfl) (hb hby e34_25) (q := 28) rfl (by decide) (by decide) ?_
  intro v412 T412 L412 X412 Q412
  obtain ⟨rfl, Nq412, e412⟩ := Q412
  have N412 := Fr.app N0 Nq412
  show Go _ _ _ _ (T412.setTop (mkF m 28 #[.val (.ref vv), .val (iv 68), .val (.ref b410)] [(iv 32), (iv 0), (.ref b410), (iv 0), (.ref vv)]))
  have gz415 : Z.heap.size ≤ b410 := Nat.le_trans O0.2.1 (Nat.le_of_eq g410.symm)
  refine g_cp X412 hx hZ0 hown0 (wd132 hw) (wd106 hw) (wd104 hw) (wd105 hw) (us := (sub vd 0 32 (.int 0))) f411 Va410 (Or.inl ⟨rfl, rfl⟩) (by decide) (by decide) (by decide) (by decide) (by decide) rfl (show 0 + 32 ≤ 68 from (by decide)) N412 gz415 (by rw [hml]; rfl) (by decide) (W := 0) (Nat.le_of_eq rfl) (by decide) e412 (hb hby e34_28) (q := 31) rfl ?_
  intro T414 h414 L414 X414 e414 N414 K414q V414
  have Va414 : Arv Z h414 b410 k410 .byte (68 : Int32) (ins (List.replicate 68 (iv 0)) (sub vd 0 32 (.int 0)) 0 32) (.int 0) := V414
  have Ln414 : (ins (List.replicate 68 (iv 0)) (sub vd 0 32 (.int 0)) 0 32).length = 68 := (ins_len sub_len (show 0 + 32 ≤ 68 from (by decide))).trans rfl
  refine aL X414 hx (hb hby e34_31) (q := 32) rfl rfl rfl ?_
  have K416 : Keep h0 h410 [] := (Keep.refl h0 []).ext E410
  have gh417 : h0.size ≤ b410 := Nat.le_trans (Nat.le_refl _) (Nat.le_of_eq g410.symm)
  have K418 : Keep h0 h414 [] := K416.trans K414q (allS (Or.inr gh417) all0)
  have f419 := G410.keep K414q
  refine endP X414 hlk (fun h => by rw [hret] at h; cases h) (lastA X414 hx hret rfl rfl rfl (hb hby e34_32)) ?_ (by decide) (by decide)
  rw [e414]
  exact ⟨b410, k410, rfl, N414, K418, gh417, Va414, f419, Ln414⟩
def Q_ens1_2 (Z : State) (zC : Int32) (vF : Value) (a1 : Addr) (vv : Addr) (kv : ClassId) (vd : List Value) (h0 : Heap) (v : Option Value) (h : Heap) (L : List Loc) : Prop := ∃ (c : Addr), ∃ (kc : ClassId), v = none ∧ Fr Z.heap.size L ∧ Keep h0 h [a1] ∧ h0.size ≤ c ∧ Exa Z h a1 sT2 ∧ Fld Z h a1 sT0 "coder" "B" (iv 1) ∧ Fld Z h a1 sT0 "count" "I" (iv 2) ∧ Fld Z h a1 sT0 "maybeLatin1" "Z" (iv 0) ∧ Fld Z h a1 sT0 "value" "[B" (.ref c) ∧ Arv Z h c kc .byte (68 : Int32) (ins (List.replicate 68 (iv 0)) (sub vd 0 32 (.int 0)) 0 32) (.int 0) ∧ Exa Z h c "[B" ∧ ((ins (List.replicate 68 (iv 0)) (sub vd 0 32 (.int 0)) 0 32).length = 68)
theorem rm_ens1_2 (l : Launch) (Z : State) (a0 : Array Value) (hw : HW a0 Z) (zC : Int32) (vF : Value) (G : GB l a0 Z zC vF) (a1 : Addr) (vv : Addr) (kv : ClassId) (vd : List Value) (h0 : Heap) (O0 : Old Z Z.heap.size h0) (Qe : Exa Z h0 a1 sT2) (Qc : Fld Z h0 a1 sT0 "coder" "B" (iv 1)) (Qn : Fld Z h0 a1 sT0 "count" "I" (iv 2)) (Qm : Fld Z h0 a1 sT0 "maybeLatin1" "Z" (iv 0)) (Qv : Fld Z h0 a1 sT0 "value" "[B" (.ref vv)) (Qa : Arv Z h0 vv kv .byte (32 : Int32) vd (.int 0)) (Ql : (vd.length = 32)) (QE : Exa Z h0 vv "[B") (Qz : Z.heap.size ≤ a1) (Qy : Z.heap.size ≤ vv) :
    Con l Z (⟨sT0, "ensureCapacityInternal", "(I)V"⟩ : MethodName) kC49 3 none ({ frames := 3, cells := 1, slots := 68, locals := 48 } : Room) #[(.ref a1), (iv 18)] h0 (Q_ens1_2 Z zC vF a1 vv kv vd h0) := by
  refine Con.intro (plainFor_of_name pn4) ?_
  intro p e s m below meth c T0 X0 hx hby hml hown0 hnm hret hlk hZ0 e0
  have N0 := Fr.nil Z.heap.size
  refine castGo (g' := mkF m 0 #[.val (.ref a1), .val (iv 18), .unset] []) (by first | rfl | (simp [entryFrame, mkF, argsToLocals, Value.category]; done)) ?_
  show Go _ _ _ _ (T0.setTop (mkF m 0 #[.val (.ref a1), .val (iv 18), .unset] []))
  refine aL X0 hx (hb hby e49_0) (q := 1) rfl rfl rfl ?_
  refine g_getF X0 hx hZ0 hown0 (host := "") (Or.inl (wd56 hw)) Via.refl Qv e0 (hb hby e49_1) (q := 4) rfl ?_
  intro T420 X420 e420
  refine g_len X420 hx hZ0 Qa e420 (hb hby e49_4) (q := 5) rfl ?_
  refine aL X420 hx (hb hby e49_5) (q := 6) rfl rfl rfl ?_
  refine g_getF X420 hx hZ0 hown0 (host := "") (Or.inl (wd58 hw)) Via.refl Qc e420 (hb hby e49_6) (q := 9) rfl ?_
  intro T421 X421 e421
  refine g_ishr X421 hx (hb hby e49_9) (q := 10) rfl (z := (16 : Int32)) (by decide) ?_
  refine sI X421 hx (hb hby e49_10) (q := 11) rfl (Ls' := #[.val (.ref a1), .val (iv 18), .val (iv 16)]) rfl ?_
  refine iL X421 hx (hb hby e49_11) (q := 12) rfl rfl ?_
  refine iL X421 hx (hb hby e49_12) (q := 13) rfl rfl ?_
  refine g_isub X421 hx (hb hby e49_13) (q := 14) rfl (z := (2 : Int32)) (by decide) ?_
  refine ifN X421 hx (hb hby e49_14) (q := 17) rfl (by decide) ?_
  refine aL X421 hx (hb hby e49_17) (q := 18) rfl rfl rfl ?_
  refine aL X421 hx (hb hby e49_18) (q := 19) rfl rfl rfl ?_
  refine g_getF X421 hx hZ0 hown0 (host := "") (Or.inl (wd56 hw)) Via.refl Qv e421 (hb hby e49_19) (q := 22) rfl ?_
  intro T422 X422 e422
  refine aL X422 hx (hb hby e49_22) (q := 23) rfl rfl rfl ?_
  refine iL X422 hx (hb hby e49_23) (q := 24) rfl rfl ?_
  refine g_pvC X422 hx hZ0 hown0 (wd110 hw) (wd111 hw) (wd113 hw) (wd112 hw) (wd114 hw) (by decide) Qe e422 (Con.back (W := 2) (rm_nc32 l Z a0 hw zC vF G a1 vv kv vd h0 O0 Qe Qc Qv Qa) hZ0 (wd114 hw) (wd52 hw) (by decide) (by decide)) (by rw [hml]; rfl) (lenOf pd0 rfl) rfl (Nat.le_of_eq rfl) (hb hby e49_24) (q := 27) rfl (by decide) (by decide) ?_
  intro v423 T423 L423 X423 Q423
  obtain ⟨rfl, Nq423, e423⟩ := Q423
  have N423 := Fr.app N0 Nq423
  show Go _ _ _ _ (T423.setTop (mkF m 27 #[.val (.ref a1), .val (iv 18), .val (iv 16)] [(iv 34), (.ref vv), (.ref a1)]))
  refine aL X423 hx (hb hby e49_27) (q := 28) rfl rfl rfl ?_
  refine g_getF X423 hx hZ0 hown0 (host := "") (Or.inl (wd58 hw)) Via.refl Qc e423 (hb hby e49_28) (q := 31) rfl ?_
  intro T424 X424 e424
  refine g_ishl X424 hx (hb hby e49_31) (q := 32) rfl (z := (68 : Int32)) (by decide) ?_
  refine g_st X424 hx hZ0 hown0 (wd125 hw) (wd126 hw) (wd127 hw) (wd128 hw) (by decide) e424 (Con.back (W := 1) (rm_cpo32 l Z a0 hw zC vF G vv kv vd h0 O0 Qa Ql) hZ0 (wd128 hw) (wd127 hw) (by decide) (by decide)) (by rw [hml]; rfl) (lenOf pd22 rfl) rfl (Nat.le_of_eq rfl) (hb hby e49_32) (q := 35) rfl (by decide) (by decide) ?_
  intro v425 T425 L425 X425 Q425
  obtain ⟨c_425, kc_425, rfl, Nq425, K425q, q425_0, q425_1, q425_2, q425_3⟩ := Q425
  have N425 := Fr.app N423 Nq425
  show Go _ _ _ _ (T425.setTop (mkF m 35 #[.val (.ref a1), .val (iv 18), .val (iv 16)] [(.ref c_425), (.ref a1)]))
  have f426 := Qv.keep K425q nin0
  have f427 := Qe.keep K425q
  refine g_putF X425 hx hZ0 hown0 (host := "") (Or.inl (wd56 hw)) Via.refl f426 f427 (Or.inl (wd57 hw)) (wd43 hw) (ty := (.array .byte)) (by decide) rfl rfl rfl (hb hby e49_35) (q := 38) rfl ?_
  intro T428 h428 X428 e428 W428
  have N428 := Fr.snoc X428 N425 Qz
  have Fw428 : Fld Z h428 a1 sT0 "value" "[B" (.ref c_425) := f426.same W428
  have K429 : Keep h0 T425.heap [a1] := (Keep.refl h0 [a1]).trans K425q all0
  have K430 : Keep h0 h428 [a1] := K429.wr W428 (Or.inl (by simp))
  have gh431 : h0.size ≤ c_425 := Nat.le_trans (Nat.le_refl _) q425_0
  have f432 := f427.wr W428
  have f433 := Qc.keep K425q nin0
  have f434 := f433.other W428 (Or.inr (slot_ne (Or.inl (wd59 hw)) (Or.inl (wd57 hw)) (by decide) (t := .byte) (t' := (.array .byte)) (by decide) (by decide)))
  have f435 := Qn.keep K425q nin0
  have f436 := f435.other W428 (Or.inr (slot_ne (Or.inl (wd81 hw)) (Or.inl (wd57 hw)) (by decide) (t := .int) (t' := (.array .byte)) (by decide) (by decide)))
  have f437 := Qm.keep K425q nin0
  have f438 := f437.other W428 (Or.inr (slot_ne (Or.inl (wd310 hw)) (Or.inl (wd57 hw)) (by decide) (t := .boolean) (t' := (.array .byte)) (by decide) (by decide)))
  have ne439 : c_425 ≠ a1 := (Nat.ne_of_gt (Nat.lt_of_lt_of_le (Nat.lt_of_lt_of_le Qe.lt (Nat.le_refl _)) q425_0))
  have f440 := q425_1.other W428 ne439
  have f441 := q425_2.wr W428
  refine endP X428 hlk (fun _ => rfl) (lastV X428 hx hret (hb hby e49_38)) ?_ (by decide) (by decide)
  rw [e428]
  exact ⟨c_425, kc_425, rfl, N428, K430, gh431, f432, f434, f436, f438, Fw428, f440, f441, q425_3⟩
theorem e4_28 : decode kC2 28 = .ok (.aload_n 0, 1) := by decide +kernel
theorem e4_29 : decode kC2 29 = .ok (.getfield 9, 3) := by decide +kernel
theorem e4_32 : decode kC2 32 = .ok (.iconst 0, 1) := by decide +kernel
theorem e4_33 : decode kC2 33 = .ok (.aload_n 1, 1) := by decide +kernel
theorem e4_34 : decode kC2 34 = .ok (.iload_n 2, 1) := by decide +kernel
theorem e4_35 : decode kC2 35 = .ok (.aload_n 0, 1) := by decide +kernel
theorem e4_36 : decode kC2 36 = .ok (.getfield 9, 3) := by decide +kernel
theorem e4_39 : decode kC2 39 = .ok (.arraylength, 1) := by decide +kernel
theorem e4_40 : decode kC2 40 = .ok (.invokestatic 106, 3) := by decide +kernel
theorem wd308 (hw : HW a0 Z) : BW a0 Z (.methodLink sT1 (106 : Nat) ⟨sT10, "inflate", "([BI[BII)V"⟩) := wat hw 308 rfl
def Q_gbx1_2 (Z : State) (zC : Int32) (vF : Value) (a2 : Addr) (t : Addr) (kt : ClassId) (us : List Value) (vv : Addr) (kv : ClassId) (vd : List Value) (cs : List Int32) (h0 : Heap) (v : Option Value) (h : Heap) (L : List Loc) : Prop := v = none ∧ Fr Z.heap.size L ∧ Keep h0 h [vv] ∧ Arv Z h vv kv .byte (68 : Int32) (ins vd (flat cs) (2 * 2) (2 * 16)) (.int 0) ∧ ((ins vd (flat cs) (2 * 2) (2 * 16)).length = 68)
theorem rm_gbx1_2 (l : Launch) (Z : State) (a0 : Array Value) (hw : HW a0 Z) (zC : Int32) (vF : Value) (G : GB l a0 Z zC vF) (a2 : Addr) (t : Addr) (kt : ClassId) (us : List Value) (vv : Addr) (kv : ClassId) (vd : List Value) (cs : List Int32) (h0 : Heap) (O0 : Old Z Z.heap.size h0) (Pe : Exa Z h0 a2 sT1) (Pc : Fld Z h0 a2 sT1 "coder" "B" (iv 0)) (Pv : Fld Z h0 a2 sT1 "value" "[B" (.ref t)) (Pa : Arv Z h0 t kt .byte (16 : Int32) us (.int 0)) (Pl : (us.length = 16)) (Wa : Arv Z h0 vv kv .byte (68 : Int32) vd (.int 0)) (Wl : (vd.length = 68)) (Wy : Z.heap.size ≤ vv) (HS : (SRC us cs 16)) (Wn : t ≠ vv) :
    Con l Z (⟨sT1, "getBytes", "([BIB)V"⟩ : MethodName) kC2 4 none ({ frames := 5, cells := 0, slots := 0, locals := 76 } : Room) #[(.ref a2), (.ref vv), (iv 2), (iv 1)] h0 (Q_gbx1_2 Z zC vF a2 t kt us vv kv vd cs h0) := by
  refine Con.intro (plainFor_of_name pn2) ?_
  intro p e s m below meth c T0 X0 hx hby hml hown0 hnm hret hlk hZ0 e0
  have N0 := Fr.nil Z.heap.size
  refine castGo (g' := mkF m 0 #[.val (.ref a2), .val (.ref vv), .val (iv 2), .val (iv 1)] []) (by first | rfl | (simp [entryFrame, mkF, argsToLocals, Value.category]; done)) ?_
  show Go _ _ _ _ (T0.setTop (mkF m 0 #[.val (.ref a2), .val (.ref vv), .val (iv 2), .val (iv 1)] []))
  refine aL X0 hx (hb hby e4_0) (q := 1) rfl rfl rfl ?_
  refine g_vi X0 hx hZ0 hown0 (wd75 hw) (wd76 hw) (notFace_of_selects (args := #[]) (mvT hZ0 (wd78 hw))) (wd78 hw) (wd77 hw) (by decide) Pe e0 (Con.back (W := 0) (rm_coder0 l Z a0 hw zC vF G a2 h0 O0 Pc) hZ0 (wd79 hw) (wd8 hw) (by decide) (by decide)) (by rw [hml]; rfl) (lenOf pd13 rfl) rfl (Nat.le_of_eq rfl) (hb hby e4_1) (q := 4) rfl (by decide) (by decide) ?_
  intro v442 T442 L442 X442 Q442
  obtain ⟨rfl, Nq442, e442⟩ := Q442
  have N442 := Fr.app N0 Nq442
  show Go _ _ _ _ (T442.setTop (mkF m 4 #[.val (.ref a2), .val (.ref vv), .val (iv 2), .val (iv 1)] [(iv 0)]))
  refine iL X442 hx (hb hby e4_4) (q := 5) rfl rfl ?_
  refine icY X442 hx (hb hby e4_5) (q := 28) (by decide) (by decide) (by decide) ?_
  refine aL X442 hx (hb hby e4_28) (q := 29) rfl rfl rfl ?_
  refine g_getF X442 hx hZ0 hown0 (host := "") (Or.inl (wd33 hw)) Via.refl Pv e442 (hb hby e4_29) (q := 32) rfl ?_
  intro T443 X443 e443
  refine cI X443 hx (hb hby e4_32) (q := 33) rfl (z := (0 : Int32)) rfl ?_
  refine aL X443 hx (hb hby e4_33) (q := 34) rfl rfl rfl ?_
  refine iL X443 hx (hb hby e4_34) (q := 35) rfl rfl ?_
  refine aL X443 hx (hb hby e4_35) (q := 36) rfl rfl rfl ?_
  refine g_getF X443 hx hZ0 hown0 (host := "") (Or.inl (wd33 hw)) Via.refl Pv e443 (hb hby e4_36) (q := 39) rfl ?_
  intro T444 X444 e444
  refine g_len X444 hx hZ0 Pa e444 (hb hby e4_39) (q := 40) rfl ?_
  refine g_st X444 hx hZ0 hown0 (wd308 hw) (wd291 hw) (wd245 hw) (wd292 hw) (by decide) e444 (Con.back (W := 0) (rm_linf l Z a0 hw zC vF G t kt us 16 cs vv kv vd 68 2 16 h0 O0 Wa Wl (show 2 * (2 + 16) ≤ 68 from by omega) (show 68 < 1000 from by omega) Pa (show 16 ≤ 16 from by omega) (show 16 < 1000 from by omega) HS Wy Wn) hZ0 (wd292 hw) (wd245 hw) (by decide) (by decide)) (by rw [hml]; rfl) (lenOf pd6 rfl) rfl (Nat.le_of_eq rfl) (hb hby e4_40) (q := 43) rfl (by decide) (by decide) ?_
  intro v445 T445 L445 X445 Q445
  obtain ⟨rfl, Nq445, K445q, q445_0⟩ := Q445
  have N445 := Fr.app N442 Nq445
  show Go _ _ _ _ (T445.setTop (mkF m 43 #[.val (.ref a2), .val (.ref vv), .val (iv 2), .val (iv 1)] []))
  have K446 : Keep h0 T445.heap [vv] := (Keep.refl h0 [vv]).trans K445q (allS (Or.inl (by simp)) all0)
  refine endP X445 hlk (fun _ => rfl) (lastV X445 hx hret (hb hby e4_43)) ?_ (by decide) (by decide)
  exact ⟨rfl, N445, K446, q445_0, ((ins_len (by rw [flat_len, HS.1]) (by rw [Wl]; decide)).trans Wl)⟩
theorem e41_7 : decode kC26 7 = .ok (.return_, 1) := by decide +kernel
def Q_iflW (Z : State) (zC : Int32) (vF : Value) (a1 : Addr) (h0 : Heap) (v : Option Value) (h : Heap) (L : List Loc) : Prop := v = none ∧ Fr Z.heap.size L ∧ h = h0
theorem rm_iflW (l : Launch) (Z : State) (a0 : Array Value) (hw : HW a0 Z) (zC : Int32) (vF : Value) (G : GB l a0 Z zC vF) (a1 : Addr) (h0 : Heap) (O0 : Old Z Z.heap.size h0) (We : Exa Z h0 a1 sT2) (Wc : Fld Z h0 a1 sT0 "coder" "B" (iv 1)) :
    Con l Z (⟨sT0, "inflate", "()V"⟩ : MethodName) kC26 2 none ({ frames := 1, cells := 0, slots := 0, locals := 12 } : Room) #[(.ref a1)] h0 (Q_iflW Z zC vF a1 h0) := by
  refine Con.intro (plainFor_of_name pn4) ?_
  intro p e s m below meth c T0 X0 hx hby hml hown0 hnm hret hlk hZ0 e0
  have N0 := Fr.nil Z.heap.size
  refine castGo (g' := mkF m 0 #[.val (.ref a1), .unset] []) (by first | rfl | (simp [entryFrame, mkF, argsToLocals, Value.category]; done)) ?_
  show Go _ _ _ _ (T0.setTop (mkF m 0 #[.val (.ref a1), .unset] []))
  refine aL X0 hx (hb hby e41_0) (q := 1) rfl rfl rfl ?_
  refine g_vi X0 hx hZ0 hown0 (wd288 hw) (wd160 hw) (notFace_of_selects (args := #[]) (mvT hZ0 (wd162 hw))) (wd162 hw) (wd161 hw) (by decide) We e0 (Con.back (W := 0) (rm_isa1 l Z a0 hw zC vF G a1 h0 O0 Wc) hZ0 (wd163 hw) (wd52 hw) (by decide) (by decide)) (by rw [hml]; rfl) (lenOf pd19 rfl) rfl (Nat.le_of_eq rfl) (hb hby e41_1) (q := 4) rfl (by decide) (by decide) ?_
  intro v447 T447 L447 X447 Q447
  obtain ⟨rfl, Nq447, e447⟩ := Q447
  have N447 := Fr.app N0 Nq447
  show Go _ _ _ _ (T447.setTop (mkF m 4 #[.val (.ref a1), .unset] [(iv 0)]))
  refine ifN X447 hx (hb hby e41_4) (q := 7) rfl (by decide) ?_
  refine endP X447 hlk (fun _ => rfl) (lastV X447 hx hret (hb hby e41_7)) ?_ (by decide) (by decide)
  rw [e447]
  exact ⟨rfl, N447, rfl⟩
def Q_ifn10 (Z : State) (zC : Int32) (vF : Value) (a1 : Addr) (a2 : Addr) (h0 : Heap) (v : Option Value) (h : Heap) (L : List Loc) : Prop := v = none ∧ Fr Z.heap.size L ∧ h = h0
theorem rm_ifn10 (l : Launch) (Z : State) (a0 : Array Value) (hw : HW a0 Z) (zC : Int32) (vF : Value) (G : GB l a0 Z zC vF) (a1 : Addr) (a2 : Addr) (h0 : Heap) (O0 : Old Z Z.heap.size h0) (Pe : Exa Z h0 a2 sT1) (Pc : Fld Z h0 a2 sT1 "coder" "B" (iv 0)) (We : Exa Z h0 a1 sT2) (Wc : Fld Z h0 a1 sT0 "coder" "B" (iv 1)) :
    Con l Z (⟨sT0, "inflateIfNeededFor", "(Ljava/lang/String;)V"⟩ : MethodName) kC23 2 none ({ frames := 2, cells := 0, slots := 0, locals := 25 } : Room) #[(.ref a1), (.ref a2)] h0 (Q_ifn10 Z zC vF a1 a2 h0) := by
  obtain ⟨hl, SC, PC, rF, SF, SA, SH, SL, hX⟩ := id G
  refine Con.intro (plainFor_of_name pn4) ?_
  intro p e s m below meth c T0 X0 hx hby hml hown0 hnm hret hlk hZ0 e0
  have N0 := Fr.nil Z.heap.size
  refine castGo (g' := mkF m 0 #[.val (.ref a1), .val (.ref a2)] []) (by first | rfl | (simp [entryFrame, mkF, argsToLocals, Value.category]; done)) ?_
  show Go _ _ _ _ (T0.setTop (mkF m 0 #[.val (.ref a1), .val (.ref a2)] []))
  refine g_getS X0 hx hZ0 hown0 (host := "") (Or.inl (wd55 hw)) Via.refl (SC.ext O0.2) e0 (hb hby e47_0) (q := 3) rfl ?_
  intro T448 X448 e448
  refine ifN X448 hx (hb hby e47_3) (q := 6) rfl ((if0 _ _).trans (feq PC).1) ?_
  refine aL X448 hx (hb hby e47_6) (q := 7) rfl rfl rfl ?_
  refine g_getF X448 hx hZ0 hown0 (host := "") (Or.inl (wd58 hw)) Via.refl Wc e448 (hb hby e47_7) (q := 10) rfl ?_
  intro T449 X449 e449
  refine aL X449 hx (hb hby e47_10) (q := 11) rfl rfl rfl ?_
  refine g_vi X449 hx hZ0 hown0 (wd97 hw) (wd76 hw) (notFace_of_selects (args := #[]) (mvT hZ0 (wd78 hw))) (wd78 hw) (wd77 hw) (by decide) Pe e449 (Con.back (W := 1) (rm_coder0 l Z a0 hw zC vF G a2 h0 O0 Pc) hZ0 (wd79 hw) (wd8 hw) (by decide) (by decide)) (by rw [hml]; rfl) (lenOf pd13 rfl) rfl (Nat.le_of_eq rfl) (hb hby e47_11) (q := 14) rfl (by decide) (by decide) ?_
  intro v450 T450 L450 X450 Q450
  obtain ⟨rfl, Nq450, e450⟩ := Q450
  have N450 := Fr.app N0 Nq450
  show Go _ _ _ _ (T450.setTop (mkF m 14 #[.val (.ref a1), .val (.ref a2)] [(iv 0), (iv 1)]))
  refine icN X450 hx (hb hby e47_14) (q := 17) rfl (by decide) ?_
  refine aL X450 hx (hb hby e47_17) (q := 18) rfl rfl rfl ?_
  refine g_pvC X450 hx hZ0 hown0 (wd283 hw) (wd284 hw) (wd286 hw) (wd285 hw) (wd287 hw) (by decide) We e450 (Con.back (W := 0) (rm_iflW l Z a0 hw zC vF G a1 h0 O0 We Wc) hZ0 (wd287 hw) (wd52 hw) (by decide) (by decide)) (by rw [hml]; rfl) (lenOf pd20 rfl) rfl (Nat.le_of_eq rfl) (hb hby e47_18) (q := 21) rfl (by decide) (by decide) ?_
  intro v451 T451 L451 X451 Q451
  obtain ⟨rfl, Nq451, e451⟩ := Q451
  have N451 := Fr.app N450 Nq451
  show Go _ _ _ _ (T451.setTop (mkF m 21 #[.val (.ref a1), .val (.ref a2)] []))
  refine endP X451 hlk (fun _ => rfl) (lastV X451 hx hret (hb hby e47_21)) ?_ (by decide) (by decide)
  rw [e451]
  exact ⟨rfl, N451, rfl⟩
def Q_psaWL2 (Z : State) (zC : Int32) (vF : Value) (a1 : Addr) (a2 : Addr) (t : Addr) (kt : ClassId) (us : List Value) (vv : Addr) (kv : ClassId) (vd : List Value) (cs : List Int32) (h0 : Heap) (v : Option Value) (h : Heap) (L : List Loc) : Prop := v = none ∧ Fr Z.heap.size L ∧ Keep h0 h [vv] ∧ Arv Z h vv kv .byte (68 : Int32) (ins vd (flat cs) (2 * 2) (2 * 16)) (.int 0) ∧ ((ins vd (flat cs) (2 * 2) (2 * 16)).length = 68)
theorem rm_psaWL2 (l : Launch) (Z : State) (a0 : Array Value) (hw : HW a0 Z) (zC : Int32) (vF : Value) (G : GB l a0 Z zC vF) (a1 : Addr) (a2 : Addr) (t : Addr) (kt : ClassId) (us : List Value) (vv : Addr) (kv : ClassId) (vd : List Value) (cs : List Int32) (h0 : Heap) (O0 : Old Z Z.heap.size h0) (Pe : Exa Z h0 a2 sT1) (Pc : Fld Z h0 a2 sT1 "coder" "B" (iv 0)) (Pv : Fld Z h0 a2 sT1 "value" "[B" (.ref t)) (Pa : Arv Z h0 t kt .byte (16 : Int32) us (.int 0)) (Pl : (us.length = 16)) (We : Exa Z h0 a1 sT2) (Wc : Fld Z h0 a1 sT0 "coder" "B" (iv 1)) (Wv : Fld Z h0 a1 sT0 "value" "[B" (.ref vv)) (Wa : Arv Z h0 vv kv .byte (68 : Int32) vd (.int 0)) (Wl : (vd.length = 68)) (Wy : Z.heap.size ≤ vv) (HS : (SRC us cs 16)) (Wn : t ≠ vv) :
    Con l Z (⟨sT0, "putStringAt", "(ILjava/lang/String;)V"⟩ : MethodName) kC24 3 none ({ frames := 6, cells := 0, slots := 0, locals := 91 } : Room) #[(.ref a1), (iv 2), (.ref a2)] h0 (Q_psaWL2 Z zC vF a1 a2 t kt us vv kv vd cs h0) := by
  refine Con.intro (plainFor_of_name pn4) ?_
  intro p e s m below meth c T0 X0 hx hby hml hown0 hnm hret hlk hZ0 e0
  have N0 := Fr.nil Z.heap.size
  refine castGo (g' := mkF m 0 #[.val (.ref a1), .val (iv 2), .val (.ref a2)] []) (by first | rfl | (simp [entryFrame, mkF, argsToLocals, Value.category]; done)) ?_
  show Go _ _ _ _ (T0.setTop (mkF m 0 #[.val (.ref a1), .val (iv 2), .val (.ref a2)] []))
  refine aL X0 hx (hb hby e48_0) (q := 1) rfl rfl rfl ?_
  refine aL X0 hx (hb hby e48_1) (q := 2) rfl rfl rfl ?_
  refine g_pvC X0 hx hZ0 hown0 (wd92 hw) (wd93 hw) (wd95 hw) (wd94 hw) (wd96 hw) (by decide) We e0 (Con.back (W := 0) (rm_ifn10 l Z a0 hw zC vF G a1 a2 h0 O0 Pe Pc We Wc) hZ0 (wd96 hw) (wd52 hw) (by decide) (by decide)) (by rw [hml]; rfl) (lenOf pd15 rfl) rfl (Nat.le_of_eq rfl) (hb hby e48_2) (q := 5) rfl (by decide) (by decide) ?_
  intro v452 T452 L452 X452 Q452
  obtain ⟨rfl, Nq452, e452⟩ := Q452
  have N452 := Fr.app N0 Nq452
  show Go _ _ _ _ (T452.setTop (mkF m 5 #[.val (.ref a1), .val (iv 2), .val (.ref a2)] []))
  refine aL X452 hx (hb hby e48_5) (q := 6) rfl rfl rfl ?_
  refine aL X452 hx (hb hby e48_6) (q := 7) rfl rfl rfl ?_
  refine g_getF X452 hx hZ0 hown0 (host := "") (Or.inl (wd56 hw)) Via.refl Wv e452 (hb hby e48_7) (q := 10) rfl ?_
  intro T453 X453 e453
  refine iL X453 hx (hb hby e48_10) (q := 11) rfl rfl ?_
  refine aL X453 hx (hb hby e48_11) (q := 12) rfl rfl rfl ?_
  refine g_getF X453 hx hZ0 hown0 (host := "") (Or.inl (wd58 hw)) Via.refl Wc e453 (hb hby e48_12) (q := 15) rfl ?_
  intro T454 X454 e454
  refine g_vi X454 hx hZ0 hown0 (wd98 hw) (wd99 hw) (notFace_of_selects (args := #[]) (mvT hZ0 (wd101 hw))) (wd101 hw) (wd100 hw) (by decide) Pe e454 (Con.back (W := 0) (rm_gbx1_2 l Z a0 hw zC vF G a2 t kt us vv kv vd cs h0 O0 Pe Pc Pv Pa Pl Wa Wl Wy HS Wn) hZ0 (wd102 hw) (wd8 hw) (by decide) (by decide)) (by rw [hml]; rfl) (lenOf pd16 rfl) rfl (Nat.le_of_eq rfl) (hb hby e48_15) (q := 18) rfl (by decide) (by decide) ?_
  intro v455 T455 L455 X455 Q455
  obtain ⟨rfl, Nq455, K455q, q455_0, q455_1⟩ := Q455
  have N455 := Fr.app N452 Nq455
  show Go _ _ _ _ (T455.setTop (mkF m 18 #[.val (.ref a1), .val (iv 2), .val (.ref a2)] []))
  have K456 : Keep h0 T455.heap [vv] := (Keep.refl h0 [vv]).trans K455q (allS (Or.inl (by simp)) all0)
  refine endP X455 hlk (fun _ => rfl) (lastV X455 hx hret (hb hby e48_18)) ?_ (by decide) (by decide)
  exact ⟨rfl, N455, K456, q455_0, q455_1⟩
def Q_aapWL2 (Z : State) (zC : Int32) (vF : Value) (a1 : Addr) (vv : Addr) (kv : ClassId) (vd : List Value) (a2 : Addr) (t : Addr) (kt : ClassId) (us : List Value) (cs : List Int32) (h0 : Heap) (v : Option Value) (h : Heap) (L : List Loc) : Prop := ∃ (c : Addr), ∃ (kc : ClassId), v = some (.ref a1) ∧ Fr Z.heap.size L ∧ Keep h0 h [a1] ∧ Exa Z h a1 sT2 ∧ Fld Z h a1 sT0 "coder" "B" (iv 1) ∧ Fld Z h a1 sT0 "count" "I" (iv 18) ∧ Fld Z h a1 sT0 "maybeLatin1" "Z" (iv 0) ∧ Fld Z h a1 sT0 "value" "[B" (.ref c) ∧ Arv Z h c kc .byte (68 : Int32) (ins (ins (List.replicate 68 (iv 0)) (sub vd 0 32 (.int 0)) 0 32) (flat cs) (2 * 2) (2 * 16)) (.int 0) ∧ ((ins (ins (List.replicate 68 (iv 0)) (sub vd 0 32 (.int 0)) 0 32) (flat cs) (2 * 2) (2 * 16)).length = 68) ∧ h0.size ≤ c ∧ Exa Z h c "[B"
theorem rm_aapWL2 (l : Launch) (Z : State) (a0 : Array Value) (hw : HW a0 Z) (zC : Int32) (vF : Value) (G : GB l a0 Z zC vF) (a1 : Addr) (vv : Addr) (kv : ClassId) (vd : List Value) (a2 : Addr) (t : Addr) (kt : ClassId) (us : List Value) (cs : List Int32) (h0 : Heap) (O0 : Old Z Z.heap.size h0) (Qe : Exa Z h0 a1 sT2) (Qc : Fld Z h0 a1 sT0 "coder" "B" (iv 1)) (Qn : Fld Z h0 a1 sT0 "count" "I" (iv 2)) (Qm : Fld Z h0 a1 sT0 "maybeLatin1" "Z" (iv 0)) (Qv : Fld Z h0 a1 sT0 "value" "[B" (.ref vv)) (Qa : Arv Z h0 vv kv .byte (32 : Int32) vd (.int 0)) (Ql : (vd.length = 32)) (QE : Exa Z h0 vv "[B") (Qz : Z.heap.size ≤ a1) (Qy : Z.heap.size ≤ vv) (Pe : Exa Z h0 a2 sT1) (Pc : Fld Z h0 a2 sT1 "coder" "B" (iv 0)) (Pv : Fld Z h0 a2 sT1 "value" "[B" (.ref t)) (Pa : Arv Z h0 t kt .byte (16 : Int32) us (.int 0)) (Pl : (us.length = 16)) (HS : (SRC us cs 16)) (Wn : t ≠ vv) :
    Con l Z (⟨sT0, "append", "(Ljava/lang/String;)Ljava/lang/AbstractStringBuilder;"⟩ : MethodName) kC9 3 (some (.object sT0)) ({ frames := 7, cells := 1, slots := 68, locals := 105 } : Room) #[(.ref a1), (.ref a2)] h0 (Q_aapWL2 Z zC vF a1 vv kv vd a2 t kt us cs h0) := by
  refine Con.intro (plainFor_of_name pn4) ?_
  intro p e s m below meth c T0 X0 hx hby hml hown0 hnm hret hlk hZ0 e0
  have N0 := Fr.nil Z.heap.size
  refine castGo (g' := mkF m 0 #[.val (.ref a1), .val (.ref a2), .unset] []) (by first | rfl | (simp [entryFrame, mkF, argsToLocals, Value.category]; done)) ?_
  show Go _ _ _ _ (T0.setTop (mkF m 0 #[.val (.ref a1), .val (.ref a2), .unset] []))
  refine aL X0 hx (hb hby e43_0) (q := 1) rfl rfl rfl ?_
  refine nnY X0 hx (hb hby e43_1) (q := 9) (by decide) (by decide) ?_
  refine aL X0 hx (hb hby e43_9) (q := 10) rfl rfl rfl ?_
  refine g_vi X0 hx hZ0 hown0 (wd70 hw) (wd71 hw) (notFace_of_selects (args := #[]) (mvT hZ0 (wd73 hw))) (wd73 hw) (wd72 hw) (by decide) Pe e0 (Con.back (W := 0) (rm_len16_0 l Z a0 hw zC vF G a2 t kt us h0 O0 Pe Pc Pv Pa) hZ0 (wd74 hw) (wd8 hw) (by decide) (by decide)) (by rw [hml]; rfl) (lenOf pd17 rfl) rfl (Nat.le_of_eq rfl) (hb hby e43_10) (q := 13) rfl (by decide) (by decide) ?_
  intro v457 T457 L457 X457 Q457
  obtain ⟨rfl, Nq457, e457⟩ := Q457
  have N457 := Fr.app N0 Nq457
  show Go _ _ _ _ (T457.setTop (mkF m 13 #[.val (.ref a1), .val (.ref a2), .unset] [(iv 16)]))
  refine sI X457 hx (hb hby e43_13) (q := 14) rfl (Ls' := #[.val (.ref a1), .val (.ref a2), .val (iv 16)]) rfl ?_
  refine aL X457 hx (hb hby e43_14) (q := 15) rfl rfl rfl ?_
  refine aL X457 hx (hb hby e43_15) (q := 16) rfl rfl rfl ?_
  refine g_getF X457 hx hZ0 hown0 (host := "") (Or.inl (wd80 hw)) Via.refl Qn e457 (hb hby e43_16) (q := 19) rfl ?_
  intro T458 X458 e458
  refine iL X458 hx (hb hby e43_19) (q := 20) rfl rfl ?_
  refine g_iadd X458 hx (hb hby e43_20) (q := 21) rfl (z := (18 : Int32)) (by decide) ?_
  refine g_pvC X458 hx hZ0 hown0 (wd82 hw) (wd83 hw) (wd85 hw) (wd84 hw) (wd86 hw) (by decide) Qe e458 (Con.back (W := 0) (rm_ens1_2 l Z a0 hw zC vF G a1 vv kv vd h0 O0 Qe Qc Qn Qm Qv Qa Ql QE Qz Qy) hZ0 (wd86 hw) (wd52 hw) (by decide) (by decide)) (by rw [hml]; rfl) (lenOf pd14 rfl) rfl (Nat.le_of_eq rfl) (hb hby e43_21) (q := 24) rfl (by decide) (by decide) ?_
  intro v459 T459 L459 X459 Q459
  obtain ⟨c_459, kc_459, rfl, Nq459, K459q, q459_0, q459_1, q459_2, q459_3, q459_4, q459_5, q459_6, q459_7, q459_8⟩ := Q459
  have N459 := Fr.app N457 Nq459
  show Go _ _ _ _ (T459.setTop (mkF m 24 #[.val (.ref a1), .val (.ref a2), .val (iv 16)] []))
  refine aL X459 hx (hb hby e43_24) (q := 25) rfl rfl rfl ?_
  refine aL X459 hx (hb hby e43_25) (q := 26) rfl rfl rfl ?_
  refine g_getF X459 hx hZ0 hown0 (host := "") (Or.inl (wd80 hw)) Via.refl q459_3 rfl (hb hby e43_26) (q := 29) rfl ?_
  intro T460 X460 e460
  refine aL X460 hx (hb hby e43_29) (q := 30) rfl rfl rfl ?_
  have f476 := Pe.keep K459q
  have ne477 : a2 ≠ a1 := (ne_exa Pe Qe (by decide))
  have f478 := Pc.keep K459q (ninS ne477 nin0)
  have f479 := Pv.keep K459q (ninS ne477 nin0)
  have ne480 : t ≠ a1 := (Ne.symm (Exa.neArv Qe Pa (wd43 hw)))
  have f481 := Pa.keep K459q (ninS ne480 nin0)
  have gz482 : Z.heap.size ≤ c_459 := Nat.le_trans O0.2.1 q459_0
  have ne483 : t ≠ c_459 := (Nat.ne_of_lt (Nat.lt_of_lt_of_le (Nat.lt_of_lt_of_le Pa.lt (Nat.le_refl _)) q459_0))
  have f484 := O0.keep K459q (allS Qz all0)
  refine g_pvC X460 hx hZ0 hown0 (wd87 hw) (wd88 hw) (wd90 hw) (wd89 hw) (wd91 hw) (by decide) q459_1 e460 (Con.back (W := 0) (rm_psaWL2 l Z a0 hw zC vF G a1 a2 t kt us c_459 kc_459 (ins (List.replicate 68 (iv 0)) (sub vd 0 32 (.int 0)) 0 32) cs T459.heap f484 f476 f478 f479 f481 Pl q459_1 q459_2 q459_5 q459_6 q459_8 gz482 HS ne483) hZ0 (wd91 hw) (wd52 hw) (by decide) (by decide)) (by rw [hml]; rfl) (lenOf pd18 rfl) rfl (Nat.le_of_eq rfl) (hb hby e43_30) (q := 33) rfl (by decide) (by decide) ?_
  intro v475 T475 L475 X475 Q475
  obtain ⟨rfl, Nq475, K475q, q475_0, q475_1⟩ := Q475
  have N475 := Fr.app N459 Nq475
  show Go _ _ _ _ (T475.setTop (mkF m 33 #[.val (.ref a1), .val (.ref a2), .val (iv 16)] []))
  refine aL X475 hx (hb hby e43_33) (q := 34) rfl rfl rfl ?_
  refine g_dup X475 hx (hb hby e43_34) (q := 35) rfl rfl ?_
  have ne485 : a1 ≠ c_459 := (Nat.ne_of_lt (Nat.lt_of_lt_of_le (Nat.lt_of_lt_of_le Qe.lt (Nat.le_refl _)) q459_0))
  have f486 := q459_3.keep K475q (ninS ne485 nin0)
  refine g_getF X475 hx hZ0 hown0 (host := "") (Or.inl (wd80 hw)) Via.refl f486 rfl (hb hby e43_35) (q := 38) rfl ?_
  intro T487 X487 e487
  refine iL X487 hx (hb hby e43_38) (q := 39) rfl rfl ?_
  refine g_iadd X487 hx (hb hby e43_39) (q := 40) rfl (z := (18 : Int32)) (by decide) ?_
  have f488 := q459_1.keep K475q
  refine g_putF X487 hx hZ0 hown0 (host := "") (Or.inl (wd80 hw)) Via.refl f486 f488 (Or.inl (wd81 hw)) (wd43 hw) (ty := .int) (by decide) rfl rfl e487 (hb hby e43_40) (q := 43) rfl ?_
  intro T489 h489 X489 e489 W489
  have N489 := Fr.snoc X489 N475 Qz
  have Fw489 : Fld Z h489 a1 sT0 "count" "I" (iv 18) := f486.same W489
  refine aL X489 hx (hb hby e43_43) (q := 44) rfl rfl rfl ?_
  have K490 : Keep h0 T459.heap [a1] := (Keep.refl h0 [a1]).trans K459q (allS (Or.inl (by simp)) all0)
  have gh491 : h0.size ≤ c_459 := Nat.le_trans (Nat.le_refl _) q459_0
  have K492 : Keep h0 T475.heap [a1] := K490.trans K475q (allS (Or.inr gh491) all0)
  have K493 : Keep h0 h489 [a1] := K492.wr W489 (Or.inl (by simp))
  have f494 := f488.wr W489
  have f495 := q459_2.keep K475q (ninS ne485 nin0)
  have f496 := f495.other W489 (Or.inr (slot_ne (Or.inl (wd59 hw)) (Or.inl (wd81 hw)) (by decide) (t := .byte) (t' := .int) (by decide) (by decide)))
  have f497 := q459_4.keep K475q (ninS ne485 nin0)
  have f498 := f497.other W489 (Or.inr (slot_ne (Or.inl (wd310 hw)) (Or.inl (wd81 hw)) (by decide) (t := .boolean) (t' := .int) (by decide) (by decide)))
  have f499 := q459_5.keep K475q (ninS ne485 nin0)
  have f500 := f499.other W489 (Or.inr (slot_ne (Or.inl (wd57 hw)) (Or.inl (wd81 hw)) (by decide) (t := (.array .byte)) (t' := .int) (by decide) (by decide)))
  have ne501 : c_459 ≠ a1 := (Ne.symm ne485)
  have f502 := q475_0.other W489 ne501
  have f503 := q459_7.keep K475q
  have f504 := f503.wr W489
  refine endP X489 hlk (fun h => by rw [hret] at h; cases h) (lastA X489 hx hret rfl rfl rfl (hb hby e43_44)) ?_ (by decide) (by decide)
  rw [e489]
  exact ⟨c_459, kc_459, rfl, N489, K493, f494, f496, Fw489, f498, f500, f502, q475_1, gh491, f504⟩
theorem ens_le {k : Nat} (h : k ≤ 34) : ¬ (0 : Int32) < Int32.ofNat k - 34 := (by decide +kernel : ∀ i : Fin 35, ¬ (0 : Int32) < Int32.ofNat i.val - 34) ⟨k, by omega⟩
def Q_lenn0 (Z : State) (zC : Int32) (vF : Value) (a2 : Addr) (t : Addr) (kt : ClassId) (us : List Value) (pn : Nat) (h0 : Heap) (v : Option Value) (h : Heap) (L : List Loc) : Prop := v = some (.int (Int32.ofNat pn)) ∧ Fr Z.heap.size L ∧ h = h0
theorem rm_lenn0 (l : Launch) (Z : State) (a0 : Array Value) (hw : HW a0 Z) (zC : Int32) (vF : Value) (G : GB l a0 Z zC vF) (a2 : Addr) (t : Addr) (kt : ClassId) (us : List Value) (pn : Nat) (h0 : Heap) (O0 : Old Z Z.heap.size h0) (Pe : Exa Z h0 a2 sT1) (Pc : Fld Z h0 a2 sT1 "coder" "B" (iv 0)) (Pv : Fld Z h0 a2 sT1 "value" "[B" (.ref t)) (Pa : Arv Z h0 t kt .byte (Int32.ofNat pn) us (.int 0)) (Hn : (pn ≤ 34)) :
    Con l Z (⟨sT1, "length", "()I"⟩ : MethodName) kC30 1 (some .int) ({ frames := 1, cells := 0, slots := 0, locals := 13 } : Room) #[(.ref a2)] h0 (Q_lenn0 Z zC vF a2 t kt us pn h0) := by
  refine Con.intro (plainFor_of_name pn2) ?_
  intro p e s m below meth c T0 X0 hx hby hml hown0 hnm hret hlk hZ0 e0
  have N0 := Fr.nil Z.heap.size
  refine castGo (g' := mkF m 0 #[.val (.ref a2)] []) (by first | rfl | (simp [entryFrame, mkF, argsToLocals, Value.category]; done)) ?_
  show Go _ _ _ _ (T0.setTop (mkF m 0 #[.val (.ref a2)] []))
  refine aL X0 hx (hb hby e13_0) (q := 1) rfl rfl rfl ?_
  refine g_getF X0 hx hZ0 hown0 (host := "") (Or.inl (wd33 hw)) Via.refl Pv e0 (hb hby e13_1) (q := 4) rfl ?_
  intro T505 X505 e505
  refine g_len X505 hx hZ0 Pa e505 (hb hby e13_4) (q := 5) rfl ?_
  refine aL X505 hx (hb hby e13_5) (q := 6) rfl rfl rfl ?_
  refine g_vi X505 hx hZ0 hown0 (wd75 hw) (wd76 hw) (notFace_of_selects (args := #[]) (mvT hZ0 (wd78 hw))) (wd78 hw) (wd77 hw) (by decide) Pe e505 (Con.back (W := 1) (rm_coder0 l Z a0 hw zC vF G a2 h0 O0 Pc) hZ0 (wd79 hw) (wd8 hw) (by decide) (by decide)) (by rw [hml]; rfl) (lenOf pd13 rfl) rfl (Nat.le_of_eq rfl) (hb hby e13_6) (q := 9) rfl (by decide) (by decide) ?_
  intro v506 T506 L506 X506 Q506
  obtain ⟨rfl, Nq506, e506⟩ := Q506
  have N506 := Fr.app N0 Nq506
  show Go _ _ _ _ (T506.setTop (mkF m 9 #[.val (.ref a2)] [(iv 0), (.int (Int32.ofNat pn))]))
  refine g_ishr X506 hx (hb hby e13_9) (q := 10) rfl (z := (Int32.ofNat pn)) (shr_zero _) ?_
  refine endP X506 hlk (fun h => by rw [hret] at h; cases h) (lastI X506 hx hret (hb hby e13_10)) ?_ (by decide) (by decide)
  rw [e506]
  exact ⟨rfl, N506, rfl⟩
def Q_lenn1 (Z : State) (zC : Int32) (vF : Value) (a2 : Addr) (t : Addr) (kt : ClassId) (us : List Value) (pn : Nat) (h0 : Heap) (v : Option Value) (h : Heap) (L : List Loc) : Prop := v = some (.int (Int32.ofNat pn)) ∧ Fr Z.heap.size L ∧ h = h0
theorem rm_lenn1 (l : Launch) (Z : State) (a0 : Array Value) (hw : HW a0 Z) (zC : Int32) (vF : Value) (G : GB l a0 Z zC vF) (a2 : Addr) (t : Addr) (kt : ClassId) (us : List Value) (pn : Nat) (h0 : Heap) (O0 : Old Z Z.heap.size h0) (Pe : Exa Z h0 a2 sT1) (Pc : Fld Z h0 a2 sT1 "coder" "B" (iv 1)) (Pv : Fld Z h0 a2 sT1 "value" "[B" (.ref t)) (Pa : Arv Z h0 t kt .byte (Int32.ofNat (2 * pn)) us (.int 0)) (Hn : (pn ≤ 34)) :
    Con l Z (⟨sT1, "length", "()I"⟩ : MethodName) kC30 1 (some .int) ({ frames := 1, cells := 0, slots := 0, locals := 13 } : Room) #[(.ref a2)] h0 (Q_lenn1 Z zC vF a2 t kt us pn h0) := by
  refine Con.intro (plainFor_of_name pn2) ?_
  intro p e s m below meth c T0 X0 hx hby hml hown0 hnm hret hlk hZ0 e0
  have N0 := Fr.nil Z.heap.size
  refine castGo (g' := mkF m 0 #[.val (.ref a2)] []) (by first | rfl | (simp [entryFrame, mkF, argsToLocals, Value.category]; done)) ?_
  show Go _ _ _ _ (T0.setTop (mkF m 0 #[.val (.ref a2)] []))
  refine aL X0 hx (hb hby e13_0) (q := 1) rfl rfl rfl ?_
  refine g_getF X0 hx hZ0 hown0 (host := "") (Or.inl (wd33 hw)) Via.refl Pv e0 (hb hby e13_1) (q := 4) rfl ?_
  intro T507 X507 e507
  refine g_len X507 hx hZ0 Pa e507 (hb hby e13_4) (q := 5) rfl ?_
  refine aL X507 hx (hb hby e13_5) (q := 6) rfl rfl rfl ?_
  refine g_vi X507 hx hZ0 hown0 (wd75 hw) (wd76 hw) (notFace_of_selects (args := #[]) (mvT hZ0 (wd78 hw))) (wd78 hw) (wd77 hw) (by decide) Pe e507 (Con.back (W := 1) (rm_coder1 l Z a0 hw zC vF G a2 h0 O0 Pc) hZ0 (wd79 hw) (wd8 hw) (by decide) (by decide)) (by rw [hml]; rfl) (lenOf pd13 rfl) rfl (Nat.le_of_eq rfl) (hb hby e13_6) (q := 9) rfl (by decide) (by decide) ?_
  intro v508 T508 L508 X508 Q508
  obtain ⟨rfl, Nq508, e508⟩ := Q508
  have N508 := Fr.app N0 Nq508
  show Go _ _ _ _ (T508.setTop (mkF m 9 #[.val (.ref a2)] [(iv 1), (.int (Int32.ofNat (2 * pn)))]))
  refine g_ishr X508 hx (hb hby e13_9) (q := 10) rfl (z := (Int32.ofNat ((2 * pn) / 2))) (on_shr (show (2 * pn) < 2147483648 from by omega)) ?_
  refine castGo (g' := mkF m 10 #[.val (.ref a2)] [(.int (Int32.ofNat pn))]) (by rw [(show Int32.ofNat pn = (Int32.ofNat ((2 * pn) / 2)) from congrArg Int32.ofNat (by omega))]) ?_
  refine endP X508 hlk (fun h => by rw [hret] at h; cases h) (lastI X508 hx hret (hb hby e13_10)) ?_ (by decide) (by decide)
  rw [e508]
  exact ⟨rfl, N508, rfl⟩
def Q_ensn0 (Z : State) (zC : Int32) (vF : Value) (a1 : Addr) (vv : Addr) (kv : ClassId) (vd : List Value) (pm : Nat) (h0 : Heap) (v : Option Value) (h : Heap) (L : List Loc) : Prop := v = none ∧ Fr Z.heap.size L ∧ h = h0
theorem rm_ensn0 (l : Launch) (Z : State) (a0 : Array Value) (hw : HW a0 Z) (zC : Int32) (vF : Value) (G : GB l a0 Z zC vF) (a1 : Addr) (vv : Addr) (kv : ClassId) (vd : List Value) (pm : Nat) (h0 : Heap) (O0 : Old Z Z.heap.size h0) (Qe : Exa Z h0 a1 sT2) (Qc : Fld Z h0 a1 sT0 "coder" "B" (iv 0)) (Qv : Fld Z h0 a1 sT0 "value" "[B" (.ref vv)) (Qa : Arv Z h0 vv kv .byte (34 : Int32) vd (.int 0)) (Hm : (pm ≤ 34)) :
    Con l Z (⟨sT0, "ensureCapacityInternal", "(I)V"⟩ : MethodName) kC49 3 none ({ frames := 0, cells := 0, slots := 0, locals := 0 } : Room) #[(.ref a1), (.int (Int32.ofNat pm))] h0 (Q_ensn0 Z zC vF a1 vv kv vd pm h0) := by
  refine Con.intro (plainFor_of_name pn4) ?_
  intro p e s m below meth c T0 X0 hx hby hml hown0 hnm hret hlk hZ0 e0
  have N0 := Fr.nil Z.heap.size
  refine castGo (g' := mkF m 0 #[.val (.ref a1), .val (.int (Int32.ofNat pm)), .unset] []) (by first | rfl | (simp [entryFrame, mkF, argsToLocals, Value.category]; done)) ?_
  show Go _ _ _ _ (T0.setTop (mkF m 0 #[.val (.ref a1), .val (.int (Int32.ofNat pm)), .unset] []))
  refine aL X0 hx (hb hby e49_0) (q := 1) rfl rfl rfl ?_
  refine g_getF X0 hx hZ0 hown0 (host := "") (Or.inl (wd56 hw)) Via.refl Qv e0 (hb hby e49_1) (q := 4) rfl ?_
  intro T509 X509 e509
  refine g_len X509 hx hZ0 Qa e509 (hb hby e49_4) (q := 5) rfl ?_
  refine aL X509 hx (hb hby e49_5) (q := 6) rfl rfl rfl ?_
  refine g_getF X509 hx hZ0 hown0 (host := "") (Or.inl (wd58 hw)) Via.refl Qc e509 (hb hby e49_6) (q := 9) rfl ?_
  intro T510 X510 e510
  refine g_ishr X510 hx (hb hby e49_9) (q := 10) rfl (z := (34 : Int32)) (by decide) ?_
  refine sI X510 hx (hb hby e49_10) (q := 11) rfl (Ls' := #[.val (.ref a1), .val (.int (Int32.ofNat pm)), .val (iv 34)]) rfl ?_
  refine iL X510 hx (hb hby e49_11) (q := 12) rfl rfl ?_
  refine iL X510 hx (hb hby e49_12) (q := 13) rfl rfl ?_
  refine g_isub X510 hx (hb hby e49_13) (q := 14) rfl rfl ?_
  refine ifY X510 hx (hb hby e49_14) (q := 38) (by decide) (by decide) ((if0 _ _).trans (flt (ens_le Hm)).2.2.2) ?_
  refine endP X510 hlk (fun _ => rfl) (lastV X510 hx hret (hb hby e49_38)) ?_ (by decide) (by decide)
  rw [e510]
  exact ⟨rfl, N0, rfl⟩
def Q_ensn1 (Z : State) (zC : Int32) (vF : Value) (a1 : Addr) (vv : Addr) (kv : ClassId) (vd : List Value) (pm : Nat) (h0 : Heap) (v : Option Value) (h : Heap) (L : List Loc) : Prop := v = none ∧ Fr Z.heap.size L ∧ h = h0
theorem rm_ensn1 (l : Launch) (Z : State) (a0 : Array Value) (hw : HW a0 Z) (zC : Int32) (vF : Value) (G : GB l a0 Z zC vF) (a1 : Addr) (vv : Addr) (kv : ClassId) (vd : List Value) (pm : Nat) (h0 : Heap) (O0 : Old Z Z.heap.size h0) (Qe : Exa Z h0 a1 sT2) (Qc : Fld Z h0 a1 sT0 "coder" "B" (iv 1)) (Qv : Fld Z h0 a1 sT0 "value" "[B" (.ref vv)) (Qa : Arv Z h0 vv kv .byte (68 : Int32) vd (.int 0)) (Hm : (pm ≤ 34)) :
    Con l Z (⟨sT0, "ensureCapacityInternal", "(I)V"⟩ : MethodName) kC49 3 none ({ frames := 0, cells := 0, slots := 0, locals := 0 } : Room) #[(.ref a1), (.int (Int32.ofNat pm))] h0 (Q_ensn1 Z zC vF a1 vv kv vd pm h0) := by
  refine Con.intro (plainFor_of_name pn4) ?_
  intro p e s m below meth c T0 X0 hx hby hml hown0 hnm hret hlk hZ0 e0
  have N0 := Fr.nil Z.heap.size
  refine castGo (g' := mkF m 0 #[.val (.ref a1), .val (.int (Int32.ofNat pm)), .unset] []) (by first | rfl | (simp [entryFrame, mkF, argsToLocals, Value.category]; done)) ?_
  show Go _ _ _ _ (T0.setTop (mkF m 0 #[.val (.ref a1), .val (.int (Int32.ofNat pm)), .unset] []))
  refine aL X0 hx (hb hby e49_0) (q := 1) rfl rfl rfl ?_
  refine g_getF X0 hx hZ0 hown0 (host := "") (Or.inl (wd56 hw)) Via.refl Qv e0 (hb hby e49_1) (q := 4) rfl ?_
  intro T511 X511 e511
  refine g_len X511 hx hZ0 Qa e511 (hb hby e49_4) (q := 5) rfl ?_
  refine aL X511 hx (hb hby e49_5) (q := 6) rfl rfl rfl ?_
  refine g_getF X511 hx hZ0 hown0 (host := "") (Or.inl (wd58 hw)) Via.refl Qc e511 (hb hby e49_6) (q := 9) rfl ?_
  intro T512 X512 e512
  refine g_ishr X512 hx (hb hby e49_9) (q := 10) rfl (z := (34 : Int32)) (by decide) ?_
  refine sI X512 hx (hb hby e49_10) (q := 11) rfl (Ls' := #[.val (.ref a1), .val (.int (Int32.ofNat pm)), .val (iv 34)]) rfl ?_
  refine iL X512 hx (hb hby e49_11) (q := 12) rfl rfl ?_
  refine iL X512 hx (hb hby e49_12) (q := 13) rfl rfl ?_
  refine g_isub X512 hx (hb hby e49_13) (q := 14) rfl rfl ?_
  refine ifY X512 hx (hb hby e49_14) (q := 38) (by decide) (by decide) ((if0 _ _).trans (flt (ens_le Hm)).2.2.2) ?_
  refine endP X512 hlk (fun _ => rfl) (lastV X512 hx hret (hb hby e49_38)) ?_ (by decide) (by decide)
  rw [e512]
  exact ⟨rfl, N0, rfl⟩
def Q_gbnc0 (Z : State) (zC : Int32) (vF : Value) (a2 : Addr) (t : Addr) (kt : ClassId) (us : List Value) (vv : Addr) (kv : ClassId) (vd : List Value) (pc : Nat) (pn : Nat) (h0 : Heap) (v : Option Value) (h : Heap) (L : List Loc) : Prop := v = none ∧ Fr Z.heap.size L ∧ Keep h0 h [vv] ∧ Arv Z h vv kv .byte (34 : Int32) (ins vd (sub us 0 pn (.int 0)) pc pn) (.int 0) ∧ ((ins vd (sub us 0 pn (.int 0)) pc pn).length = 34)
theorem rm_gbnc0 (l : Launch) (Z : State) (a0 : Array Value) (hw : HW a0 Z) (zC : Int32) (vF : Value) (G : GB l a0 Z zC vF) (a2 : Addr) (t : Addr) (kt : ClassId) (us : List Value) (vv : Addr) (kv : ClassId) (vd : List Value) (pc : Nat) (pn : Nat) (h0 : Heap) (O0 : Old Z Z.heap.size h0) (Pe : Exa Z h0 a2 sT1) (Pc : Fld Z h0 a2 sT1 "coder" "B" (iv 0)) (Pv : Fld Z h0 a2 sT1 "value" "[B" (.ref t)) (Pa : Arv Z h0 t kt .byte (Int32.ofNat pn) us (.int 0)) (Pl : (us.length = pn)) (Wa : Arv Z h0 vv kv .byte (34 : Int32) vd (.int 0)) (Wl : (vd.length = 34)) (Wy : Z.heap.size ≤ vv) (Hc : (pc + pn ≤ 34)) :
    Con l Z (⟨sT1, "getBytes", "([BIB)V"⟩ : MethodName) kC2 4 none ({ frames := 1, cells := 0, slots := 0, locals := 31 } : Room) #[(.ref a2), (.ref vv), (.int (Int32.ofNat pc)), (iv 0)] h0 (Q_gbnc0 Z zC vF a2 t kt us vv kv vd pc pn h0) := by
  refine Con.intro (plainFor_of_name pn2) ?_
  intro p e s m below meth c T0 X0 hx hby hml hown0 hnm hret hlk hZ0 e0
  have N0 := Fr.nil Z.heap.size
  refine castGo (g' := mkF m 0 #[.val (.ref a2), .val (.ref vv), .val (.int (Int32.ofNat pc)), .val (iv 0)] []) (by first | rfl | (simp [entryFrame, mkF, argsToLocals, Value.category]; done)) ?_
  show Go _ _ _ _ (T0.setTop (mkF m 0 #[.val (.ref a2), .val (.ref vv), .val (.int (Int32.ofNat pc)), .val (iv 0)] []))
  refine aL X0 hx (hb hby e4_0) (q := 1) rfl rfl rfl ?_
  refine g_vi X0 hx hZ0 hown0 (wd75 hw) (wd76 hw) (notFace_of_selects (args := #[]) (mvT hZ0 (wd78 hw))) (wd78 hw) (wd77 hw) (by decide) Pe e0 (Con.back (W := 0) (rm_coder0 l Z a0 hw zC vF G a2 h0 O0 Pc) hZ0 (wd79 hw) (wd8 hw) (by decide) (by decide)) (by rw [hml]; rfl) (lenOf pd13 rfl) rfl (Nat.le_of_eq rfl) (hb hby e4_1) (q := 4) rfl (by decide) (by decide) ?_
  intro v513 T513 L513 X513 Q513
  obtain ⟨rfl, Nq513, e513⟩ := Q513
  have N513 := Fr.app N0 Nq513
  show Go _ _ _ _ (T513.setTop (mkF m 4 #[.val (.ref a2), .val (.ref vv), .val (.int (Int32.ofNat pc)), .val (iv 0)] [(iv 0)]))
  refine iL X513 hx (hb hby e4_4) (q := 5) rfl rfl ?_
  refine icN X513 hx (hb hby e4_5) (q := 8) rfl (by decide) ?_
  refine aL X513 hx (hb hby e4_8) (q := 9) rfl rfl rfl ?_
  refine g_getF X513 hx hZ0 hown0 (host := "") (Or.inl (wd33 hw)) Via.refl Pv e513 (hb hby e4_9) (q := 12) rfl ?_
  intro T514 X514 e514
  refine cI X514 hx (hb hby e4_12) (q := 13) rfl (z := (0 : Int32)) rfl ?_
  refine aL X514 hx (hb hby e4_13) (q := 14) rfl rfl rfl ?_
  refine iL X514 hx (hb hby e4_14) (q := 15) rfl rfl ?_
  refine iL X514 hx (hb hby e4_15) (q := 16) rfl rfl ?_
  refine g_ishl X514 hx (hb hby e4_16) (q := 17) rfl (z := (Int32.ofNat pc)) (shl_zero _) ?_
  refine aL X514 hx (hb hby e4_17) (q := 18) rfl rfl rfl ?_
  refine g_getF X514 hx hZ0 hown0 (host := "") (Or.inl (wd33 hw)) Via.refl Pv e514 (hb hby e4_18) (q := 21) rfl ?_
  intro T515 X515 e515
  refine g_len X515 hx hZ0 Pa e515 (hb hby e4_21) (q := 22) rfl ?_
  have ll516 : (vd : List Value).length = 34 := Wl
  refine g_cp X515 hx hZ0 hown0 (wd103 hw) (wd106 hw) (wd104 hw) (wd105 hw) (us := (sub us 0 pn (.int 0))) Pa Wa (Or.inl ⟨rfl, rfl⟩) (by decide) (on_nn (show pc < 2147483648 from by omega)) (on_nn (show pn < 2147483648 from by omega)) (cp_le (by decide : Int32.toNatClampNeg (0 : Int32) = 0) (on_clamp (show pn < 2147483648 from by omega)) (on_clamp (show pn < 2147483648 from by omega)) (show 0 + pn ≤ pn from by omega)) (cp_le (on_clamp (show pc < 2147483648 from by omega)) (on_clamp (show pn < 2147483648 from by omega)) (by decide : Int32.toNatClampNeg (34 : Int32) = 34) (show pc + pn ≤ 34 from by omega)) (cp_us (by decide : Int32.toNatClampNeg (0 : Int32) = 0) (on_clamp (show pn < 2147483648 from by omega))) (cp_len (on_clamp (show pc < 2147483648 from by omega)) (on_clamp (show pn < 2147483648 from by omega)) ll516 (show pc + pn ≤ 34 from by omega)) N513 Wy (by rw [hml]; rfl) (by decide) (W := 0) (Nat.le_of_eq rfl) (by decide) e515 (hb hby e4_22) (q := 25) rfl ?_
  intro T516 h516 L516 X516 e516 N516 K516q V516
  have Va516 : Arv Z h516 vv kv .byte (34 : Int32) (ins vd (sub us 0 pn (.int 0)) pc pn) (.int 0) := cp_ins (on_clamp (show pc < 2147483648 from by omega)) (on_clamp (show pn < 2147483648 from by omega)) V516
  have Ln516 : (ins vd (sub us 0 pn (.int 0)) pc pn).length = 34 := (ins_len sub_len (by rw [ll516]; omega)).trans ll516
  refine g_goto X516 hx (hb hby e4_25) (q := 43) (by decide) (by decide) ?_
  have K517 : Keep h0 h516 [vv] := (Keep.refl h0 [vv]).trans K516q (allS (Or.inl (by simp)) all0)
  refine endP X516 hlk (fun _ => rfl) (lastV X516 hx hret (hb hby e4_43)) ?_ (by decide) (by decide)
  rw [e516]
  exact ⟨rfl, N516, K517, Va516, Ln516⟩
def Q_psaLLn (Z : State) (zC : Int32) (vF : Value) (a1 : Addr) (a2 : Addr) (t : Addr) (kt : ClassId) (us : List Value) (vv : Addr) (kv : ClassId) (vd : List Value) (pc : Nat) (pn : Nat) (h0 : Heap) (v : Option Value) (h : Heap) (L : List Loc) : Prop := v = none ∧ Fr Z.heap.size L ∧ Keep h0 h [vv] ∧ Arv Z h vv kv .byte (34 : Int32) (ins vd (sub us 0 pn (.int 0)) pc pn) (.int 0) ∧ ((ins vd (sub us 0 pn (.int 0)) pc pn).length = 34)
theorem rm_psaLLn (l : Launch) (Z : State) (a0 : Array Value) (hw : HW a0 Z) (zC : Int32) (vF : Value) (G : GB l a0 Z zC vF) (a1 : Addr) (a2 : Addr) (t : Addr) (kt : ClassId) (us : List Value) (vv : Addr) (kv : ClassId) (vd : List Value) (pc : Nat) (pn : Nat) (h0 : Heap) (O0 : Old Z Z.heap.size h0) (Pe : Exa Z h0 a2 sT1) (Pc : Fld Z h0 a2 sT1 "coder" "B" (iv 0)) (Pv : Fld Z h0 a2 sT1 "value" "[B" (.ref t)) (Pa : Arv Z h0 t kt .byte (Int32.ofNat pn) us (.int 0)) (Pl : (us.length = pn)) (We : Exa Z h0 a1 sT2) (Wc : Fld Z h0 a1 sT0 "coder" "B" (iv 0)) (Wv : Fld Z h0 a1 sT0 "value" "[B" (.ref vv)) (Wa : Arv Z h0 vv kv .byte (34 : Int32) vd (.int 0)) (Wl : (vd.length = 34)) (Wy : Z.heap.size ≤ vv) (Hc : (pc + pn ≤ 34)) :
    Con l Z (⟨sT0, "putStringAt", "(ILjava/lang/String;)V"⟩ : MethodName) kC24 3 none ({ frames := 2, cells := 0, slots := 0, locals := 46 } : Room) #[(.ref a1), (.int (Int32.ofNat pc)), (.ref a2)] h0 (Q_psaLLn Z zC vF a1 a2 t kt us vv kv vd pc pn h0) := by
  refine Con.intro (plainFor_of_name pn4) ?_
  intro p e s m below meth c T0 X0 hx hby hml hown0 hnm hret hlk hZ0 e0
  have N0 := Fr.nil Z.heap.size
  refine castGo (g' := mkF m 0 #[.val (.ref a1), .val (.int (Int32.ofNat pc)), .val (.ref a2)] []) (by first | rfl | (simp [entryFrame, mkF, argsToLocals, Value.category]; done)) ?_
  show Go _ _ _ _ (T0.setTop (mkF m 0 #[.val (.ref a1), .val (.int (Int32.ofNat pc)), .val (.ref a2)] []))
  refine aL X0 hx (hb hby e48_0) (q := 1) rfl rfl rfl ?_
  refine aL X0 hx (hb hby e48_1) (q := 2) rfl rfl rfl ?_
  refine g_pvC X0 hx hZ0 hown0 (wd92 hw) (wd93 hw) (wd95 hw) (wd94 hw) (wd96 hw) (by decide) We e0 (Con.back (W := 0) (rm_ifn00 l Z a0 hw zC vF G a1 a2 h0 O0 Pe Pc We Wc) hZ0 (wd96 hw) (wd52 hw) (by decide) (by decide)) (by rw [hml]; rfl) (lenOf pd15 rfl) rfl (Nat.le_of_eq rfl) (hb hby e48_2) (q := 5) rfl (by decide) (by decide) ?_
  intro v518 T518 L518 X518 Q518
  obtain ⟨rfl, Nq518, e518⟩ := Q518
  have N518 := Fr.app N0 Nq518
  show Go _ _ _ _ (T518.setTop (mkF m 5 #[.val (.ref a1), .val (.int (Int32.ofNat pc)), .val (.ref a2)] []))
  refine aL X518 hx (hb hby e48_5) (q := 6) rfl rfl rfl ?_
  refine aL X518 hx (hb hby e48_6) (q := 7) rfl rfl rfl ?_
  refine g_getF X518 hx hZ0 hown0 (host := "") (Or.inl (wd56 hw)) Via.refl Wv e518 (hb hby e48_7) (q := 10) rfl ?_
  intro T519 X519 e519
  refine iL X519 hx (hb hby e48_10) (q := 11) rfl rfl ?_
  refine aL X519 hx (hb hby e48_11) (q := 12) rfl rfl rfl ?_
  refine g_getF X519 hx hZ0 hown0 (host := "") (Or.inl (wd58 hw)) Via.refl Wc e519 (hb hby e48_12) (q := 15) rfl ?_
  intro T520 X520 e520
  refine g_vi X520 hx hZ0 hown0 (wd98 hw) (wd99 hw) (notFace_of_selects (args := #[]) (mvT hZ0 (wd101 hw))) (wd101 hw) (wd100 hw) (by decide) Pe e520 (Con.back (W := 0) (rm_gbnc0 l Z a0 hw zC vF G a2 t kt us vv kv vd pc pn h0 O0 Pe Pc Pv Pa Pl Wa Wl Wy Hc) hZ0 (wd102 hw) (wd8 hw) (by decide) (by decide)) (by rw [hml]; rfl) (lenOf pd16 rfl) rfl (Nat.le_of_eq rfl) (hb hby e48_15) (q := 18) rfl (by decide) (by decide) ?_
  intro v521 T521 L521 X521 Q521
  obtain ⟨rfl, Nq521, K521q, q521_0, q521_1⟩ := Q521
  have N521 := Fr.app N518 Nq521
  show Go _ _ _ _ (T521.setTop (mkF m 18 #[.val (.ref a1), .val (.int (Int32.ofNat pc)), .val (.ref a2)] []))
  have K522 : Keep h0 T521.heap [vv] := (Keep.refl h0 [vv]).trans K521q (allS (Or.inl (by simp)) all0)
  refine endP X521 hlk (fun _ => rfl) (lastV X521 hx hret (hb hby e48_18)) ?_ (by decide) (by decide)
  exact ⟨rfl, N521, K522, q521_0, q521_1⟩
def Q_aapLLn (Z : State) (zC : Int32) (vF : Value) (a1 : Addr) (vv : Addr) (kv : ClassId) (vd : List Value) (a2 : Addr) (t : Addr) (kt : ClassId) (us : List Value) (pc : Nat) (pn : Nat) (h0 : Heap) (v : Option Value) (h : Heap) (L : List Loc) : Prop := v = some (.ref a1) ∧ Fr Z.heap.size L ∧ Keep h0 h [a1, vv] ∧ Exa Z h a1 sT2 ∧ Fld Z h a1 sT0 "coder" "B" (iv 0) ∧ Fld Z h a1 sT0 "count" "I" (.int (Int32.ofNat (pc + pn))) ∧ Fld Z h a1 sT0 "maybeLatin1" "Z" (iv 0) ∧ Fld Z h a1 sT0 "value" "[B" (.ref vv) ∧ Arv Z h vv kv .byte (34 : Int32) (ins vd (sub us 0 pn (.int 0)) pc pn) (.int 0) ∧ ((ins vd (sub us 0 pn (.int 0)) pc pn).length = 34)
theorem rm_aapLLn (l : Launch) (Z : State) (a0 : Array Value) (hw : HW a0 Z) (zC : Int32) (vF : Value) (G : GB l a0 Z zC vF) (a1 : Addr) (vv : Addr) (kv : ClassId) (vd : List Value) (a2 : Addr) (t : Addr) (kt : ClassId) (us : List Value) (pc : Nat) (pn : Nat) (h0 : Heap) (O0 : Old Z Z.heap.size h0) (Qe : Exa Z h0 a1 sT2) (Qc : Fld Z h0 a1 sT0 "coder" "B" (iv 0)) (Qn : Fld Z h0 a1 sT0 "count" "I" (.int (Int32.ofNat pc))) (Qm : Fld Z h0 a1 sT0 "maybeLatin1" "Z" (iv 0)) (Qv : Fld Z h0 a1 sT0 "value" "[B" (.ref vv)) (Qa : Arv Z h0 vv kv .byte (34 : Int32) vd (.int 0)) (Ql : (vd.length = 34)) (QE : Exa Z h0 vv "[B") (Qz : Z.heap.size ≤ a1) (Qy : Z.heap.size ≤ vv) (Pe : Exa Z h0 a2 sT1) (Pc : Fld Z h0 a2 sT1 "coder" "B" (iv 0)) (Pv : Fld Z h0 a2 sT1 "value" "[B" (.ref t)) (Pa : Arv Z h0 t kt .byte (Int32.ofNat pn) us (.int 0)) (Pl : (us.length = pn)) (Hc : (pc + pn ≤ 34)) :
    Con l Z (⟨sT0, "append", "(Ljava/lang/String;)Ljava/lang/AbstractStringBuilder;"⟩ : MethodName) kC9 3 (some (.object sT0)) ({ frames := 3, cells := 0, slots := 0, locals := 60 } : Room) #[(.ref a1), (.ref a2)] h0 (Q_aapLLn Z zC vF a1 vv kv vd a2 t kt us pc pn h0) := by
  refine Con.intro (plainFor_of_name pn4) ?_
  intro p e s m below meth c T0 X0 hx hby hml hown0 hnm hret hlk hZ0 e0
  have N0 := Fr.nil Z.heap.size
  refine castGo (g' := mkF m 0 #[.val (.ref a1), .val (.ref a2), .unset] []) (by first | rfl | (simp [entryFrame, mkF, argsToLocals, Value.category]; done)) ?_
  show Go _ _ _ _ (T0.setTop (mkF m 0 #[.val (.ref a1), .val (.ref a2), .unset] []))
  refine aL X0 hx (hb hby e43_0) (q := 1) rfl rfl rfl ?_
  refine nnY X0 hx (hb hby e43_1) (q := 9) (by decide) (by decide) ?_
  refine aL X0 hx (hb hby e43_9) (q := 10) rfl rfl rfl ?_
  refine g_vi X0 hx hZ0 hown0 (wd70 hw) (wd71 hw) (notFace_of_selects (args := #[]) (mvT hZ0 (wd73 hw))) (wd73 hw) (wd72 hw) (by decide) Pe e0 (Con.back (W := 0) (rm_lenn0 l Z a0 hw zC vF G a2 t kt us pn h0 O0 Pe Pc Pv Pa (show pn ≤ 34 from by omega)) hZ0 (wd74 hw) (wd8 hw) (by decide) (by decide)) (by rw [hml]; rfl) (lenOf pd17 rfl) rfl (Nat.le_of_eq rfl) (hb hby e43_10) (q := 13) rfl (by decide) (by decide) ?_
  intro v523 T523 L523 X523 Q523
  obtain ⟨rfl, Nq523, e523⟩ := Q523
  have N523 := Fr.app N0 Nq523
  show Go _ _ _ _ (T523.setTop (mkF m 13 #[.val (.ref a1), .val (.ref a2), .unset] [(.int (Int32.ofNat pn))]))
  refine sI X523 hx (hb hby e43_13) (q := 14) rfl (Ls' := #[.val (.ref a1), .val (.ref a2), .val (.int (Int32.ofNat pn))]) rfl ?_
  refine aL X523 hx (hb hby e43_14) (q := 15) rfl rfl rfl ?_
  refine aL X523 hx (hb hby e43_15) (q := 16) rfl rfl rfl ?_
  refine g_getF X523 hx hZ0 hown0 (host := "") (Or.inl (wd80 hw)) Via.refl Qn e523 (hb hby e43_16) (q := 19) rfl ?_
  intro T524 X524 e524
  refine iL X524 hx (hb hby e43_19) (q := 20) rfl rfl ?_
  refine g_iadd X524 hx (hb hby e43_20) (q := 21) rfl (z := (Int32.ofNat (pc + pn))) (on_add (pc) pn) ?_
  refine g_pvC X524 hx hZ0 hown0 (wd82 hw) (wd83 hw) (wd85 hw) (wd84 hw) (wd86 hw) (by decide) Qe e524 (Con.back (W := 0) (rm_ensn0 l Z a0 hw zC vF G a1 vv kv vd (pc + pn) h0 O0 Qe Qc Qv Qa (show (pc + pn) ≤ 34 from by omega)) hZ0 (wd86 hw) (wd52 hw) (by decide) (by decide)) (by rw [hml]; rfl) (lenOf pd14 rfl) rfl (Nat.le_of_eq rfl) (hb hby e43_21) (q := 24) rfl (by decide) (by decide) ?_
  intro v525 T525 L525 X525 Q525
  obtain ⟨rfl, Nq525, e525⟩ := Q525
  have N525 := Fr.app N523 Nq525
  show Go _ _ _ _ (T525.setTop (mkF m 24 #[.val (.ref a1), .val (.ref a2), .val (.int (Int32.ofNat pn))] []))
  refine aL X525 hx (hb hby e43_24) (q := 25) rfl rfl rfl ?_
  refine aL X525 hx (hb hby e43_25) (q := 26) rfl rfl rfl ?_
  refine g_getF X525 hx hZ0 hown0 (host := "") (Or.inl (wd80 hw)) Via.refl Qn e525 (hb hby e43_26) (q := 29) rfl ?_
  intro T526 X526 e526
  refine aL X526 hx (hb hby e43_29) (q := 30) rfl rfl rfl ?_
  refine g_pvC X526 hx hZ0 hown0 (wd87 hw) (wd88 hw) (wd90 hw) (wd89 hw) (wd91 hw) (by decide) Qe e526 (Con.back (W := 0) (rm_psaLLn l Z a0 hw zC vF G a1 a2 t kt us vv kv vd pc pn h0 O0 Pe Pc Pv Pa Pl Qe Qc Qv Qa Ql Qy Hc) hZ0 (wd91 hw) (wd52 hw) (by decide) (by decide)) (by rw [hml]; rfl) (lenOf pd18 rfl) rfl (Nat.le_of_eq rfl) (hb hby e43_30) (q := 33) rfl (by decide) (by decide) ?_
  intro v527 T527 L527 X527 Q527
  obtain ⟨rfl, Nq527, K527q, q527_0, q527_1⟩ := Q527
  have N527 := Fr.app N525 Nq527
  show Go _ _ _ _ (T527.setTop (mkF m 33 #[.val (.ref a1), .val (.ref a2), .val (.int (Int32.ofNat pn))] []))
  refine aL X527 hx (hb hby e43_33) (q := 34) rfl rfl rfl ?_
  refine g_dup X527 hx (hb hby e43_34) (q := 35) rfl rfl ?_
  have ne528 : a1 ≠ vv := (ne_exa Qe QE (by decide))
  have f529 := Qn.keep K527q (ninS ne528 nin0)
  refine g_getF X527 hx hZ0 hown0 (host := "") (Or.inl (wd80 hw)) Via.refl f529 rfl (hb hby e43_35) (q := 38) rfl ?_
  intro T530 X530 e530
  refine iL X530 hx (hb hby e43_38) (q := 39) rfl rfl ?_
  refine g_iadd X530 hx (hb hby e43_39) (q := 40) rfl (z := (Int32.ofNat (pc + pn))) (on_add (pc) pn) ?_
  have f531 := Qe.keep K527q
  refine g_putF X530 hx hZ0 hown0 (host := "") (Or.inl (wd80 hw)) Via.refl f529 f531 (Or.inl (wd81 hw)) (wd43 hw) (ty := .int) (by decide) rfl rfl e530 (hb hby e43_40) (q := 43) rfl ?_
  intro T532 h532 X532 e532 W532
  have N532 := Fr.snoc X532 N527 Qz
  have Fw532 : Fld Z h532 a1 sT0 "count" "I" (.int (Int32.ofNat (pc + pn))) := f529.same W532
  refine aL X532 hx (hb hby e43_43) (q := 44) rfl rfl rfl ?_
  have K533 : Keep h0 T527.heap [a1, vv] := (Keep.refl h0 [a1, vv]).trans K527q (allS (Or.inl (by simp)) all0)
  have K534 : Keep h0 h532 [a1, vv] := K533.wr W532 (Or.inl (by simp))
  have f535 := f531.wr W532
  have f536 := Qc.keep K527q (ninS ne528 nin0)
  have f537 := f536.other W532 (Or.inr (slot_ne (Or.inl (wd59 hw)) (Or.inl (wd81 hw)) (by decide) (t := .byte) (t' := .int) (by decide) (by decide)))
  have f538 := Qm.keep K527q (ninS ne528 nin0)
  have f539 := f538.other W532 (Or.inr (slot_ne (Or.inl (wd310 hw)) (Or.inl (wd81 hw)) (by decide) (t := .boolean) (t' := .int) (by decide) (by decide)))
  have f540 := Qv.keep K527q (ninS ne528 nin0)
  have f541 := f540.other W532 (Or.inr (slot_ne (Or.inl (wd57 hw)) (Or.inl (wd81 hw)) (by decide) (t := (.array .byte)) (t' := .int) (by decide) (by decide)))
  have ne542 : vv ≠ a1 := (Ne.symm ne528)
  have f543 := q527_0.other W532 ne542
  refine endP X532 hlk (fun h => by rw [hret] at h; cases h) (lastA X532 hx hret rfl rfl rfl (hb hby e43_44)) ?_ (by decide) (by decide)
  rw [e532]
  exact ⟨rfl, N532, K534, f535, f537, Fw532, f539, f541, f543, q527_1⟩
def Q_gbnc1 (Z : State) (zC : Int32) (vF : Value) (a2 : Addr) (t : Addr) (kt : ClassId) (us : List Value) (vv : Addr) (kv : ClassId) (vd : List Value) (pc : Nat) (pn : Nat) (h0 : Heap) (v : Option Value) (h : Heap) (L : List Loc) : Prop := v = none ∧ Fr Z.heap.size L ∧ Keep h0 h [vv] ∧ Arv Z h vv kv .byte (68 : Int32) (ins vd (sub us 0 (2 * pn) (.int 0)) (2 * pc) (2 * pn)) (.int 0) ∧ ((ins vd (sub us 0 (2 * pn) (.int 0)) (2 * pc) (2 * pn)).length = 68)
theorem rm_gbnc1 (l : Launch) (Z : State) (a0 : Array Value) (hw : HW a0 Z) (zC : Int32) (vF : Value) (G : GB l a0 Z zC vF) (a2 : Addr) (t : Addr) (kt : ClassId) (us : List Value) (vv : Addr) (kv : ClassId) (vd : List Value) (pc : Nat) (pn : Nat) (h0 : Heap) (O0 : Old Z Z.heap.size h0) (Pe : Exa Z h0 a2 sT1) (Pc : Fld Z h0 a2 sT1 "coder" "B" (iv 1)) (Pv : Fld Z h0 a2 sT1 "value" "[B" (.ref t)) (Pa : Arv Z h0 t kt .byte (Int32.ofNat (2 * pn)) us (.int 0)) (Pl : (us.length = (2 * pn))) (Wa : Arv Z h0 vv kv .byte (68 : Int32) vd (.int 0)) (Wl : (vd.length = 68)) (Wy : Z.heap.size ≤ vv) (Hc : (pc + pn ≤ 34)) :
    Con l Z (⟨sT1, "getBytes", "([BIB)V"⟩ : MethodName) kC2 4 none ({ frames := 1, cells := 0, slots := 0, locals := 31 } : Room) #[(.ref a2), (.ref vv), (.int (Int32.ofNat pc)), (iv 1)] h0 (Q_gbnc1 Z zC vF a2 t kt us vv kv vd pc pn h0) := by
  refine Con.intro (plainFor_of_name pn2) ?_
  intro p e s m below meth c T0 X0 hx hby hml hown0 hnm hret hlk hZ0 e0
  have N0 := Fr.nil Z.heap.size
  refine castGo (g' := mkF m 0 #[.val (.ref a2), .val (.ref vv), .val (.int (Int32.ofNat pc)), .val (iv 1)] []) (by first | rfl | (simp [entryFrame, mkF, argsToLocals, Value.category]; done)) ?_
  show Go _ _ _ _ (T0.setTop (mkF m 0 #[.val (.ref a2), .val (.ref vv), .val (.int (Int32.ofNat pc)), .val (iv 1)] []))
  refine aL X0 hx (hb hby e4_0) (q := 1) rfl rfl rfl ?_
  refine g_vi X0 hx hZ0 hown0 (wd75 hw) (wd76 hw) (notFace_of_selects (args := #[]) (mvT hZ0 (wd78 hw))) (wd78 hw) (wd77 hw) (by decide) Pe e0 (Con.back (W := 0) (rm_coder1 l Z a0 hw zC vF G a2 h0 O0 Pc) hZ0 (wd79 hw) (wd8 hw) (by decide) (by decide)) (by rw [hml]; rfl) (lenOf pd13 rfl) rfl (Nat.le_of_eq rfl) (hb hby e4_1) (q := 4) rfl (by decide) (by decide) ?_
  intro v544 T544 L544 X544 Q544
  obtain ⟨rfl, Nq544, e544⟩ := Q544
  have N544 := Fr.app N0 Nq544
  show Go _ _ _ _ (T544.setTop (mkF m 4 #[.val (.ref a2), .val (.ref vv), .val (.int (Int32.ofNat pc)), .val (iv 1)] [(iv 1)]))
  refine iL X544 hx (hb hby e4_4) (q := 5) rfl rfl ?_
  refine icN X544 hx (hb hby e4_5) (q := 8) rfl (by decide) ?_
  refine aL X544 hx (hb hby e4_8) (q := 9) rfl rfl rfl ?_
  refine g_getF X544 hx hZ0 hown0 (host := "") (Or.inl (wd33 hw)) Via.refl Pv e544 (hb hby e4_9) (q := 12) rfl ?_
  intro T545 X545 e545
  refine cI X545 hx (hb hby e4_12) (q := 13) rfl (z := (0 : Int32)) rfl ?_
  refine aL X545 hx (hb hby e4_13) (q := 14) rfl rfl rfl ?_
  refine iL X545 hx (hb hby e4_14) (q := 15) rfl rfl ?_
  refine iL X545 hx (hb hby e4_15) (q := 16) rfl rfl ?_
  refine g_ishl X545 hx (hb hby e4_16) (q := 17) rfl (z := (Int32.ofNat (2 * pc))) (on_shl (show pc < 1073741824 from by omega)) ?_
  refine aL X545 hx (hb hby e4_17) (q := 18) rfl rfl rfl ?_
  refine g_getF X545 hx hZ0 hown0 (host := "") (Or.inl (wd33 hw)) Via.refl Pv e545 (hb hby e4_18) (q := 21) rfl ?_
  intro T546 X546 e546
  refine g_len X546 hx hZ0 Pa e546 (hb hby e4_21) (q := 22) rfl ?_
  have ll547 : (vd : List Value).length = 68 := Wl
  refine g_cp X546 hx hZ0 hown0 (wd103 hw) (wd106 hw) (wd104 hw) (wd105 hw) (us := (sub us 0 (2 * pn) (.int 0))) Pa Wa (Or.inl ⟨rfl, rfl⟩) (by decide) (on_nn (show (2 * pc) < 2147483648 from by omega)) (on_nn (show (2 * pn) < 2147483648 from by omega)) (cp_le (by decide : Int32.toNatClampNeg (0 : Int32) = 0) (on_clamp (show (2 * pn) < 2147483648 from by omega)) (on_clamp (show (2 * pn) < 2147483648 from by omega)) (show 0 + (2 * pn) ≤ (2 * pn) from by omega)) (cp_le (on_clamp (show (2 * pc) < 2147483648 from by omega)) (on_clamp (show (2 * pn) < 2147483648 from by omega)) (by decide : Int32.toNatClampNeg (68 : Int32) = 68) (show (2 * pc) + (2 * pn) ≤ 68 from by omega)) (cp_us (by decide : Int32.toNatClampNeg (0 : Int32) = 0) (on_clamp (show (2 * pn) < 2147483648 from by omega))) (cp_len (on_clamp (show (2 * pc) < 2147483648 from by omega)) (on_clamp (show (2 * pn) < 2147483648 from by omega)) ll547 (show (2 * pc) + (2 * pn) ≤ 68 from by omega)) N544 Wy (by rw [hml]; rfl) (by decide) (W := 0) (Nat.le_of_eq rfl) (by decide) e546 (hb hby e4_22) (q := 25) rfl ?_
  intro T547 h547 L547 X547 e547 N547 K547q V547
  have Va547 : Arv Z h547 vv kv .byte (68 : Int32) (ins vd (sub us 0 (2 * pn) (.int 0)) (2 * pc) (2 * pn)) (.int 0) := cp_ins (on_clamp (show (2 * pc) < 2147483648 from by omega)) (on_clamp (show (2 * pn) < 2147483648 from by omega)) V547
  have Ln547 : (ins vd (sub us 0 (2 * pn) (.int 0)) (2 * pc) (2 * pn)).length = 68 := (ins_len sub_len (by rw [ll547]; omega)).trans ll547
  refine g_goto X547 hx (hb hby e4_25) (q := 43) (by decide) (by decide) ?_
  have K548 : Keep h0 h547 [vv] := (Keep.refl h0 [vv]).trans K547q (allS (Or.inl (by simp)) all0)
  refine endP X547 hlk (fun _ => rfl) (lastV X547 hx hret (hb hby e4_43)) ?_ (by decide) (by decide)
  rw [e547]
  exact ⟨rfl, N547, K548, Va547, Ln547⟩
def Q_ifln (Z : State) (zC : Int32) (vF : Value) (a1 : Addr) (vv : Addr) (kv : ClassId) (vd : List Value) (bs : List Int32) (pc : Nat) (h0 : Heap) (v : Option Value) (h : Heap) (L : List Loc) : Prop := ∃ (c : Addr), ∃ (kc : ClassId), v = none ∧ Fr Z.heap.size L ∧ Keep h0 h [a1] ∧ h0.size ≤ c ∧ Exa Z h a1 sT2 ∧ Fld Z h a1 sT0 "coder" "B" (iv 1) ∧ Fld Z h a1 sT0 "maybeLatin1" "Z" (iv 0) ∧ Fld Z h a1 sT0 "count" "I" (.int (Int32.ofNat pc)) ∧ Fld Z h a1 sT0 "value" "[B" (.ref c) ∧ Arv Z h c kc .byte (68 : Int32) (ins (List.replicate (2 * 34) (.int 0)) (flat bs) (2 * 0) (2 * pc)) (.int 0) ∧ Exa Z h c "[B" ∧ ((ins (List.replicate (2 * 34) (.int 0)) (flat bs) (2 * 0) (2 * pc)).length = 68)
theorem rm_ifln (l : Launch) (Z : State) (a0 : Array Value) (hw : HW a0 Z) (zC : Int32) (vF : Value) (G : GB l a0 Z zC vF) (a1 : Addr) (vv : Addr) (kv : ClassId) (vd : List Value) (bs : List Int32) (pc : Nat) (h0 : Heap) (O0 : Old Z Z.heap.size h0) (We : Exa Z h0 a1 sT2) (Wc : Fld Z h0 a1 sT0 "coder" "B" (iv 0)) (Wm : Fld Z h0 a1 sT0 "maybeLatin1" "Z" (iv 0)) (Wk : Fld Z h0 a1 sT0 "count" "I" (.int (Int32.ofNat pc))) (Wv : Fld Z h0 a1 sT0 "value" "[B" (.ref vv)) (Wa : Arv Z h0 vv kv .byte (34 : Int32) vd (.int 0)) (Wl : (vd.length = 34)) (Wy : Z.heap.size ≤ vv) (HB : (SRC vd bs pc)) (Wz : Z.heap.size ≤ a1) (Hp : (pc ≤ 34)) :
    Con l Z (⟨sT0, "inflate", "()V"⟩ : MethodName) kC26 2 none ({ frames := 5, cells := 1, slots := 68, locals := 76 } : Room) #[(.ref a1)] h0 (Q_ifln Z zC vF a1 vv kv vd bs pc h0) := by
  refine Con.intro (plainFor_of_name pn4) ?_
  intro p e s m below meth c T0 X0 hx hby hml hown0 hnm hret hlk hZ0 e0
  have N0 := Fr.nil Z.heap.size
  refine castGo (g' := mkF m 0 #[.val (.ref a1), .unset] []) (by first | rfl | (simp [entryFrame, mkF, argsToLocals, Value.category]; done)) ?_
  show Go _ _ _ _ (T0.setTop (mkF m 0 #[.val (.ref a1), .unset] []))
  refine aL X0 hx (hb hby e41_0) (q := 1) rfl rfl rfl ?_
  refine g_vi X0 hx hZ0 hown0 (wd288 hw) (wd160 hw) (notFace_of_selects (args := #[]) (mvT hZ0 (wd162 hw))) (wd162 hw) (wd161 hw) (by decide) We e0 (Con.back (W := 0) (rm_isa0 l Z a0 hw zC vF G a1 h0 O0 Wc) hZ0 (wd163 hw) (wd52 hw) (by decide) (by decide)) (by rw [hml]; rfl) (lenOf pd19 rfl) rfl (Nat.le_of_eq rfl) (hb hby e41_1) (q := 4) rfl (by decide) (by decide) ?_
  intro v549 T549 L549 X549 Q549
  obtain ⟨rfl, Nq549, e549⟩ := Q549
  have N549 := Fr.app N0 Nq549
  show Go _ _ _ _ (T549.setTop (mkF m 4 #[.val (.ref a1), .unset] [(iv 1)]))
  refine ifY X549 hx (hb hby e41_4) (q := 8) (by decide) (by decide) (by decide) ?_
  refine aL X549 hx (hb hby e41_8) (q := 9) rfl rfl rfl ?_
  refine g_getF X549 hx hZ0 hown0 (host := "") (Or.inl (wd56 hw)) Via.refl Wv e549 (hb hby e41_9) (q := 12) rfl ?_
  intro T550 X550 e550
  refine g_len X550 hx hZ0 Wa e550 (hb hby e41_12) (q := 13) rfl ?_
  refine g_st X550 hx hZ0 hown0 (wd289 hw) (wd268 hw) (wd22 hw) (wd269 hw) (by decide) e550 (Con.back (W := 0) (rm_nbf l Z a0 hw zC vF G 34 h0 O0 (show 34 ≤ 34 from by omega)) hZ0 (wd269 hw) (wd22 hw) (by decide) (by decide)) (by rw [hml]; rfl) (lenOf pd7 rfl) rfl (Nat.le_of_eq rfl) (hb hby e41_13) (q := 16) rfl (by decide) (by decide) ?_
  intro v551 T551 L551 X551 Q551
  obtain ⟨a_551, kb_551, rfl, Nq551, K551q, q551_0, q551_1, q551_2⟩ := Q551
  have N551 := Fr.app N549 Nq551
  show Go _ _ _ _ (T551.setTop (mkF m 16 #[.val (.ref a1), .unset] [(.ref a_551)]))
  refine sA X551 hx (hb hby e41_16) (q := 17) rfl rfl (Ls' := #[.val (.ref a1), .val (.ref a_551)]) rfl ?_
  refine aL X551 hx (hb hby e41_17) (q := 18) rfl rfl rfl ?_
  have f552 := Wv.keep K551q nin0
  refine g_getF X551 hx hZ0 hown0 (host := "") (Or.inl (wd56 hw)) Via.refl f552 rfl (hb hby e41_18) (q := 21) rfl ?_
  intro T553 X553 e553
  refine cI X553 hx (hb hby e41_21) (q := 22) rfl (z := (0 : Int32)) rfl ?_
  refine aL X553 hx (hb hby e41_22) (q := 23) rfl rfl rfl ?_
  refine cI X553 hx (hb hby e41_23) (q := 24) rfl (z := (0 : Int32)) rfl ?_
  refine aL X553 hx (hb hby e41_24) (q := 25) rfl rfl rfl ?_
  have f554 := Wk.keep K551q nin0
  refine g_getF X553 hx hZ0 hown0 (host := "") (Or.inl (wd80 hw)) Via.refl f554 e553 (hb hby e41_25) (q := 28) rfl ?_
  intro T555 X555 e555
  have f560 := Wa.keep K551q nin0
  have gz561 : Z.heap.size ≤ a_551 := Nat.le_trans O0.2.1 q551_0
  have ne562 : vv ≠ a_551 := (Nat.ne_of_lt (Nat.lt_of_lt_of_le (Nat.lt_of_lt_of_le Wa.lt (Nat.le_refl _)) q551_0))
  have f563 := O0.keep K551q all0
  refine g_st X555 hx hZ0 hown0 (wd290 hw) (wd291 hw) (wd245 hw) (wd292 hw) (by decide) e555 (Con.back (W := 0) (rm_linf l Z a0 hw zC vF G vv kv vd 34 bs a_551 kb_551 (List.replicate (2 * 34) (.int 0)) (2 * 34) 0 pc T551.heap f563 q551_1 rfl (show 2 * (0 + pc) ≤ (2 * 34) from by omega) (show (2 * 34) < 1000 from by omega) f560 Hp (show 34 < 1000 from by omega) HB gz561 ne562) hZ0 (wd292 hw) (wd245 hw) (by decide) (by decide)) (by rw [hml]; rfl) (lenOf pd6 rfl) rfl (Nat.le_of_eq rfl) (hb hby e41_28) (q := 31) rfl (by decide) (by decide) ?_
  intro v559 T559 L559 X559 Q559
  obtain ⟨rfl, Nq559, K559q, q559_0⟩ := Q559
  have N559 := Fr.app N551 Nq559
  show Go _ _ _ _ (T559.setTop (mkF m 31 #[.val (.ref a1), .val (.ref a_551)] []))
  have Vz564 : Arv Z T559.heap a_551 kb_551 .byte (68 : Int32) (ins (List.replicate (2 * 34) (.int 0)) (flat bs) (2 * 0) (2 * pc)) (.int 0) := q559_0
  refine aL X559 hx (hb hby e41_31) (q := 32) rfl rfl rfl ?_
  refine aL X559 hx (hb hby e41_32) (q := 33) rfl rfl rfl ?_
  have ne565 : a1 ≠ a_551 := (Nat.ne_of_lt (Nat.lt_of_lt_of_le (Nat.lt_of_lt_of_le We.lt (Nat.le_refl _)) q551_0))
  have f566 := f552.keep K559q (ninS ne565 nin0)
  have f567 := We.keep K551q
  have f568 := f567.keep K559q
  refine g_putF X559 hx hZ0 hown0 (host := "") (Or.inl (wd56 hw)) Via.refl f566 f568 (Or.inl (wd57 hw)) (wd43 hw) (ty := (.array .byte)) (by decide) rfl rfl rfl (hb hby e41_33) (q := 36) rfl ?_
  intro T569 h569 X569 e569 W569
  have N569 := Fr.snoc X569 N559 Wz
  have Fw569 : Fld Z h569 a1 sT0 "value" "[B" (.ref a_551) := f566.same W569
  refine aL X569 hx (hb hby e41_36) (q := 37) rfl rfl rfl ?_
  refine cI X569 hx (hb hby e41_37) (q := 38) rfl (z := (1 : Int32)) rfl ?_
  have f570 := Wc.keep K551q nin0
  have f571 := f570.keep K559q (ninS ne565 nin0)
  have f572 := f571.other W569 (Or.inr (slot_ne (Or.inl (wd59 hw)) (Or.inl (wd57 hw)) (by decide) (t := .byte) (t' := (.array .byte)) (by decide) (by decide)))
  have f573 := f568.wr W569
  refine g_putF X569 hx hZ0 hown0 (host := "") (Or.inl (wd58 hw)) Via.refl f572 f573 (Or.inl (wd59 hw)) (wd43 hw) (ty := .byte) (by decide) rfl rfl e569 (hb hby e41_38) (q := 41) rfl ?_
  intro T574 h574 X574 e574 W574
  have N574 := Fr.snoc X574 N569 Wz
  have Fw574 : Fld Z h574 a1 sT0 "coder" "B" (iv 1) := f572.same W574
  have K575 : Keep h0 T551.heap [a1] := (Keep.refl h0 [a1]).trans K551q all0
  have gh576 : h0.size ≤ a_551 := Nat.le_trans (Nat.le_refl _) q551_0
  have K577 : Keep h0 T559.heap [a1] := K575.trans K559q (allS (Or.inr gh576) all0)
  have K578 : Keep h0 h569 [a1] := K577.wr W569 (Or.inl (by simp))
  have K579 : Keep h0 h574 [a1] := K578.wr W574 (Or.inl (by simp))
  have f580 := f573.wr W574
  have f581 := Wm.keep K551q nin0
  have f582 := f581.keep K559q (ninS ne565 nin0)
  have f583 := f582.other W569 (Or.inr (slot_ne (Or.inl (wd310 hw)) (Or.inl (wd57 hw)) (by decide) (t := .boolean) (t' := (.array .byte)) (by decide) (by decide)))
  have f584 := f583.other W574 (Or.inr (slot_ne (Or.inl (wd310 hw)) (Or.inl (wd59 hw)) (by decide) (t := .boolean) (t' := .byte) (by decide) (by decide)))
  have f585 := f554.keep K559q (ninS ne565 nin0)
  have f586 := f585.other W569 (Or.inr (slot_ne (Or.inl (wd81 hw)) (Or.inl (wd57 hw)) (by decide) (t := .int) (t' := (.array .byte)) (by decide) (by decide)))
  have f587 := f586.other W574 (Or.inr (slot_ne (Or.inl (wd81 hw)) (Or.inl (wd59 hw)) (by decide) (t := .int) (t' := .byte) (by decide) (by decide)))
  have f588 := Fw569.other W574 (Or.inr (slot_ne (Or.inl (wd57 hw)) (Or.inl (wd59 hw)) (by decide) (t := (.array .byte)) (t' := .byte) (by decide) (by decide)))
  have ne589 : a_551 ≠ a1 := (Ne.symm ne565)
  have f590 := Vz564.other W569 ne589
  have f591 := f590.other W574 ne589
  have f592 := q551_2.keep K559q
  have f593 := f592.wr W569
  have f594 := f593.wr W574
  refine endP X574 hlk (fun _ => rfl) (lastV X574 hx hret (hb hby e41_41)) ?_ (by decide) (by decide)
  rw [e574]
  exact ⟨a_551, kb_551, rfl, N574, K579, gh576, f580, Fw574, f584, f587, f588, f591, f594, ((ins_len (by rw [flat_len, HB.1]) (by rw [List.length_replicate]; omega)).trans List.length_replicate)⟩
def Q_ifnn (Z : State) (zC : Int32) (vF : Value) (a1 : Addr) (vv : Addr) (kv : ClassId) (vd : List Value) (bs : List Int32) (a2 : Addr) (pc : Nat) (h0 : Heap) (v : Option Value) (h : Heap) (L : List Loc) : Prop := ∃ (c : Addr), ∃ (kc : ClassId), v = none ∧ Fr Z.heap.size L ∧ Keep h0 h [a1] ∧ h0.size ≤ c ∧ Exa Z h a1 sT2 ∧ Fld Z h a1 sT0 "coder" "B" (iv 1) ∧ Fld Z h a1 sT0 "maybeLatin1" "Z" (iv 0) ∧ Fld Z h a1 sT0 "count" "I" (.int (Int32.ofNat pc)) ∧ Fld Z h a1 sT0 "value" "[B" (.ref c) ∧ Arv Z h c kc .byte (68 : Int32) (ins (List.replicate (2 * 34) (.int 0)) (flat bs) (2 * 0) (2 * pc)) (.int 0) ∧ Exa Z h c "[B" ∧ ((ins (List.replicate (2 * 34) (.int 0)) (flat bs) (2 * 0) (2 * pc)).length = 68)
theorem rm_ifnn (l : Launch) (Z : State) (a0 : Array Value) (hw : HW a0 Z) (zC : Int32) (vF : Value) (G : GB l a0 Z zC vF) (a1 : Addr) (vv : Addr) (kv : ClassId) (vd : List Value) (bs : List Int32) (a2 : Addr) (pc : Nat) (h0 : Heap) (O0 : Old Z Z.heap.size h0) (Pe : Exa Z h0 a2 sT1) (Pc : Fld Z h0 a2 sT1 "coder" "B" (iv 1)) (We : Exa Z h0 a1 sT2) (Wc : Fld Z h0 a1 sT0 "coder" "B" (iv 0)) (Wm : Fld Z h0 a1 sT0 "maybeLatin1" "Z" (iv 0)) (Wk : Fld Z h0 a1 sT0 "count" "I" (.int (Int32.ofNat pc))) (Wv : Fld Z h0 a1 sT0 "value" "[B" (.ref vv)) (Wa : Arv Z h0 vv kv .byte (34 : Int32) vd (.int 0)) (Wl : (vd.length = 34)) (Wy : Z.heap.size ≤ vv) (HB : (SRC vd bs pc)) (Wz : Z.heap.size ≤ a1) (Hp : (pc ≤ 34)) :
    Con l Z (⟨sT0, "inflateIfNeededFor", "(Ljava/lang/String;)V"⟩ : MethodName) kC23 2 none ({ frames := 6, cells := 1, slots := 68, locals := 89 } : Room) #[(.ref a1), (.ref a2)] h0 (Q_ifnn Z zC vF a1 vv kv vd bs a2 pc h0) := by
  obtain ⟨hl, SC, PC, rF, SF, SA, SH, SL, hX⟩ := id G
  refine Con.intro (plainFor_of_name pn4) ?_
  intro p e s m below meth c T0 X0 hx hby hml hown0 hnm hret hlk hZ0 e0
  have N0 := Fr.nil Z.heap.size
  refine castGo (g' := mkF m 0 #[.val (.ref a1), .val (.ref a2)] []) (by first | rfl | (simp [entryFrame, mkF, argsToLocals, Value.category]; done)) ?_
  show Go _ _ _ _ (T0.setTop (mkF m 0 #[.val (.ref a1), .val (.ref a2)] []))
  refine g_getS X0 hx hZ0 hown0 (host := "") (Or.inl (wd55 hw)) Via.refl (SC.ext O0.2) e0 (hb hby e47_0) (q := 3) rfl ?_
  intro T595 X595 e595
  refine ifN X595 hx (hb hby e47_3) (q := 6) rfl ((if0 _ _).trans (feq PC).1) ?_
  refine aL X595 hx (hb hby e47_6) (q := 7) rfl rfl rfl ?_
  refine g_getF X595 hx hZ0 hown0 (host := "") (Or.inl (wd58 hw)) Via.refl Wc e595 (hb hby e47_7) (q := 10) rfl ?_
  intro T596 X596 e596
  refine aL X596 hx (hb hby e47_10) (q := 11) rfl rfl rfl ?_
  refine g_vi X596 hx hZ0 hown0 (wd97 hw) (wd76 hw) (notFace_of_selects (args := #[]) (mvT hZ0 (wd78 hw))) (wd78 hw) (wd77 hw) (by decide) Pe e596 (Con.back (W := 1) (rm_coder1 l Z a0 hw zC vF G a2 h0 O0 Pc) hZ0 (wd79 hw) (wd8 hw) (by decide) (by decide)) (by rw [hml]; rfl) (lenOf pd13 rfl) rfl (Nat.le_of_eq rfl) (hb hby e47_11) (q := 14) rfl (by decide) (by decide) ?_
  intro v597 T597 L597 X597 Q597
  obtain ⟨rfl, Nq597, e597⟩ := Q597
  have N597 := Fr.app N0 Nq597
  show Go _ _ _ _ (T597.setTop (mkF m 14 #[.val (.ref a1), .val (.ref a2)] [(iv 1), (iv 0)]))
  refine icN X597 hx (hb hby e47_14) (q := 17) rfl (by decide) ?_
  refine aL X597 hx (hb hby e47_17) (q := 18) rfl rfl rfl ?_
  refine g_pvC X597 hx hZ0 hown0 (wd283 hw) (wd284 hw) (wd286 hw) (wd285 hw) (wd287 hw) (by decide) We e597 (Con.back (W := 0) (rm_ifln l Z a0 hw zC vF G a1 vv kv vd bs pc h0 O0 We Wc Wm Wk Wv Wa Wl Wy HB Wz Hp) hZ0 (wd287 hw) (wd52 hw) (by decide) (by decide)) (by rw [hml]; rfl) (lenOf pd20 rfl) rfl (Nat.le_of_eq rfl) (hb hby e47_18) (q := 21) rfl (by decide) (by decide) ?_
  intro v598 T598 L598 X598 Q598
  obtain ⟨c_598, kc_598, rfl, Nq598, K598q, q598_0, q598_1, q598_2, q598_3, q598_4, q598_5, q598_6, q598_7, q598_8⟩ := Q598
  have N598 := Fr.app N597 Nq598
  show Go _ _ _ _ (T598.setTop (mkF m 21 #[.val (.ref a1), .val (.ref a2)] []))
  have K599 : Keep h0 T598.heap [a1] := (Keep.refl h0 [a1]).trans K598q (allS (Or.inl (by simp)) all0)
  have gh600 : h0.size ≤ c_598 := Nat.le_trans (Nat.le_refl _) q598_0
  refine endP X598 hlk (fun _ => rfl) (lastV X598 hx hret (hb hby e47_21)) ?_ (by decide) (by decide)
  exact ⟨c_598, kc_598, rfl, N598, K599, gh600, q598_1, q598_2, q598_3, q598_4, q598_5, q598_6, q598_7, q598_8⟩
def Q_psaLWn (Z : State) (zC : Int32) (vF : Value) (a1 : Addr) (a2 : Addr) (t : Addr) (kt : ClassId) (us : List Value) (vv : Addr) (kv : ClassId) (vd : List Value) (bs : List Int32) (pc : Nat) (pn : Nat) (h0 : Heap) (v : Option Value) (h : Heap) (L : List Loc) : Prop := ∃ (c : Addr), ∃ (kc : ClassId), v = none ∧ Fr Z.heap.size L ∧ Keep h0 h [a1] ∧ h0.size ≤ c ∧ Exa Z h a1 sT2 ∧ Fld Z h a1 sT0 "coder" "B" (iv 1) ∧ Fld Z h a1 sT0 "maybeLatin1" "Z" (iv 0) ∧ Fld Z h a1 sT0 "count" "I" (.int (Int32.ofNat pc)) ∧ Fld Z h a1 sT0 "value" "[B" (.ref c) ∧ Exa Z h c "[B" ∧ Arv Z h c kc .byte (68 : Int32) (ins (ins (List.replicate (2 * 34) (.int 0)) (flat bs) (2 * 0) (2 * pc)) (sub us 0 (2 * pn) (.int 0)) (2 * pc) (2 * pn)) (.int 0) ∧ ((ins (ins (List.replicate (2 * 34) (.int 0)) (flat bs) (2 * 0) (2 * pc)) (sub us 0 (2 * pn) (.int 0)) (2 * pc) (2 * pn)).length = 68)
theorem rm_psaLWn (l : Launch) (Z : State) (a0 : Array Value) (hw : HW a0 Z) (zC : Int32) (vF : Value) (G : GB l a0 Z zC vF) (a1 : Addr) (a2 : Addr) (t : Addr) (kt : ClassId) (us : List Value) (vv : Addr) (kv : ClassId) (vd : List Value) (bs : List Int32) (pc : Nat) (pn : Nat) (h0 : Heap) (O0 : Old Z Z.heap.size h0) (Pe : Exa Z h0 a2 sT1) (Pc : Fld Z h0 a2 sT1 "coder" "B" (iv 1)) (Pv : Fld Z h0 a2 sT1 "value" "[B" (.ref t)) (Pa : Arv Z h0 t kt .byte (Int32.ofNat (2 * pn)) us (.int 0)) (Pl : (us.length = (2 * pn))) (We : Exa Z h0 a1 sT2) (Wc : Fld Z h0 a1 sT0 "coder" "B" (iv 0)) (Wm : Fld Z h0 a1 sT0 "maybeLatin1" "Z" (iv 0)) (Wk : Fld Z h0 a1 sT0 "count" "I" (.int (Int32.ofNat pc))) (Wv : Fld Z h0 a1 sT0 "value" "[B" (.ref vv)) (Wa : Arv Z h0 vv kv .byte (34 : Int32) vd (.int 0)) (Wl : (vd.length = 34)) (Wy : Z.heap.size ≤ vv) (HB : (SRC vd bs pc)) (Wz : Z.heap.size ≤ a1) (Hc : (pc + pn ≤ 34)) :
    Con l Z (⟨sT0, "putStringAt", "(ILjava/lang/String;)V"⟩ : MethodName) kC24 3 none ({ frames := 7, cells := 1, slots := 68, locals := 102 } : Room) #[(.ref a1), (.int (Int32.ofNat pc)), (.ref a2)] h0 (Q_psaLWn Z zC vF a1 a2 t kt us vv kv vd bs pc pn h0) := by
  refine Con.intro (plainFor_of_name pn4) ?_
  intro p e s m below meth c T0 X0 hx hby hml hown0 hnm hret hlk hZ0 e0
  have N0 := Fr.nil Z.heap.size
  refine castGo (g' := mkF m 0 #[.val (.ref a1), .val (.int (Int32.ofNat pc)), .val (.ref a2)] []) (by first | rfl | (simp [entryFrame, mkF, argsToLocals, Value.category]; done)) ?_
  show Go _ _ _ _ (T0.setTop (mkF m 0 #[.val (.ref a1), .val (.int (Int32.ofNat pc)), .val (.ref a2)] []))
  refine aL X0 hx (hb hby e48_0) (q := 1) rfl rfl rfl ?_
  refine aL X0 hx (hb hby e48_1) (q := 2) rfl rfl rfl ?_
  refine g_pvC X0 hx hZ0 hown0 (wd92 hw) (wd93 hw) (wd95 hw) (wd94 hw) (wd96 hw) (by decide) We e0 (Con.back (W := 0) (rm_ifnn l Z a0 hw zC vF G a1 vv kv vd bs a2 pc h0 O0 Pe Pc We Wc Wm Wk Wv Wa Wl Wy HB Wz (show pc ≤ 34 from by omega)) hZ0 (wd96 hw) (wd52 hw) (by decide) (by decide)) (by rw [hml]; rfl) (lenOf pd15 rfl) rfl (Nat.le_of_eq rfl) (hb hby e48_2) (q := 5) rfl (by decide) (by decide) ?_
  intro v601 T601 L601 X601 Q601
  obtain ⟨c_601, kc_601, rfl, Nq601, K601q, q601_0, q601_1, q601_2, q601_3, q601_4, q601_5, q601_6, q601_7, q601_8⟩ := Q601
  have N601 := Fr.app N0 Nq601
  show Go _ _ _ _ (T601.setTop (mkF m 5 #[.val (.ref a1), .val (.int (Int32.ofNat pc)), .val (.ref a2)] []))
  refine aL X601 hx (hb hby e48_5) (q := 6) rfl rfl rfl ?_
  refine aL X601 hx (hb hby e48_6) (q := 7) rfl rfl rfl ?_
  refine g_getF X601 hx hZ0 hown0 (host := "") (Or.inl (wd56 hw)) Via.refl q601_5 rfl (hb hby e48_7) (q := 10) rfl ?_
  intro T602 X602 e602
  refine iL X602 hx (hb hby e48_10) (q := 11) rfl rfl ?_
  refine aL X602 hx (hb hby e48_11) (q := 12) rfl rfl rfl ?_
  refine g_getF X602 hx hZ0 hown0 (host := "") (Or.inl (wd58 hw)) Via.refl q601_2 e602 (hb hby e48_12) (q := 15) rfl ?_
  intro T603 X603 e603
  have f612 := Pe.keep K601q
  have ne613 : a2 ≠ a1 := (ne_exa Pe We (by decide))
  have f614 := Pc.keep K601q (ninS ne613 nin0)
  have f615 := Pv.keep K601q (ninS ne613 nin0)
  have ne616 : t ≠ a1 := (Ne.symm (Exa.neArv We Pa (wd43 hw)))
  have f617 := Pa.keep K601q (ninS ne616 nin0)
  have gz618 : Z.heap.size ≤ c_601 := Nat.le_trans O0.2.1 q601_0
  have f619 := O0.keep K601q (allS Wz all0)
  refine g_vi X603 hx hZ0 hown0 (wd98 hw) (wd99 hw) (notFace_of_selects (args := #[]) (mvT hZ0 (wd101 hw))) (wd101 hw) (wd100 hw) (by decide) f612 e603 (Con.back (W := 0) (rm_gbnc1 l Z a0 hw zC vF G a2 t kt us c_601 kc_601 (ins (List.replicate (2 * 34) (.int 0)) (flat bs) (2 * 0) (2 * pc)) pc pn T601.heap f619 f612 f614 f615 f617 Pl q601_6 q601_8 gz618 Hc) hZ0 (wd102 hw) (wd8 hw) (by decide) (by decide)) (by rw [hml]; rfl) (lenOf pd16 rfl) rfl (Nat.le_of_eq rfl) (hb hby e48_15) (q := 18) rfl (by decide) (by decide) ?_
  intro v611 T611 L611 X611 Q611
  obtain ⟨rfl, Nq611, K611q, q611_0, q611_1⟩ := Q611
  have N611 := Fr.app N601 Nq611
  show Go _ _ _ _ (T611.setTop (mkF m 18 #[.val (.ref a1), .val (.int (Int32.ofNat pc)), .val (.ref a2)] []))
  have K620 : Keep h0 T601.heap [a1] := (Keep.refl h0 [a1]).trans K601q (allS (Or.inl (by simp)) all0)
  have gh621 : h0.size ≤ c_601 := Nat.le_trans (Nat.le_refl _) q601_0
  have K622 : Keep h0 T611.heap [a1] := K620.trans K611q (allS (Or.inr gh621) all0)
  have f623 := q601_1.keep K611q
  have ne624 : a1 ≠ c_601 := (Nat.ne_of_lt (Nat.lt_of_lt_of_le (Nat.lt_of_lt_of_le We.lt (Nat.le_refl _)) q601_0))
  have f625 := q601_2.keep K611q (ninS ne624 nin0)
  have f626 := q601_3.keep K611q (ninS ne624 nin0)
  have f627 := q601_4.keep K611q (ninS ne624 nin0)
  have f628 := q601_5.keep K611q (ninS ne624 nin0)
  have f629 := q601_7.keep K611q
  refine endP X611 hlk (fun _ => rfl) (lastV X611 hx hret (hb hby e48_18)) ?_ (by decide) (by decide)
  exact ⟨c_601, kc_601, rfl, N611, K622, gh621, f623, f625, f626, f627, f628, f629, q611_0, q611_1⟩
def Q_aapLWn (Z : State) (zC : Int32) (vF : Value) (a1 : Addr) (vv : Addr) (kv : ClassId) (vd : List Value) (a2 : Addr) (t : Addr) (kt : ClassId) (us : List Value) (bs : List Int32) (pc : Nat) (pn : Nat) (h0 : Heap) (v : Option Value) (h : Heap) (L : List Loc) : Prop := ∃ (c : Addr), ∃ (kc : ClassId), v = some (.ref a1) ∧ Fr Z.heap.size L ∧ Keep h0 h [a1] ∧ Exa Z h a1 sT2 ∧ Fld Z h a1 sT0 "coder" "B" (iv 1) ∧ Fld Z h a1 sT0 "count" "I" (.int (Int32.ofNat (pc + pn))) ∧ Fld Z h a1 sT0 "maybeLatin1" "Z" (iv 0) ∧ Fld Z h a1 sT0 "value" "[B" (.ref c) ∧ Arv Z h c kc .byte (68 : Int32) (ins (ins (List.replicate (2 * 34) (.int 0)) (flat bs) (2 * 0) (2 * pc)) (sub us 0 (2 * pn) (.int 0)) (2 * pc) (2 * pn)) (.int 0) ∧ ((ins (ins (List.replicate (2 * 34) (.int 0)) (flat bs) (2 * 0) (2 * pc)) (sub us 0 (2 * pn) (.int 0)) (2 * pc) (2 * pn)).length = 68) ∧ h0.size ≤ c ∧ Exa Z h c "[B"
theorem rm_aapLWn (l : Launch) (Z : State) (a0 : Array Value) (hw : HW a0 Z) (zC : Int32) (vF : Value) (G : GB l a0 Z zC vF) (a1 : Addr) (vv : Addr) (kv : ClassId) (vd : List Value) (a2 : Addr) (t : Addr) (kt : ClassId) (us : List Value) (bs : List Int32) (pc : Nat) (pn : Nat) (h0 : Heap) (O0 : Old Z Z.heap.size h0) (Qe : Exa Z h0 a1 sT2) (Qc : Fld Z h0 a1 sT0 "coder" "B" (iv 0)) (Qn : Fld Z h0 a1 sT0 "count" "I" (.int (Int32.ofNat pc))) (Qm : Fld Z h0 a1 sT0 "maybeLatin1" "Z" (iv 0)) (Qv : Fld Z h0 a1 sT0 "value" "[B" (.ref vv)) (Qa : Arv Z h0 vv kv .byte (34 : Int32) vd (.int 0)) (Ql : (vd.length = 34)) (QE : Exa Z h0 vv "[B") (Qz : Z.heap.size ≤ a1) (Qy : Z.heap.size ≤ vv) (Pe : Exa Z h0 a2 sT1) (Pc : Fld Z h0 a2 sT1 "coder" "B" (iv 1)) (Pv : Fld Z h0 a2 sT1 "value" "[B" (.ref t)) (Pa : Arv Z h0 t kt .byte (Int32.ofNat (2 * pn)) us (.int 0)) (Pl : (us.length = (2 * pn))) (HB : (SRC vd bs pc)) (Hc : (pc + pn ≤ 34)) :
    Con l Z (⟨sT0, "append", "(Ljava/lang/String;)Ljava/lang/AbstractStringBuilder;"⟩ : MethodName) kC9 3 (some (.object sT0)) ({ frames := 8, cells := 1, slots := 68, locals := 116 } : Room) #[(.ref a1), (.ref a2)] h0 (Q_aapLWn Z zC vF a1 vv kv vd a2 t kt us bs pc pn h0) := by
  refine Con.intro (plainFor_of_name pn4) ?_
  intro p e s m below meth c T0 X0 hx hby hml hown0 hnm hret hlk hZ0 e0
  have N0 := Fr.nil Z.heap.size
  refine castGo (g' := mkF m 0 #[.val (.ref a1), .val (.ref a2), .unset] []) (by first | rfl | (simp [entryFrame, mkF, argsToLocals, Value.category]; done)) ?_
  show Go _ _ _ _ (T0.setTop (mkF m 0 #[.val (.ref a1), .val (.ref a2), .unset] []))
  refine aL X0 hx (hb hby e43_0) (q := 1) rfl rfl rfl ?_
  refine nnY X0 hx (hb hby e43_1) (q := 9) (by decide) (by decide) ?_
  refine aL X0 hx (hb hby e43_9) (q := 10) rfl rfl rfl ?_
  refine g_vi X0 hx hZ0 hown0 (wd70 hw) (wd71 hw) (notFace_of_selects (args := #[]) (mvT hZ0 (wd73 hw))) (wd73 hw) (wd72 hw) (by decide) Pe e0 (Con.back (W := 0) (rm_lenn1 l Z a0 hw zC vF G a2 t kt us pn h0 O0 Pe Pc Pv Pa (show pn ≤ 34 from by omega)) hZ0 (wd74 hw) (wd8 hw) (by decide) (by decide)) (by rw [hml]; rfl) (lenOf pd17 rfl) rfl (Nat.le_of_eq rfl) (hb hby e43_10) (q := 13) rfl (by decide) (by decide) ?_
  intro v630 T630 L630 X630 Q630
  obtain ⟨rfl, Nq630, e630⟩ := Q630
  have N630 := Fr.app N0 Nq630
  show Go _ _ _ _ (T630.setTop (mkF m 13 #[.val (.ref a1), .val (.ref a2), .unset] [(.int (Int32.ofNat pn))]))
  refine sI X630 hx (hb hby e43_13) (q := 14) rfl (Ls' := #[.val (.ref a1), .val (.ref a2), .val (.int (Int32.ofNat pn))]) rfl ?_
  refine aL X630 hx (hb hby e43_14) (q := 15) rfl rfl rfl ?_
  refine aL X630 hx (hb hby e43_15) (q := 16) rfl rfl rfl ?_
  refine g_getF X630 hx hZ0 hown0 (host := "") (Or.inl (wd80 hw)) Via.refl Qn e630 (hb hby e43_16) (q := 19) rfl ?_
  intro T631 X631 e631
  refine iL X631 hx (hb hby e43_19) (q := 20) rfl rfl ?_
  refine g_iadd X631 hx (hb hby e43_20) (q := 21) rfl (z := (Int32.ofNat (pc + pn))) (on_add (pc) pn) ?_
  refine g_pvC X631 hx hZ0 hown0 (wd82 hw) (wd83 hw) (wd85 hw) (wd84 hw) (wd86 hw) (by decide) Qe e631 (Con.back (W := 0) (rm_ensn0 l Z a0 hw zC vF G a1 vv kv vd (pc + pn) h0 O0 Qe Qc Qv Qa (show (pc + pn) ≤ 34 from by omega)) hZ0 (wd86 hw) (wd52 hw) (by decide) (by decide)) (by rw [hml]; rfl) (lenOf pd14 rfl) rfl (Nat.le_of_eq rfl) (hb hby e43_21) (q := 24) rfl (by decide) (by decide) ?_
  intro v632 T632 L632 X632 Q632
  obtain ⟨rfl, Nq632, e632⟩ := Q632
  have N632 := Fr.app N630 Nq632
  show Go _ _ _ _ (T632.setTop (mkF m 24 #[.val (.ref a1), .val (.ref a2), .val (.int (Int32.ofNat pn))] []))
  refine aL X632 hx (hb hby e43_24) (q := 25) rfl rfl rfl ?_
  refine aL X632 hx (hb hby e43_25) (q := 26) rfl rfl rfl ?_
  refine g_getF X632 hx hZ0 hown0 (host := "") (Or.inl (wd80 hw)) Via.refl Qn e632 (hb hby e43_26) (q := 29) rfl ?_
  intro T633 X633 e633
  refine aL X633 hx (hb hby e43_29) (q := 30) rfl rfl rfl ?_
  refine g_pvC X633 hx hZ0 hown0 (wd87 hw) (wd88 hw) (wd90 hw) (wd89 hw) (wd91 hw) (by decide) Qe e633 (Con.back (W := 0) (rm_psaLWn l Z a0 hw zC vF G a1 a2 t kt us vv kv vd bs pc pn h0 O0 Pe Pc Pv Pa Pl Qe Qc Qm Qn Qv Qa Ql Qy HB Qz Hc) hZ0 (wd91 hw) (wd52 hw) (by decide) (by decide)) (by rw [hml]; rfl) (lenOf pd18 rfl) rfl (Nat.le_of_eq rfl) (hb hby e43_30) (q := 33) rfl (by decide) (by decide) ?_
  intro v634 T634 L634 X634 Q634
  obtain ⟨c_634, kc_634, rfl, Nq634, K634q, q634_0, q634_1, q634_2, q634_3, q634_4, q634_5, q634_6, q634_7, q634_8⟩ := Q634
  have N634 := Fr.app N632 Nq634
  show Go _ _ _ _ (T634.setTop (mkF m 33 #[.val (.ref a1), .val (.ref a2), .val (.int (Int32.ofNat pn))] []))
  refine aL X634 hx (hb hby e43_33) (q := 34) rfl rfl rfl ?_
  refine g_dup X634 hx (hb hby e43_34) (q := 35) rfl rfl ?_
  refine g_getF X634 hx hZ0 hown0 (host := "") (Or.inl (wd80 hw)) Via.refl q634_4 rfl (hb hby e43_35) (q := 38) rfl ?_
  intro T635 X635 e635
  refine iL X635 hx (hb hby e43_38) (q := 39) rfl rfl ?_
  refine g_iadd X635 hx (hb hby e43_39) (q := 40) rfl (z := (Int32.ofNat (pc + pn))) (on_add (pc) pn) ?_
  refine g_putF X635 hx hZ0 hown0 (host := "") (Or.inl (wd80 hw)) Via.refl q634_4 q634_1 (Or.inl (wd81 hw)) (wd43 hw) (ty := .int) (by decide) rfl rfl e635 (hb hby e43_40) (q := 43) rfl ?_
  intro T636 h636 X636 e636 W636
  have N636 := Fr.snoc X636 N634 Qz
  have Fw636 : Fld Z h636 a1 sT0 "count" "I" (.int (Int32.ofNat (pc + pn))) := q634_4.same W636
  refine aL X636 hx (hb hby e43_43) (q := 44) rfl rfl rfl ?_
  have K637 : Keep h0 T634.heap [a1] := (Keep.refl h0 [a1]).trans K634q (allS (Or.inl (by simp)) all0)
  have K638 : Keep h0 h636 [a1] := K637.wr W636 (Or.inl (by simp))
  have f639 := q634_1.wr W636
  have f640 := q634_2.other W636 (Or.inr (slot_ne (Or.inl (wd59 hw)) (Or.inl (wd81 hw)) (by decide) (t := .byte) (t' := .int) (by decide) (by decide)))
  have f641 := q634_3.other W636 (Or.inr (slot_ne (Or.inl (wd310 hw)) (Or.inl (wd81 hw)) (by decide) (t := .boolean) (t' := .int) (by decide) (by decide)))
  have f642 := q634_5.other W636 (Or.inr (slot_ne (Or.inl (wd57 hw)) (Or.inl (wd81 hw)) (by decide) (t := (.array .byte)) (t' := .int) (by decide) (by decide)))
  have ne643 : c_634 ≠ a1 := (Nat.ne_of_gt (Nat.lt_of_lt_of_le (Nat.lt_of_lt_of_le Qe.lt (Nat.le_refl _)) q634_0))
  have f644 := q634_7.other W636 ne643
  have gh645 : h0.size ≤ c_634 := Nat.le_trans (Nat.le_refl _) q634_0
  have f646 := q634_6.wr W636
  refine endP X636 hlk (fun h => by rw [hret] at h; cases h) (lastA X636 hx hret rfl rfl rfl (hb hby e43_44)) ?_ (by decide) (by decide)
  rw [e636]
  exact ⟨c_634, kc_634, rfl, N636, K638, f639, f640, Fw636, f641, f642, f644, q634_8, gh645, f646⟩
def Q_gbnx1 (Z : State) (zC : Int32) (vF : Value) (a2 : Addr) (t : Addr) (kt : ClassId) (us : List Value) (vv : Addr) (kv : ClassId) (vd : List Value) (cs : List Int32) (pc : Nat) (pn : Nat) (h0 : Heap) (v : Option Value) (h : Heap) (L : List Loc) : Prop := v = none ∧ Fr Z.heap.size L ∧ Keep h0 h [vv] ∧ Arv Z h vv kv .byte (68 : Int32) (ins vd (flat cs) (2 * pc) (2 * pn)) (.int 0) ∧ ((ins vd (flat cs) (2 * pc) (2 * pn)).length = 68)
theorem rm_gbnx1 (l : Launch) (Z : State) (a0 : Array Value) (hw : HW a0 Z) (zC : Int32) (vF : Value) (G : GB l a0 Z zC vF) (a2 : Addr) (t : Addr) (kt : ClassId) (us : List Value) (vv : Addr) (kv : ClassId) (vd : List Value) (cs : List Int32) (pc : Nat) (pn : Nat) (h0 : Heap) (O0 : Old Z Z.heap.size h0) (Pe : Exa Z h0 a2 sT1) (Pc : Fld Z h0 a2 sT1 "coder" "B" (iv 0)) (Pv : Fld Z h0 a2 sT1 "value" "[B" (.ref t)) (Pa : Arv Z h0 t kt .byte (Int32.ofNat pn) us (.int 0)) (Pl : (us.length = pn)) (Wa : Arv Z h0 vv kv .byte (68 : Int32) vd (.int 0)) (Wl : (vd.length = 68)) (Wy : Z.heap.size ≤ vv) (HS : (SRC us cs pn)) (Wn : t ≠ vv) (Hc : (pc + pn ≤ 34)) :
    Con l Z (⟨sT1, "getBytes", "([BIB)V"⟩ : MethodName) kC2 4 none ({ frames := 5, cells := 0, slots := 0, locals := 76 } : Room) #[(.ref a2), (.ref vv), (.int (Int32.ofNat pc)), (iv 1)] h0 (Q_gbnx1 Z zC vF a2 t kt us vv kv vd cs pc pn h0) := by
  refine Con.intro (plainFor_of_name pn2) ?_
  intro p e s m below meth c T0 X0 hx hby hml hown0 hnm hret hlk hZ0 e0
  have N0 := Fr.nil Z.heap.size
  refine castGo (g' := mkF m 0 #[.val (.ref a2), .val (.ref vv), .val (.int (Int32.ofNat pc)), .val (iv 1)] []) (by first | rfl | (simp [entryFrame, mkF, argsToLocals, Value.category]; done)) ?_
  show Go _ _ _ _ (T0.setTop (mkF m 0 #[.val (.ref a2), .val (.ref vv), .val (.int (Int32.ofNat pc)), .val (iv 1)] []))
  refine aL X0 hx (hb hby e4_0) (q := 1) rfl rfl rfl ?_
  refine g_vi X0 hx hZ0 hown0 (wd75 hw) (wd76 hw) (notFace_of_selects (args := #[]) (mvT hZ0 (wd78 hw))) (wd78 hw) (wd77 hw) (by decide) Pe e0 (Con.back (W := 0) (rm_coder0 l Z a0 hw zC vF G a2 h0 O0 Pc) hZ0 (wd79 hw) (wd8 hw) (by decide) (by decide)) (by rw [hml]; rfl) (lenOf pd13 rfl) rfl (Nat.le_of_eq rfl) (hb hby e4_1) (q := 4) rfl (by decide) (by decide) ?_
  intro v647 T647 L647 X647 Q647
  obtain ⟨rfl, Nq647, e647⟩ := Q647
  have N647 := Fr.app N0 Nq647
  show Go _ _ _ _ (T647.setTop (mkF m 4 #[.val (.ref a2), .val (.ref vv), .val (.int (Int32.ofNat pc)), .val (iv 1)] [(iv 0)]))
  refine iL X647 hx (hb hby e4_4) (q := 5) rfl rfl ?_
  refine icY X647 hx (hb hby e4_5) (q := 28) (by decide) (by decide) (by decide) ?_
  refine aL X647 hx (hb hby e4_28) (q := 29) rfl rfl rfl ?_
  refine g_getF X647 hx hZ0 hown0 (host := "") (Or.inl (wd33 hw)) Via.refl Pv e647 (hb hby e4_29) (q := 32) rfl ?_
  intro T648 X648 e648
  refine cI X648 hx (hb hby e4_32) (q := 33) rfl (z := (0 : Int32)) rfl ?_
  refine aL X648 hx (hb hby e4_33) (q := 34) rfl rfl rfl ?_
  refine iL X648 hx (hb hby e4_34) (q := 35) rfl rfl ?_
  refine aL X648 hx (hb hby e4_35) (q := 36) rfl rfl rfl ?_
  refine g_getF X648 hx hZ0 hown0 (host := "") (Or.inl (wd33 hw)) Via.refl Pv e648 (hb hby e4_36) (q := 39) rfl ?_
  intro T649 X649 e649
  refine g_len X649 hx hZ0 Pa e649 (hb hby e4_39) (q := 40) rfl ?_
  refine g_st X649 hx hZ0 hown0 (wd308 hw) (wd291 hw) (wd245 hw) (wd292 hw) (by decide) e649 (Con.back (W := 0) (rm_linf l Z a0 hw zC vF G t kt us pn cs vv kv vd 68 pc pn h0 O0 Wa Wl (show 2 * (pc + pn) ≤ 68 from by omega) (show 68 < 1000 from by omega) Pa (show pn ≤ pn from by omega) (show pn < 1000 from by omega) HS Wy Wn) hZ0 (wd292 hw) (wd245 hw) (by decide) (by decide)) (by rw [hml]; rfl) (lenOf pd6 rfl) rfl (Nat.le_of_eq rfl) (hb hby e4_40) (q := 43) rfl (by decide) (by decide) ?_
  intro v650 T650 L650 X650 Q650
  obtain ⟨rfl, Nq650, K650q, q650_0⟩ := Q650
  have N650 := Fr.app N647 Nq650
  show Go _ _ _ _ (T650.setTop (mkF m 43 #[.val (.ref a2), .val (.ref vv), .val (.int (Int32.ofNat pc)), .val (iv 1)] []))
  have K651 : Keep h0 T650.heap [vv] := (Keep.refl h0 [vv]).trans K650q (allS (Or.inl (by simp)) all0)
  refine endP X650 hlk (fun _ => rfl) (lastV X650 hx hret (hb hby e4_43)) ?_ (by decide) (by decide)
  exact ⟨rfl, N650, K651, q650_0, ((ins_len (by rw [flat_len, HS.1]) (by rw [Wl]; omega)).trans Wl)⟩
def Q_psaWLn (Z : State) (zC : Int32) (vF : Value) (a1 : Addr) (a2 : Addr) (t : Addr) (kt : ClassId) (us : List Value) (vv : Addr) (kv : ClassId) (vd : List Value) (cs : List Int32) (pc : Nat) (pn : Nat) (h0 : Heap) (v : Option Value) (h : Heap) (L : List Loc) : Prop := v = none ∧ Fr Z.heap.size L ∧ Keep h0 h [vv] ∧ Arv Z h vv kv .byte (68 : Int32) (ins vd (flat cs) (2 * pc) (2 * pn)) (.int 0) ∧ ((ins vd (flat cs) (2 * pc) (2 * pn)).length = 68)
theorem rm_psaWLn (l : Launch) (Z : State) (a0 : Array Value) (hw : HW a0 Z) (zC : Int32) (vF : Value) (G : GB l a0 Z zC vF) (a1 : Addr) (a2 : Addr) (t : Addr) (kt : ClassId) (us : List Value) (vv : Addr) (kv : ClassId) (vd : List Value) (cs : List Int32) (pc : Nat) (pn : Nat) (h0 : Heap) (O0 : Old Z Z.heap.size h0) (Pe : Exa Z h0 a2 sT1) (Pc : Fld Z h0 a2 sT1 "coder" "B" (iv 0)) (Pv : Fld Z h0 a2 sT1 "value" "[B" (.ref t)) (Pa : Arv Z h0 t kt .byte (Int32.ofNat pn) us (.int 0)) (Pl : (us.length = pn)) (We : Exa Z h0 a1 sT2) (Wc : Fld Z h0 a1 sT0 "coder" "B" (iv 1)) (Wv : Fld Z h0 a1 sT0 "value" "[B" (.ref vv)) (Wa : Arv Z h0 vv kv .byte (68 : Int32) vd (.int 0)) (Wl : (vd.length = 68)) (Wy : Z.heap.size ≤ vv) (HS : (SRC us cs pn)) (Wn : t ≠ vv) (Hc : (pc + pn ≤ 34)) :
    Con l Z (⟨sT0, "putStringAt", "(ILjava/lang/String;)V"⟩ : MethodName) kC24 3 none ({ frames := 6, cells := 0, slots := 0, locals := 91 } : Room) #[(.ref a1), (.int (Int32.ofNat pc)), (.ref a2)] h0 (Q_psaWLn Z zC vF a1 a2 t kt us vv kv vd cs pc pn h0) := by
  refine Con.intro (plainFor_of_name pn4) ?_
  intro p e s m below meth c T0 X0 hx hby hml hown0 hnm hret hlk hZ0 e0
  have N0 := Fr.nil Z.heap.size
  refine castGo (g' := mkF m 0 #[.val (.ref a1), .val (.int (Int32.ofNat pc)), .val (.ref a2)] []) (by first | rfl | (simp [entryFrame, mkF, argsToLocals, Value.category]; done)) ?_
  show Go _ _ _ _ (T0.setTop (mkF m 0 #[.val (.ref a1), .val (.int (Int32.ofNat pc)), .val (.ref a2)] []))
  refine aL X0 hx (hb hby e48_0) (q := 1) rfl rfl rfl ?_
  refine aL X0 hx (hb hby e48_1) (q := 2) rfl rfl rfl ?_
  refine g_pvC X0 hx hZ0 hown0 (wd92 hw) (wd93 hw) (wd95 hw) (wd94 hw) (wd96 hw) (by decide) We e0 (Con.back (W := 0) (rm_ifn10 l Z a0 hw zC vF G a1 a2 h0 O0 Pe Pc We Wc) hZ0 (wd96 hw) (wd52 hw) (by decide) (by decide)) (by rw [hml]; rfl) (lenOf pd15 rfl) rfl (Nat.le_of_eq rfl) (hb hby e48_2) (q := 5) rfl (by decide) (by decide) ?_
  intro v652 T652 L652 X652 Q652
  obtain ⟨rfl, Nq652, e652⟩ := Q652
  have N652 := Fr.app N0 Nq652
  show Go _ _ _ _ (T652.setTop (mkF m 5 #[.val (.ref a1), .val (.int (Int32.ofNat pc)), .val (.ref a2)] []))
  refine aL X652 hx (hb hby e48_5) (q := 6) rfl rfl rfl ?_
  refine aL X652 hx (hb hby e48_6) (q := 7) rfl rfl rfl ?_
  refine g_getF X652 hx hZ0 hown0 (host := "") (Or.inl (wd56 hw)) Via.refl Wv e652 (hb hby e48_7) (q := 10) rfl ?_
  intro T653 X653 e653
  refine iL X653 hx (hb hby e48_10) (q := 11) rfl rfl ?_
  refine aL X653 hx (hb hby e48_11) (q := 12) rfl rfl rfl ?_
  refine g_getF X653 hx hZ0 hown0 (host := "") (Or.inl (wd58 hw)) Via.refl Wc e653 (hb hby e48_12) (q := 15) rfl ?_
  intro T654 X654 e654
  refine g_vi X654 hx hZ0 hown0 (wd98 hw) (wd99 hw) (notFace_of_selects (args := #[]) (mvT hZ0 (wd101 hw))) (wd101 hw) (wd100 hw) (by decide) Pe e654 (Con.back (W := 0) (rm_gbnx1 l Z a0 hw zC vF G a2 t kt us vv kv vd cs pc pn h0 O0 Pe Pc Pv Pa Pl Wa Wl Wy HS Wn Hc) hZ0 (wd102 hw) (wd8 hw) (by decide) (by decide)) (by rw [hml]; rfl) (lenOf pd16 rfl) rfl (Nat.le_of_eq rfl) (hb hby e48_15) (q := 18) rfl (by decide) (by decide) ?_
  intro v655 T655 L655 X655 Q655
  obtain ⟨rfl, Nq655, K655q, q655_0, q655_1⟩ := Q655
  have N655 := Fr.app N652 Nq655
  show Go _ _ _ _ (T655.setTop (mkF m 18 #[.val (.ref a1), .val (.int (Int32.ofNat pc)), .val (.ref a2)] []))
  have K656 : Keep h0 T655.heap [vv] := (Keep.refl h0 [vv]).trans K655q (allS (Or.inl (by simp)) all0)
  refine endP X655 hlk (fun _ => rfl) (lastV X655 hx hret (hb hby e48_18)) ?_ (by decide) (by decide)
  exact ⟨rfl, N655, K656, q655_0, q655_1⟩
def Q_aapWLn (Z : State) (zC : Int32) (vF : Value) (a1 : Addr) (vv : Addr) (kv : ClassId) (vd : List Value) (a2 : Addr) (t : Addr) (kt : ClassId) (us : List Value) (cs : List Int32) (pc : Nat) (pn : Nat) (h0 : Heap) (v : Option Value) (h : Heap) (L : List Loc) : Prop := v = some (.ref a1) ∧ Fr Z.heap.size L ∧ Keep h0 h [a1, vv] ∧ Exa Z h a1 sT2 ∧ Fld Z h a1 sT0 "coder" "B" (iv 1) ∧ Fld Z h a1 sT0 "count" "I" (.int (Int32.ofNat (pc + pn))) ∧ Fld Z h a1 sT0 "maybeLatin1" "Z" (iv 0) ∧ Fld Z h a1 sT0 "value" "[B" (.ref vv) ∧ Arv Z h vv kv .byte (68 : Int32) (ins vd (flat cs) (2 * pc) (2 * pn)) (.int 0) ∧ ((ins vd (flat cs) (2 * pc) (2 * pn)).length = 68)
theorem rm_aapWLn (l : Launch) (Z : State) (a0 : Array Value) (hw : HW a0 Z) (zC : Int32) (vF : Value) (G : GB l a0 Z zC vF) (a1 : Addr) (vv : Addr) (kv : ClassId) (vd : List Value) (a2 : Addr) (t : Addr) (kt : ClassId) (us : List Value) (cs : List Int32) (pc : Nat) (pn : Nat) (h0 : Heap) (O0 : Old Z Z.heap.size h0) (Qe : Exa Z h0 a1 sT2) (Qc : Fld Z h0 a1 sT0 "coder" "B" (iv 1)) (Qn : Fld Z h0 a1 sT0 "count" "I" (.int (Int32.ofNat pc))) (Qm : Fld Z h0 a1 sT0 "maybeLatin1" "Z" (iv 0)) (Qv : Fld Z h0 a1 sT0 "value" "[B" (.ref vv)) (Qa : Arv Z h0 vv kv .byte (68 : Int32) vd (.int 0)) (Ql : (vd.length = 68)) (QE : Exa Z h0 vv "[B") (Qz : Z.heap.size ≤ a1) (Qy : Z.heap.size ≤ vv) (Pe : Exa Z h0 a2 sT1) (Pc : Fld Z h0 a2 sT1 "coder" "B" (iv 0)) (Pv : Fld Z h0 a2 sT1 "value" "[B" (.ref t)) (Pa : Arv Z h0 t kt .byte (Int32.ofNat pn) us (.int 0)) (Pl : (us.length = pn)) (HS : (SRC us cs pn)) (Wn : t ≠ vv) (Hc : (pc + pn ≤ 34)) :
    Con l Z (⟨sT0, "append", "(Ljava/lang/String;)Ljava/lang/AbstractStringBuilder;"⟩ : MethodName) kC9 3 (some (.object sT0)) ({ frames := 7, cells := 0, slots := 0, locals := 105 } : Room) #[(.ref a1), (.ref a2)] h0 (Q_aapWLn Z zC vF a1 vv kv vd a2 t kt us cs pc pn h0) := by
  refine Con.intro (plainFor_of_name pn4) ?_
  intro p e s m below meth c T0 X0 hx hby hml hown0 hnm hret hlk hZ0 e0
  have N0 := Fr.nil Z.heap.size
  refine castGo (g' := mkF m 0 #[.val (.ref a1), .val (.ref a2), .unset] []) (by first | rfl | (simp [entryFrame, mkF, argsToLocals, Value.category]; done)) ?_
  show Go _ _ _ _ (T0.setTop (mkF m 0 #[.val (.ref a1), .val (.ref a2), .unset] []))
  refine aL X0 hx (hb hby e43_0) (q := 1) rfl rfl rfl ?_
  refine nnY X0 hx (hb hby e43_1) (q := 9) (by decide) (by decide) ?_
  refine aL X0 hx (hb hby e43_9) (q := 10) rfl rfl rfl ?_
  refine g_vi X0 hx hZ0 hown0 (wd70 hw) (wd71 hw) (notFace_of_selects (args := #[]) (mvT hZ0 (wd73 hw))) (wd73 hw) (wd72 hw) (by decide) Pe e0 (Con.back (W := 0) (rm_lenn0 l Z a0 hw zC vF G a2 t kt us pn h0 O0 Pe Pc Pv Pa (show pn ≤ 34 from by omega)) hZ0 (wd74 hw) (wd8 hw) (by decide) (by decide)) (by rw [hml]; rfl) (lenOf pd17 rfl) rfl (Nat.le_of_eq rfl) (hb hby e43_10) (q := 13) rfl (by decide) (by decide) ?_
  intro v657 T657 L657 X657 Q657
  obtain ⟨rfl, Nq657, e657⟩ := Q657
  have N657 := Fr.app N0 Nq657
  show Go _ _ _ _ (T657.setTop (mkF m 13 #[.val (.ref a1), .val (.ref a2), .unset] [(.int (Int32.ofNat pn))]))
  refine sI X657 hx (hb hby e43_13) (q := 14) rfl (Ls' := #[.val (.ref a1), .val (.ref a2), .val (.int (Int32.ofNat pn))]) rfl ?_
  refine aL X657 hx (hb hby e43_14) (q := 15) rfl rfl rfl ?_
  refine aL X657 hx (hb hby e43_15) (q := 16) rfl rfl rfl ?_
  refine g_getF X657 hx hZ0 hown0 (host := "") (Or.inl (wd80 hw)) Via.refl Qn e657 (hb hby e43_16) (q := 19) rfl ?_
  intro T658 X658 e658
  refine iL X658 hx (hb hby e43_19) (q := 20) rfl rfl ?_
  refine g_iadd X658 hx (hb hby e43_20) (q := 21) rfl (z := (Int32.ofNat (pc + pn))) (on_add (pc) pn) ?_
  refine g_pvC X658 hx hZ0 hown0 (wd82 hw) (wd83 hw) (wd85 hw) (wd84 hw) (wd86 hw) (by decide) Qe e658 (Con.back (W := 0) (rm_ensn1 l Z a0 hw zC vF G a1 vv kv vd (pc + pn) h0 O0 Qe Qc Qv Qa (show (pc + pn) ≤ 34 from by omega)) hZ0 (wd86 hw) (wd52 hw) (by decide) (by decide)) (by rw [hml]; rfl) (lenOf pd14 rfl) rfl (Nat.le_of_eq rfl) (hb hby e43_21) (q := 24) rfl (by decide) (by decide) ?_
  intro v659 T659 L659 X659 Q659
  obtain ⟨rfl, Nq659, e659⟩ := Q659
  have N659 := Fr.app N657 Nq659
  show Go _ _ _ _ (T659.setTop (mkF m 24 #[.val (.ref a1), .val (.ref a2), .val (.int (Int32.ofNat pn))] []))
  refine aL X659 hx (hb hby e43_24) (q := 25) rfl rfl rfl ?_
  refine aL X659 hx (hb hby e43_25) (q := 26) rfl rfl rfl ?_
  refine g_getF X659 hx hZ0 hown0 (host := "") (Or.inl (wd80 hw)) Via.refl Qn e659 (hb hby e43_26) (q := 29) rfl ?_
  intro T660 X660 e660
  refine aL X660 hx (hb hby e43_29) (q := 30) rfl rfl rfl ?_
  refine g_pvC X660 hx hZ0 hown0 (wd87 hw) (wd88 hw) (wd90 hw) (wd89 hw) (wd91 hw) (by decide) Qe e660 (Con.back (W := 0) (rm_psaWLn l Z a0 hw zC vF G a1 a2 t kt us vv kv vd cs pc pn h0 O0 Pe Pc Pv Pa Pl Qe Qc Qv Qa Ql Qy HS Wn Hc) hZ0 (wd91 hw) (wd52 hw) (by decide) (by decide)) (by rw [hml]; rfl) (lenOf pd18 rfl) rfl (Nat.le_of_eq rfl) (hb hby e43_30) (q := 33) rfl (by decide) (by decide) ?_
  intro v661 T661 L661 X661 Q661
  obtain ⟨rfl, Nq661, K661q, q661_0, q661_1⟩ := Q661
  have N661 := Fr.app N659 Nq661
  show Go _ _ _ _ (T661.setTop (mkF m 33 #[.val (.ref a1), .val (.ref a2), .val (.int (Int32.ofNat pn))] []))
  refine aL X661 hx (hb hby e43_33) (q := 34) rfl rfl rfl ?_
  refine g_dup X661 hx (hb hby e43_34) (q := 35) rfl rfl ?_
  have ne662 : a1 ≠ vv := (ne_exa Qe QE (by decide))
  have f663 := Qn.keep K661q (ninS ne662 nin0)
  refine g_getF X661 hx hZ0 hown0 (host := "") (Or.inl (wd80 hw)) Via.refl f663 rfl (hb hby e43_35) (q := 38) rfl ?_
  intro T664 X664 e664
  refine iL X664 hx (hb hby e43_38) (q := 39) rfl rfl ?_
  refine g_iadd X664 hx (hb hby e43_39) (q := 40) rfl (z := (Int32.ofNat (pc + pn))) (on_add (pc) pn) ?_
  have f665 := Qe.keep K661q
  refine g_putF X664 hx hZ0 hown0 (host := "") (Or.inl (wd80 hw)) Via.refl f663 f665 (Or.inl (wd81 hw)) (wd43 hw) (ty := .int) (by decide) rfl rfl e664 (hb hby e43_40) (q := 43) rfl ?_
  intro T666 h666 X666 e666 W666
  have N666 := Fr.snoc X666 N661 Qz
  have Fw666 : Fld Z h666 a1 sT0 "count" "I" (.int (Int32.ofNat (pc + pn))) := f663.same W666
  refine aL X666 hx (hb hby e43_43) (q := 44) rfl rfl rfl ?_
  have K667 : Keep h0 T661.heap [a1, vv] := (Keep.refl h0 [a1, vv]).trans K661q (allS (Or.inl (by simp)) all0)
  have K668 : Keep h0 h666 [a1, vv] := K667.wr W666 (Or.inl (by simp))
  have f669 := f665.wr W666
  have f670 := Qc.keep K661q (ninS ne662 nin0)
  have f671 := f670.other W666 (Or.inr (slot_ne (Or.inl (wd59 hw)) (Or.inl (wd81 hw)) (by decide) (t := .byte) (t' := .int) (by decide) (by decide)))
  have f672 := Qm.keep K661q (ninS ne662 nin0)
  have f673 := f672.other W666 (Or.inr (slot_ne (Or.inl (wd310 hw)) (Or.inl (wd81 hw)) (by decide) (t := .boolean) (t' := .int) (by decide) (by decide)))
  have f674 := Qv.keep K661q (ninS ne662 nin0)
  have f675 := f674.other W666 (Or.inr (slot_ne (Or.inl (wd57 hw)) (Or.inl (wd81 hw)) (by decide) (t := (.array .byte)) (t' := .int) (by decide) (by decide)))
  have ne676 : vv ≠ a1 := (Ne.symm ne662)
  have f677 := q661_0.other W666 ne676
  refine endP X666 hlk (fun h => by rw [hret] at h; cases h) (lastA X666 hx hret rfl rfl rfl (hb hby e43_44)) ?_ (by decide) (by decide)
  rw [e666]
  exact ⟨rfl, N666, K668, f669, f671, Fw666, f673, f675, f677, q661_1⟩
def Q_ifn11 (Z : State) (zC : Int32) (vF : Value) (a1 : Addr) (a2 : Addr) (h0 : Heap) (v : Option Value) (h : Heap) (L : List Loc) : Prop := v = none ∧ Fr Z.heap.size L ∧ h = h0
theorem rm_ifn11 (l : Launch) (Z : State) (a0 : Array Value) (hw : HW a0 Z) (zC : Int32) (vF : Value) (G : GB l a0 Z zC vF) (a1 : Addr) (a2 : Addr) (h0 : Heap) (O0 : Old Z Z.heap.size h0) (Pe : Exa Z h0 a2 sT1) (Pc : Fld Z h0 a2 sT1 "coder" "B" (iv 1)) (We : Exa Z h0 a1 sT2) (Wc : Fld Z h0 a1 sT0 "coder" "B" (iv 1)) :
    Con l Z (⟨sT0, "inflateIfNeededFor", "(Ljava/lang/String;)V"⟩ : MethodName) kC23 2 none ({ frames := 1, cells := 0, slots := 0, locals := 13 } : Room) #[(.ref a1), (.ref a2)] h0 (Q_ifn11 Z zC vF a1 a2 h0) := by
  obtain ⟨hl, SC, PC, rF, SF, SA, SH, SL, hX⟩ := id G
  refine Con.intro (plainFor_of_name pn4) ?_
  intro p e s m below meth c T0 X0 hx hby hml hown0 hnm hret hlk hZ0 e0
  have N0 := Fr.nil Z.heap.size
  refine castGo (g' := mkF m 0 #[.val (.ref a1), .val (.ref a2)] []) (by first | rfl | (simp [entryFrame, mkF, argsToLocals, Value.category]; done)) ?_
  show Go _ _ _ _ (T0.setTop (mkF m 0 #[.val (.ref a1), .val (.ref a2)] []))
  refine g_getS X0 hx hZ0 hown0 (host := "") (Or.inl (wd55 hw)) Via.refl (SC.ext O0.2) e0 (hb hby e47_0) (q := 3) rfl ?_
  intro T678 X678 e678
  refine ifN X678 hx (hb hby e47_3) (q := 6) rfl ((if0 _ _).trans (feq PC).1) ?_
  refine aL X678 hx (hb hby e47_6) (q := 7) rfl rfl rfl ?_
  refine g_getF X678 hx hZ0 hown0 (host := "") (Or.inl (wd58 hw)) Via.refl Wc e678 (hb hby e47_7) (q := 10) rfl ?_
  intro T679 X679 e679
  refine aL X679 hx (hb hby e47_10) (q := 11) rfl rfl rfl ?_
  refine g_vi X679 hx hZ0 hown0 (wd97 hw) (wd76 hw) (notFace_of_selects (args := #[]) (mvT hZ0 (wd78 hw))) (wd78 hw) (wd77 hw) (by decide) Pe e679 (Con.back (W := 1) (rm_coder1 l Z a0 hw zC vF G a2 h0 O0 Pc) hZ0 (wd79 hw) (wd8 hw) (by decide) (by decide)) (by rw [hml]; rfl) (lenOf pd13 rfl) rfl (Nat.le_of_eq rfl) (hb hby e47_11) (q := 14) rfl (by decide) (by decide) ?_
  intro v680 T680 L680 X680 Q680
  obtain ⟨rfl, Nq680, e680⟩ := Q680
  have N680 := Fr.app N0 Nq680
  show Go _ _ _ _ (T680.setTop (mkF m 14 #[.val (.ref a1), .val (.ref a2)] [(iv 1), (iv 1)]))
  refine icY X680 hx (hb hby e47_14) (q := 21) (by decide) (by decide) (by decide) ?_
  refine endP X680 hlk (fun _ => rfl) (lastV X680 hx hret (hb hby e47_21)) ?_ (by decide) (by decide)
  rw [e680]
  exact ⟨rfl, N680, rfl⟩
def Q_psaWWn (Z : State) (zC : Int32) (vF : Value) (a1 : Addr) (a2 : Addr) (t : Addr) (kt : ClassId) (us : List Value) (vv : Addr) (kv : ClassId) (vd : List Value) (pc : Nat) (pn : Nat) (h0 : Heap) (v : Option Value) (h : Heap) (L : List Loc) : Prop := v = none ∧ Fr Z.heap.size L ∧ Keep h0 h [vv] ∧ Arv Z h vv kv .byte (68 : Int32) (ins vd (sub us 0 (2 * pn) (.int 0)) (2 * pc) (2 * pn)) (.int 0) ∧ ((ins vd (sub us 0 (2 * pn) (.int 0)) (2 * pc) (2 * pn)).length = 68)
theorem rm_psaWWn (l : Launch) (Z : State) (a0 : Array Value) (hw : HW a0 Z) (zC : Int32) (vF : Value) (G : GB l a0 Z zC vF) (a1 : Addr) (a2 : Addr) (t : Addr) (kt : ClassId) (us : List Value) (vv : Addr) (kv : ClassId) (vd : List Value) (pc : Nat) (pn : Nat) (h0 : Heap) (O0 : Old Z Z.heap.size h0) (Pe : Exa Z h0 a2 sT1) (Pc : Fld Z h0 a2 sT1 "coder" "B" (iv 1)) (Pv : Fld Z h0 a2 sT1 "value" "[B" (.ref t)) (Pa : Arv Z h0 t kt .byte (Int32.ofNat (2 * pn)) us (.int 0)) (Pl : (us.length = (2 * pn))) (We : Exa Z h0 a1 sT2) (Wc : Fld Z h0 a1 sT0 "coder" "B" (iv 1)) (Wv : Fld Z h0 a1 sT0 "value" "[B" (.ref vv)) (Wa : Arv Z h0 vv kv .byte (68 : Int32) vd (.int 0)) (Wl : (vd.length = 68)) (Wy : Z.heap.size ≤ vv) (Hc : (pc + pn ≤ 34)) :
    Con l Z (⟨sT0, "putStringAt", "(ILjava/lang/String;)V"⟩ : MethodName) kC24 3 none ({ frames := 2, cells := 0, slots := 0, locals := 46 } : Room) #[(.ref a1), (.int (Int32.ofNat pc)), (.ref a2)] h0 (Q_psaWWn Z zC vF a1 a2 t kt us vv kv vd pc pn h0) := by
  refine Con.intro (plainFor_of_name pn4) ?_
  intro p e s m below meth c T0 X0 hx hby hml hown0 hnm hret hlk hZ0 e0
  have N0 := Fr.nil Z.heap.size
  refine castGo (g' := mkF m 0 #[.val (.ref a1), .val (.int (Int32.ofNat pc)), .val (.ref a2)] []) (by first | rfl | (simp [entryFrame, mkF, argsToLocals, Value.category]; done)) ?_
  show Go _ _ _ _ (T0.setTop (mkF m 0 #[.val (.ref a1), .val (.int (Int32.ofNat pc)), .val (.ref a2)] []))
  refine aL X0 hx (hb hby e48_0) (q := 1) rfl rfl rfl ?_
  refine aL X0 hx (hb hby e48_1) (q := 2) rfl rfl rfl ?_
  refine g_pvC X0 hx hZ0 hown0 (wd92 hw) (wd93 hw) (wd95 hw) (wd94 hw) (wd96 hw) (by decide) We e0 (Con.back (W := 0) (rm_ifn11 l Z a0 hw zC vF G a1 a2 h0 O0 Pe Pc We Wc) hZ0 (wd96 hw) (wd52 hw) (by decide) (by decide)) (by rw [hml]; rfl) (lenOf pd15 rfl) rfl (Nat.le_of_eq rfl) (hb hby e48_2) (q := 5) rfl (by decide) (by decide) ?_
  intro v681 T681 L681 X681 Q681
  obtain ⟨rfl, Nq681, e681⟩ := Q681
  have N681 := Fr.app N0 Nq681
  show Go _ _ _ _ (T681.setTop (mkF m 5 #[.val (.ref a1), .val (.int (Int32.ofNat pc)), .val (.ref a2)] []))
  refine aL X681 hx (hb hby e48_5) (q := 6) rfl rfl rfl ?_
  refine aL X681 hx (hb hby e48_6) (q := 7) rfl rfl rfl ?_
  refine g_getF X681 hx hZ0 hown0 (host := "") (Or.inl (wd56 hw)) Via.refl Wv e681 (hb hby e48_7) (q := 10) rfl ?_
  intro T682 X682 e682
  refine iL X682 hx (hb hby e48_10) (q := 11) rfl rfl ?_
  refine aL X682 hx (hb hby e48_11) (q := 12) rfl rfl rfl ?_
  refine g_getF X682 hx hZ0 hown0 (host := "") (Or.inl (wd58 hw)) Via.refl Wc e682 (hb hby e48_12) (q := 15) rfl ?_
  intro T683 X683 e683
  refine g_vi X683 hx hZ0 hown0 (wd98 hw) (wd99 hw) (notFace_of_selects (args := #[]) (mvT hZ0 (wd101 hw))) (wd101 hw) (wd100 hw) (by decide) Pe e683 (Con.back (W := 0) (rm_gbnc1 l Z a0 hw zC vF G a2 t kt us vv kv vd pc pn h0 O0 Pe Pc Pv Pa Pl Wa Wl Wy Hc) hZ0 (wd102 hw) (wd8 hw) (by decide) (by decide)) (by rw [hml]; rfl) (lenOf pd16 rfl) rfl (Nat.le_of_eq rfl) (hb hby e48_15) (q := 18) rfl (by decide) (by decide) ?_
  intro v684 T684 L684 X684 Q684
  obtain ⟨rfl, Nq684, K684q, q684_0, q684_1⟩ := Q684
  have N684 := Fr.app N681 Nq684
  show Go _ _ _ _ (T684.setTop (mkF m 18 #[.val (.ref a1), .val (.int (Int32.ofNat pc)), .val (.ref a2)] []))
  have K685 : Keep h0 T684.heap [vv] := (Keep.refl h0 [vv]).trans K684q (allS (Or.inl (by simp)) all0)
  refine endP X684 hlk (fun _ => rfl) (lastV X684 hx hret (hb hby e48_18)) ?_ (by decide) (by decide)
  exact ⟨rfl, N684, K685, q684_0, q684_1⟩
def Q_aapWWn (Z : State) (zC : Int32) (vF : Value) (a1 : Addr) (vv : Addr) (kv : ClassId) (vd : List Value) (a2 : Addr) (t : Addr) (kt : ClassId) (us : List Value) (pc : Nat) (pn : Nat) (h0 : Heap) (v : Option Value) (h : Heap) (L : List Loc) : Prop := v = some (.ref a1) ∧ Fr Z.heap.size L ∧ Keep h0 h [a1, vv] ∧ Exa Z h a1 sT2 ∧ Fld Z h a1 sT0 "coder" "B" (iv 1) ∧ Fld Z h a1 sT0 "count" "I" (.int (Int32.ofNat (pc + pn))) ∧ Fld Z h a1 sT0 "maybeLatin1" "Z" (iv 0) ∧ Fld Z h a1 sT0 "value" "[B" (.ref vv) ∧ Arv Z h vv kv .byte (68 : Int32) (ins vd (sub us 0 (2 * pn) (.int 0)) (2 * pc) (2 * pn)) (.int 0) ∧ ((ins vd (sub us 0 (2 * pn) (.int 0)) (2 * pc) (2 * pn)).length = 68)
theorem rm_aapWWn (l : Launch) (Z : State) (a0 : Array Value) (hw : HW a0 Z) (zC : Int32) (vF : Value) (G : GB l a0 Z zC vF) (a1 : Addr) (vv : Addr) (kv : ClassId) (vd : List Value) (a2 : Addr) (t : Addr) (kt : ClassId) (us : List Value) (pc : Nat) (pn : Nat) (h0 : Heap) (O0 : Old Z Z.heap.size h0) (Qe : Exa Z h0 a1 sT2) (Qc : Fld Z h0 a1 sT0 "coder" "B" (iv 1)) (Qn : Fld Z h0 a1 sT0 "count" "I" (.int (Int32.ofNat pc))) (Qm : Fld Z h0 a1 sT0 "maybeLatin1" "Z" (iv 0)) (Qv : Fld Z h0 a1 sT0 "value" "[B" (.ref vv)) (Qa : Arv Z h0 vv kv .byte (68 : Int32) vd (.int 0)) (Ql : (vd.length = 68)) (QE : Exa Z h0 vv "[B") (Qz : Z.heap.size ≤ a1) (Qy : Z.heap.size ≤ vv) (Pe : Exa Z h0 a2 sT1) (Pc : Fld Z h0 a2 sT1 "coder" "B" (iv 1)) (Pv : Fld Z h0 a2 sT1 "value" "[B" (.ref t)) (Pa : Arv Z h0 t kt .byte (Int32.ofNat (2 * pn)) us (.int 0)) (Pl : (us.length = (2 * pn))) (Hc : (pc + pn ≤ 34)) :
    Con l Z (⟨sT0, "append", "(Ljava/lang/String;)Ljava/lang/AbstractStringBuilder;"⟩ : MethodName) kC9 3 (some (.object sT0)) ({ frames := 3, cells := 0, slots := 0, locals := 60 } : Room) #[(.ref a1), (.ref a2)] h0 (Q_aapWWn Z zC vF a1 vv kv vd a2 t kt us pc pn h0) := by
  refine Con.intro (plainFor_of_name pn4) ?_
  intro p e s m below meth c T0 X0 hx hby hml hown0 hnm hret hlk hZ0 e0
  have N0 := Fr.nil Z.heap.size
  refine castGo (g' := mkF m 0 #[.val (.ref a1), .val (.ref a2), .unset] []) (by first | rfl | (simp [entryFrame, mkF, argsToLocals, Value.category]; done)) ?_
  show Go _ _ _ _ (T0.setTop (mkF m 0 #[.val (.ref a1), .val (.ref a2), .unset] []))
  refine aL X0 hx (hb hby e43_0) (q := 1) rfl rfl rfl ?_
  refine nnY X0 hx (hb hby e43_1) (q := 9) (by decide) (by decide) ?_
  refine aL X0 hx (hb hby e43_9) (q := 10) rfl rfl rfl ?_
  refine g_vi X0 hx hZ0 hown0 (wd70 hw) (wd71 hw) (notFace_of_selects (args := #[]) (mvT hZ0 (wd73 hw))) (wd73 hw) (wd72 hw) (by decide) Pe e0 (Con.back (W := 0) (rm_lenn1 l Z a0 hw zC vF G a2 t kt us pn h0 O0 Pe Pc Pv Pa (show pn ≤ 34 from by omega)) hZ0 (wd74 hw) (wd8 hw) (by decide) (by decide)) (by rw [hml]; rfl) (lenOf pd17 rfl) rfl (Nat.le_of_eq rfl) (hb hby e43_10) (q := 13) rfl (by decide) (by decide) ?_
  intro v686 T686 L686 X686 Q686
  obtain ⟨rfl, Nq686, e686⟩ := Q686
  have N686 := Fr.app N0 Nq686
  show Go _ _ _ _ (T686.setTop (mkF m 13 #[.val (.ref a1), .val (.ref a2), .unset] [(.int (Int32.ofNat pn))]))
  refine sI X686 hx (hb hby e43_13) (q := 14) rfl (Ls' := #[.val (.ref a1), .val (.ref a2), .val (.int (Int32.ofNat pn))]) rfl ?_
  refine aL X686 hx (hb hby e43_14) (q := 15) rfl rfl rfl ?_
  refine aL X686 hx (hb hby e43_15) (q := 16) rfl rfl rfl ?_
  refine g_getF X686 hx hZ0 hown0 (host := "") (Or.inl (wd80 hw)) Via.refl Qn e686 (hb hby e43_16) (q := 19) rfl ?_
  intro T687 X687 e687
  refine iL X687 hx (hb hby e43_19) (q := 20) rfl rfl ?_
  refine g_iadd X687 hx (hb hby e43_20) (q := 21) rfl (z := (Int32.ofNat (pc + pn))) (on_add (pc) pn) ?_
  refine g_pvC X687 hx hZ0 hown0 (wd82 hw) (wd83 hw) (wd85 hw) (wd84 hw) (wd86 hw) (by decide) Qe e687 (Con.back (W := 0) (rm_ensn1 l Z a0 hw zC vF G a1 vv kv vd (pc + pn) h0 O0 Qe Qc Qv Qa (show (pc + pn) ≤ 34 from by omega)) hZ0 (wd86 hw) (wd52 hw) (by decide) (by decide)) (by rw [hml]; rfl) (lenOf pd14 rfl) rfl (Nat.le_of_eq rfl) (hb hby e43_21) (q := 24) rfl (by decide) (by decide) ?_
  intro v688 T688 L688 X688 Q688
  obtain ⟨rfl, Nq688, e688⟩ := Q688
  have N688 := Fr.app N686 Nq688
  show Go _ _ _ _ (T688.setTop (mkF m 24 #[.val (.ref a1), .val (.ref a2), .val (.int (Int32.ofNat pn))] []))
  refine aL X688 hx (hb hby e43_24) (q := 25) rfl rfl rfl ?_
  refine aL X688 hx (hb hby e43_25) (q := 26) rfl rfl rfl ?_
  refine g_getF X688 hx hZ0 hown0 (host := "") (Or.inl (wd80 hw)) Via.refl Qn e688 (hb hby e43_26) (q := 29) rfl ?_
  intro T689 X689 e689
  refine aL X689 hx (hb hby e43_29) (q := 30) rfl rfl rfl ?_
  refine g_pvC X689 hx hZ0 hown0 (wd87 hw) (wd88 hw) (wd90 hw) (wd89 hw) (wd91 hw) (by decide) Qe e689 (Con.back (W := 0) (rm_psaWWn l Z a0 hw zC vF G a1 a2 t kt us vv kv vd pc pn h0 O0 Pe Pc Pv Pa Pl Qe Qc Qv Qa Ql Qy Hc) hZ0 (wd91 hw) (wd52 hw) (by decide) (by decide)) (by rw [hml]; rfl) (lenOf pd18 rfl) rfl (Nat.le_of_eq rfl) (hb hby e43_30) (q := 33) rfl (by decide) (by decide) ?_
  intro v690 T690 L690 X690 Q690
  obtain ⟨rfl, Nq690, K690q, q690_0, q690_1⟩ := Q690
  have N690 := Fr.app N688 Nq690
  show Go _ _ _ _ (T690.setTop (mkF m 33 #[.val (.ref a1), .val (.ref a2), .val (.int (Int32.ofNat pn))] []))
  refine aL X690 hx (hb hby e43_33) (q := 34) rfl rfl rfl ?_
  refine g_dup X690 hx (hb hby e43_34) (q := 35) rfl rfl ?_
  have ne691 : a1 ≠ vv := (ne_exa Qe QE (by decide))
  have f692 := Qn.keep K690q (ninS ne691 nin0)
  refine g_getF X690 hx hZ0 hown0 (host := "") (Or.inl (wd80 hw)) Via.refl f692 rfl (hb hby e43_35) (q := 38) rfl ?_
  intro T693 X693 e693
  refine iL X693 hx (hb hby e43_38) (q := 39) rfl rfl ?_
  refine g_iadd X693 hx (hb hby e43_39) (q := 40) rfl (z := (Int32.ofNat (pc + pn))) (on_add (pc) pn) ?_
  have f694 := Qe.keep K690q
  refine g_putF X693 hx hZ0 hown0 (host := "") (Or.inl (wd80 hw)) Via.refl f692 f694 (Or.inl (wd81 hw)) (wd43 hw) (ty := .int) (by decide) rfl rfl e693 (hb hby e43_40) (q := 43) rfl ?_
  intro T695 h695 X695 e695 W695
  have N695 := Fr.snoc X695 N690 Qz
  have Fw695 : Fld Z h695 a1 sT0 "count" "I" (.int (Int32.ofNat (pc + pn))) := f692.same W695
  refine aL X695 hx (hb hby e43_43) (q := 44) rfl rfl rfl ?_
  have K696 : Keep h0 T690.heap [a1, vv] := (Keep.refl h0 [a1, vv]).trans K690q (allS (Or.inl (by simp)) all0)
  have K697 : Keep h0 h695 [a1, vv] := K696.wr W695 (Or.inl (by simp))
  have f698 := f694.wr W695
  have f699 := Qc.keep K690q (ninS ne691 nin0)
  have f700 := f699.other W695 (Or.inr (slot_ne (Or.inl (wd59 hw)) (Or.inl (wd81 hw)) (by decide) (t := .byte) (t' := .int) (by decide) (by decide)))
  have f701 := Qm.keep K690q (ninS ne691 nin0)
  have f702 := f701.other W695 (Or.inr (slot_ne (Or.inl (wd310 hw)) (Or.inl (wd81 hw)) (by decide) (t := .boolean) (t' := .int) (by decide) (by decide)))
  have f703 := Qv.keep K690q (ninS ne691 nin0)
  have f704 := f703.other W695 (Or.inr (slot_ne (Or.inl (wd57 hw)) (Or.inl (wd81 hw)) (by decide) (t := (.array .byte)) (t' := .int) (by decide) (by decide)))
  have ne705 : vv ≠ a1 := (Ne.symm ne691)
  have f706 := q690_0.other W695 ne705
  refine endP X695 hlk (fun h => by rw [hret] at h; cases h) (lastA X695 hx hret rfl rfl rfl (hb hby e43_44)) ?_ (by decide) (by decide)
  rw [e695]
  exact ⟨rfl, N695, K697, f698, f700, Fw695, f702, f704, f706, q690_1⟩
theorem bu_LL {bs cs : List Int32} {cap to c n : Nat} {e : List Value} (hb : ALL bs) (hs : ALL cs) (lb : bs.length = c) (ls : cs.length = n) (h : c + n ≤ to) (he : e = bs.map lo8V ++ List.replicate (to - c) (.int 0)) : BU (bs ++ cs) to 0 (Int32.ofNat to) (ins e (sub (cs.map lo8V) 0 n (.int 0)) c n) := by
  refine Or.inl ⟨all_app hb hs, rfl, rfl, ?_⟩
  rw [he, sub_all (by rw [List.length_map]; exact ls), insA (by rw [List.length_map]; exact lb) (by rw [List.length_map]; exact ls) (by omega), List.map_append, List.length_append, lb, ls, Nat.sub_sub]
theorem bu_W {bs cs : List Int32} {to c n : Nat} {e f : List Value} (hw : WD (bs ++ cs)) (lb : bs.length = c) (ls : cs.length = n) (h : c + n ≤ to) (he : e = flat bs ++ List.replicate (2 * to - 2 * c) (.int 0)) (hf : f = flat cs) {x y : Nat} (hx : x = 2 * c) (hy : y = 2 * n) : BU (bs ++ cs) to 1 (Int32.ofNat (2 * to)) (ins e f x y) := by
  subst hx hy
  refine Or.inr ⟨hw, rfl, rfl, ?_⟩
  rw [he, hf, insA (by rw [flat_len, lb]) (by rw [flat_len, ls]) (by omega), flat_app, List.length_append, lb, ls]
  congr 2
  omega
theorem e_grow {A e : List Value} {a cap to : Nat} (he : e = A ++ List.replicate (cap - a) (.int 0)) (ha : A.length = a) (h1 : a ≤ cap) (h2 : cap ≤ to) : ins (List.replicate to (iv 0)) (sub e 0 cap (.int 0)) 0 cap = A ++ List.replicate (to - a) (.int 0) := by
  rw [growA (by rw [he, List.length_append, ha, List.length_replicate]; omega) h2, he, rep_add]
  congr 2
  omega
theorem e_infl {bs : List Int32} {to c : Nat} (lb : bs.length = c) (h : c ≤ to) : ins (List.replicate (2 * to) (.int 0)) (flat bs) (2 * 0) (2 * c) = flat bs ++ List.replicate (2 * to - 2 * c) (.int 0) := by
  have q := insA (A := []) (B := flat bs) (c := 0) (n := 2 * c) (r := 2 * to) (v := .int 0) rfl (by rw [flat_len, lb]) (by omega)
  simpa using q
theorem sb_bu {bs : List Int32} {cap : Nat} {cd z : Int32} {vd : List Value} (h : BU bs cap cd z vd) (hl : bs.length = cap) : SB bs cd z vd := by
  rcases h with ⟨h1, h2, h3, h4⟩ | ⟨h1, h2, h3, h4⟩
  · refine Or.inl ⟨h1, h2, by rw [hl]; exact h3, ?_⟩
    rw [h4, hl, Nat.sub_self]; simp
  · refine Or.inr ⟨h1, h2, by rw [hl]; exact h3, ?_⟩
    rw [h4, hl, Nat.sub_self]; simp
theorem e38_0 : decode kC53 0 = .ok (.aload_n 0, 1) := by decide +kernel
theorem e38_1 : decode kC53 1 = .ok (.aload_n 1, 1) := by decide +kernel
theorem e38_2 : decode kC53 2 = .ok (.invokespecial 29, 3) := by decide +kernel
theorem wd69 (hw : HW a0 Z) : BW a0 Z (.code ⟨sT0, "append", "(Ljava/lang/String;)Ljava/lang/AbstractStringBuilder;"⟩ kC9 (3 : Nat) (Option.some (Jvm.ClassFile.FieldType.object sT0))) := wat hw 69 rfl
theorem pd23 : parseMethodDescriptor "(Ljava/lang/String;)Ljava/lang/AbstractStringBuilder;" = some ⟨[(.object "java/lang/String")], some (.object "java/lang/AbstractStringBuilder")⟩ := by decide +kernel
theorem wd66 (hw : HW a0 Z) : BW a0 Z (.instanceMethod ⟨sT0, "append", "(Ljava/lang/String;)Ljava/lang/AbstractStringBuilder;"⟩) := wat hw 66 rfl
theorem wd65 (hw : HW a0 Z) : BW a0 Z (.methodLink sT2 (29 : Nat) ⟨sT0, "append", "(Ljava/lang/String;)Ljava/lang/AbstractStringBuilder;"⟩) := wat hw 65 rfl
theorem wd67 (hw : HW a0 Z) : BW a0 Z (.superclass sT2 sT0) := wat hw 67 rfl
theorem e38_5 : decode kC53 5 = .ok (.pop, 1) := by decide +kernel
theorem e38_6 : decode kC53 6 = .ok (.aload_n 0, 1) := by decide +kernel
theorem e38_7 : decode kC53 7 = .ok (.areturn, 1) := by decide +kernel
def Q_sap0 (Z : State) (zC : Int32) (vF : Value) (a1 : Addr) (vv : Addr) (kv : ClassId) (cdB : Int32) (zB : Int32) (vd : List Value) (a2 : Addr) (t : Addr) (kt : ClassId) (cdS : Int32) (zS : Int32) (us : List Value) (bs : List Int32) (cs : List Int32) (h0 : Heap) (v : Option Value) (h : Heap) (L : List Loc) : Prop := ∃ (v2 : Addr), ∃ (k2 : ClassId), ∃ (cd2 : Int32), ∃ (z2 : Int32), ∃ (vd2 : List Value), v = some (.ref a1) ∧ Fr Z.heap.size L ∧ Keep h0 h [a1, vv] ∧ Exa Z h a1 sT2 ∧ Fld Z h a1 sT0 "coder" "B" (.int cd2) ∧ Fld Z h a1 sT0 "count" "I" (iv 2) ∧ Fld Z h a1 sT0 "maybeLatin1" "Z" (iv 0) ∧ Fld Z h a1 sT0 "value" "[B" (.ref v2) ∧ Arv Z h v2 k2 .byte z2 vd2 (.int 0) ∧ Exa Z h v2 "[B" ∧ (BU (bs ++ cs) 16 cd2 z2 vd2) ∧ ((bs ++ cs).length = 2) ∧ (v2 = vv ∨ h0.size ≤ v2)
theorem rm_sap0 (l : Launch) (Z : State) (a0 : Array Value) (hw : HW a0 Z) (zC : Int32) (vF : Value) (G : GB l a0 Z zC vF) (a1 : Addr) (vv : Addr) (kv : ClassId) (cdB : Int32) (zB : Int32) (vd : List Value) (a2 : Addr) (t : Addr) (kt : ClassId) (cdS : Int32) (zS : Int32) (us : List Value) (bs : List Int32) (cs : List Int32) (h0 : Heap) (O0 : Old Z Z.heap.size h0) (Qe : Exa Z h0 a1 sT2) (Qc : Fld Z h0 a1 sT0 "coder" "B" (.int cdB)) (Qn : Fld Z h0 a1 sT0 "count" "I" (iv 0)) (Qm : Fld Z h0 a1 sT0 "maybeLatin1" "Z" (iv 0)) (Qv : Fld Z h0 a1 sT0 "value" "[B" (.ref vv)) (Qa : Arv Z h0 vv kv .byte zB vd (.int 0)) (QE : Exa Z h0 vv "[B") (Qz : Z.heap.size ≤ a1) (Qy : Z.heap.size ≤ vv) (QB : (BU bs 16 cdB zB vd)) (Ql : (bs.length = 0)) (Pe : Exa Z h0 a2 sT1) (Pc : Fld Z h0 a2 sT1 "coder" "B" (.int cdS)) (Pv : Fld Z h0 a2 sT1 "value" "[B" (.ref t)) (Pa : Arv Z h0 t kt .byte zS us (.int 0)) (PS : (SB cs cdS zS us)) (Pl : (cs.length = 2)) (Pn : t ≠ vv) (Q0 : (¬ (cdB = (1 : Int32)))) :
    Con l Z (⟨sT2, "append", "(Ljava/lang/String;)Ljava/lang/StringBuilder;"⟩ : MethodName) kC53 2 (some (.object sT2)) ({ frames := 9, cells := 1, slots := 68, locals := 130 } : Room) #[(.ref a1), (.ref a2)] h0 (Q_sap0 Z zC vF a1 vv kv cdB zB vd a2 t kt cdS zS us bs cs h0) := by
  refine Con.intro (plainFor_of_name pn5) ?_
  intro p e s m below meth c T0 X0 hx hby hml hown0 hnm hret hlk hZ0 e0
  have N0 := Fr.nil Z.heap.size
  refine castGo (g' := mkF m 0 #[.val (.ref a1), .val (.ref a2)] []) (by first | rfl | (simp [entryFrame, mkF, argsToLocals, Value.category]; done)) ?_
  show Go _ _ _ _ (T0.setTop (mkF m 0 #[.val (.ref a1), .val (.ref a2)] []))
  rcases QB with ⟨hB, rfl, rfl, rfl⟩ | ⟨hB, rfl, rfl, rfl⟩
  · rcases PS with ⟨hS, rfl, rfl, rfl⟩ | ⟨hS, rfl, rfl, rfl⟩
    · have Qa1 : Arv Z h0 vv kv .byte (16 : Int32) (bs.map lo8V ++ List.replicate (16 - bs.length) (.int 0)) (.int 0) := Qa
      have Pa1 : Arv Z h0 t kt .byte (2 : Int32) (cs.map lo8V) (.int 0) := by have q := Pa; rw [Pl] at q; exact q
      have lB : ((bs.map lo8V ++ List.replicate (16 - bs.length) (.int 0)) : List Value).length = 16 := by rw [List.length_append, List.length_map, List.length_replicate]; omega
      have lS : ((cs.map lo8V) : List Value).length = 2 := by rw [List.length_map, Pl]
      show Go _ _ _ _ (T0.setTop (mkF m 0 #[.val (.ref a1), .val (.ref a2)] []))
      refine aL X0 hx (hb hby e38_0) (q := 1) rfl rfl rfl ?_
      refine aL X0 hx (hb hby e38_1) (q := 2) rfl rfl rfl ?_
      refine g_su X0 hx hZ0 hown0 (wd65 hw) (same_self (wd66 hw) (wd85 hw) rfl (by decide)) (wd66 hw) (wd67 hw) (wd69 hw) (by decide) Qe e0 (Con.back (W := 0) (rm_aapLL0 l Z a0 hw zC vF G a1 vv kv (bs.map lo8V ++ List.replicate (16 - bs.length) (.int 0)) a2 t kt (cs.map lo8V) h0 O0 Qe Qc Qn Qm Qv Qa1 lB QE Qz Qy Pe Pc Pv Pa1 lS) hZ0 (wd69 hw) (wd52 hw) (by decide) (by decide)) (by rw [hml]; rfl) (lenOf pd23 rfl) rfl (Nat.le_of_eq rfl) (hb hby e38_2) (q := 5) rfl (by decide) (by decide) ?_
      intro v707 T707 L707 X707 Q707
      obtain ⟨rfl, Nq707, K707q, q707_0, q707_1, q707_2, q707_3, q707_4, q707_5, q707_6⟩ := Q707
      have N707 := Fr.app N0 Nq707
      show Go _ _ _ _ (T707.setTop (mkF m 5 #[.val (.ref a1), .val (.ref a2)] [(.ref a1)]))
      refine g_pop X707 hx (hb hby e38_5) (q := 6) rfl rfl ?_
      refine aL X707 hx (hb hby e38_6) (q := 7) rfl rfl rfl ?_
      have K708 : Keep h0 T707.heap [a1, vv] := (Keep.refl h0 [a1, vv]).trans K707q (allS (Or.inl (by simp)) (allS (Or.inl (by simp)) all0))
      have f709 := QE.keep K707q
      refine endP X707 hlk (fun h => by rw [hret] at h; cases h) (lastA X707 hx hret rfl rfl rfl (hb hby e38_7)) ?_ (by decide) (by decide)
      refine ⟨vv, kv, (0 : Int32), (16 : Int32), (ins (bs.map lo8V ++ List.replicate (16 - bs.length) (.int 0)) (sub (cs.map lo8V) 0 2 (.int 0)) 0 2), ?_, ?_, ?_, ?_, ?_, ?_, ?_, ?_, ?_, ?_, ?_, ?_, ?_⟩
      · exact rfl
      · exact N707
      · exact K708
      · exact q707_0
      · exact q707_1
      · exact q707_2
      · exact q707_3
      · exact q707_4
      · exact q707_5
      · exact f709
      · exact (bu_LL (bs := bs) (cs := cs) (cap := 16) (to := 16) (c := 0) (n := 2) hB hS Ql Pl (by decide) (by rw [Ql]))
      · exact (by rw [List.length_append, Ql, Pl])
      · exact (Or.inl rfl)
    · have Qa1 : Arv Z h0 vv kv .byte (16 : Int32) (bs.map lo8V ++ List.replicate (16 - bs.length) (.int 0)) (.int 0) := Qa
      have Pa1 : Arv Z h0 t kt .byte (4 : Int32) (flat cs) (.int 0) := by have q := Pa; rw [Pl] at q; exact q
      have lB : ((bs.map lo8V ++ List.replicate (16 - bs.length) (.int 0)) : List Value).length = 16 := by rw [List.length_append, List.length_map, List.length_replicate]; omega
      have lS : ((flat cs) : List Value).length = 4 := by rw [flat_len, Pl]
      show Go _ _ _ _ (T0.setTop (mkF m 0 #[.val (.ref a1), .val (.ref a2)] []))
      refine aL X0 hx (hb hby e38_0) (q := 1) rfl rfl rfl ?_
      refine aL X0 hx (hb hby e38_1) (q := 2) rfl rfl rfl ?_
      refine g_su X0 hx hZ0 hown0 (wd65 hw) (same_self (wd66 hw) (wd85 hw) rfl (by decide)) (wd66 hw) (wd67 hw) (wd69 hw) (by decide) Qe e0 (Con.back (W := 0) (rm_aapLW0 l Z a0 hw zC vF G a1 vv kv (bs.map lo8V ++ List.replicate (16 - bs.length) (.int 0)) a2 t kt (flat cs) bs h0 O0 Qe Qc Qn Qm Qv Qa1 lB QE Qz Qy Pe Pc Pv Pa1 lS (src_of hB Ql)) hZ0 (wd69 hw) (wd52 hw) (by decide) (by decide)) (by rw [hml]; rfl) (lenOf pd23 rfl) rfl (Nat.le_of_eq rfl) (hb hby e38_2) (q := 5) rfl (by decide) (by decide) ?_
      intro v710 T710 L710 X710 Q710
      obtain ⟨c_710, kc_710, rfl, Nq710, K710q, q710_0, q710_1, q710_2, q710_3, q710_4, q710_5, q710_6, q710_7, q710_8⟩ := Q710
      have N710 := Fr.app N0 Nq710
      show Go _ _ _ _ (T710.setTop (mkF m 5 #[.val (.ref a1), .val (.ref a2)] [(.ref a1)]))
      refine g_pop X710 hx (hb hby e38_5) (q := 6) rfl rfl ?_
      refine aL X710 hx (hb hby e38_6) (q := 7) rfl rfl rfl ?_
      have K711 : Keep h0 T710.heap [a1, vv] := (Keep.refl h0 [a1, vv]).trans K710q (allS (Or.inl (by simp)) all0)
      have gh712 : h0.size ≤ c_710 := Nat.le_trans (Nat.le_refl _) q710_7
      refine endP X710 hlk (fun h => by rw [hret] at h; cases h) (lastA X710 hx hret rfl rfl rfl (hb hby e38_7)) ?_ (by decide) (by decide)
      refine ⟨c_710, kc_710, (1 : Int32), (32 : Int32), (ins (ins (List.replicate (2 * 16) (.int 0)) (flat bs) (2 * 0) (2 * 0)) (sub (flat cs) 0 4 (.int 0)) 0 4), ?_, ?_, ?_, ?_, ?_, ?_, ?_, ?_, ?_, ?_, ?_, ?_, ?_⟩
      · exact rfl
      · exact N710
      · exact K711
      · exact q710_0
      · exact q710_1
      · exact q710_2
      · exact q710_3
      · exact q710_4
      · exact q710_5
      · exact q710_8
      · exact (bu_W (bs := bs) (cs := cs) (to := 16) (c := 0) (n := 2) (wd_app (Or.inr ⟨hB, hS⟩)) Ql Pl (by decide) (e_infl Ql (by decide)) (sub_all (by rw [flat_len, Pl])) rfl rfl)
      · exact (by rw [List.length_append, Ql, Pl])
      · exact (Or.inr gh712)
  · exact absurd rfl Q0
def Q_sap2 (Z : State) (zC : Int32) (vF : Value) (a1 : Addr) (vv : Addr) (kv : ClassId) (cdB : Int32) (zB : Int32) (vd : List Value) (a2 : Addr) (t : Addr) (kt : ClassId) (cdS : Int32) (zS : Int32) (us : List Value) (bs : List Int32) (cs : List Int32) (h0 : Heap) (v : Option Value) (h : Heap) (L : List Loc) : Prop := ∃ (v2 : Addr), ∃ (k2 : ClassId), ∃ (cd2 : Int32), ∃ (z2 : Int32), ∃ (vd2 : List Value), v = some (.ref a1) ∧ Fr Z.heap.size L ∧ Keep h0 h [a1, vv] ∧ Exa Z h a1 sT2 ∧ Fld Z h a1 sT0 "coder" "B" (.int cd2) ∧ Fld Z h a1 sT0 "count" "I" (iv 18) ∧ Fld Z h a1 sT0 "maybeLatin1" "Z" (iv 0) ∧ Fld Z h a1 sT0 "value" "[B" (.ref v2) ∧ Arv Z h v2 k2 .byte z2 vd2 (.int 0) ∧ Exa Z h v2 "[B" ∧ (BU (bs ++ cs) 34 cd2 z2 vd2) ∧ ((bs ++ cs).length = 18) ∧ (v2 = vv ∨ h0.size ≤ v2)
theorem rm_sap2 (l : Launch) (Z : State) (a0 : Array Value) (hw : HW a0 Z) (zC : Int32) (vF : Value) (G : GB l a0 Z zC vF) (a1 : Addr) (vv : Addr) (kv : ClassId) (cdB : Int32) (zB : Int32) (vd : List Value) (a2 : Addr) (t : Addr) (kt : ClassId) (cdS : Int32) (zS : Int32) (us : List Value) (bs : List Int32) (cs : List Int32) (h0 : Heap) (O0 : Old Z Z.heap.size h0) (Qe : Exa Z h0 a1 sT2) (Qc : Fld Z h0 a1 sT0 "coder" "B" (.int cdB)) (Qn : Fld Z h0 a1 sT0 "count" "I" (iv 2)) (Qm : Fld Z h0 a1 sT0 "maybeLatin1" "Z" (iv 0)) (Qv : Fld Z h0 a1 sT0 "value" "[B" (.ref vv)) (Qa : Arv Z h0 vv kv .byte zB vd (.int 0)) (QE : Exa Z h0 vv "[B") (Qz : Z.heap.size ≤ a1) (Qy : Z.heap.size ≤ vv) (QB : (BU bs 16 cdB zB vd)) (Ql : (bs.length = 2)) (Pe : Exa Z h0 a2 sT1) (Pc : Fld Z h0 a2 sT1 "coder" "B" (.int cdS)) (Pv : Fld Z h0 a2 sT1 "value" "[B" (.ref t)) (Pa : Arv Z h0 t kt .byte zS us (.int 0)) (PS : (SB cs cdS zS us)) (Pl : (cs.length = 16)) (Pn : t ≠ vv) (P0 : (¬ (cdS = (1 : Int32)))) :
    Con l Z (⟨sT2, "append", "(Ljava/lang/String;)Ljava/lang/StringBuilder;"⟩ : MethodName) kC53 2 (some (.object sT2)) ({ frames := 8, cells := 1, slots := 68, locals := 119 } : Room) #[(.ref a1), (.ref a2)] h0 (Q_sap2 Z zC vF a1 vv kv cdB zB vd a2 t kt cdS zS us bs cs h0) := by
  refine Con.intro (plainFor_of_name pn5) ?_
  intro p e s m below meth c T0 X0 hx hby hml hown0 hnm hret hlk hZ0 e0
  have N0 := Fr.nil Z.heap.size
  refine castGo (g' := mkF m 0 #[.val (.ref a1), .val (.ref a2)] []) (by first | rfl | (simp [entryFrame, mkF, argsToLocals, Value.category]; done)) ?_
  show Go _ _ _ _ (T0.setTop (mkF m 0 #[.val (.ref a1), .val (.ref a2)] []))
  rcases QB with ⟨hB, rfl, rfl, rfl⟩ | ⟨hB, rfl, rfl, rfl⟩
  · rcases PS with ⟨hS, rfl, rfl, rfl⟩ | ⟨hS, rfl, rfl, rfl⟩
    · have Qa1 : Arv Z h0 vv kv .byte (16 : Int32) (bs.map lo8V ++ List.replicate (16 - bs.length) (.int 0)) (.int 0) := Qa
      have Pa1 : Arv Z h0 t kt .byte (16 : Int32) (cs.map lo8V) (.int 0) := by have q := Pa; rw [Pl] at q; exact q
      have lB : ((bs.map lo8V ++ List.replicate (16 - bs.length) (.int 0)) : List Value).length = 16 := by rw [List.length_append, List.length_map, List.length_replicate]; omega
      have lS : ((cs.map lo8V) : List Value).length = 16 := by rw [List.length_map, Pl]
      show Go _ _ _ _ (T0.setTop (mkF m 0 #[.val (.ref a1), .val (.ref a2)] []))
      refine aL X0 hx (hb hby e38_0) (q := 1) rfl rfl rfl ?_
      refine aL X0 hx (hb hby e38_1) (q := 2) rfl rfl rfl ?_
      refine g_su X0 hx hZ0 hown0 (wd65 hw) (same_self (wd66 hw) (wd85 hw) rfl (by decide)) (wd66 hw) (wd67 hw) (wd69 hw) (by decide) Qe e0 (Con.back (W := 0) (rm_aapLL2 l Z a0 hw zC vF G a1 vv kv (bs.map lo8V ++ List.replicate (16 - bs.length) (.int 0)) a2 t kt (cs.map lo8V) h0 O0 Qe Qc Qn Qm Qv Qa1 lB QE Qz Qy Pe Pc Pv Pa1 lS) hZ0 (wd69 hw) (wd52 hw) (by decide) (by decide)) (by rw [hml]; rfl) (lenOf pd23 rfl) rfl (Nat.le_of_eq rfl) (hb hby e38_2) (q := 5) rfl (by decide) (by decide) ?_
      intro v713 T713 L713 X713 Q713
      obtain ⟨c_713, kc_713, rfl, Nq713, K713q, q713_0, q713_1, q713_2, q713_3, q713_4, q713_5, q713_6, q713_7, q713_8⟩ := Q713
      have N713 := Fr.app N0 Nq713
      show Go _ _ _ _ (T713.setTop (mkF m 5 #[.val (.ref a1), .val (.ref a2)] [(.ref a1)]))
      refine g_pop X713 hx (hb hby e38_5) (q := 6) rfl rfl ?_
      refine aL X713 hx (hb hby e38_6) (q := 7) rfl rfl rfl ?_
      have K714 : Keep h0 T713.heap [a1, vv] := (Keep.refl h0 [a1, vv]).trans K713q (allS (Or.inl (by simp)) all0)
      have gh715 : h0.size ≤ c_713 := Nat.le_trans (Nat.le_refl _) q713_7
      refine endP X713 hlk (fun h => by rw [hret] at h; cases h) (lastA X713 hx hret rfl rfl rfl (hb hby e38_7)) ?_ (by decide) (by decide)
      refine ⟨c_713, kc_713, (0 : Int32), (34 : Int32), (ins (ins (List.replicate 34 (iv 0)) (sub (bs.map lo8V ++ List.replicate (16 - bs.length) (.int 0)) 0 16 (.int 0)) 0 16) (sub (cs.map lo8V) 0 16 (.int 0)) 2 16), ?_, ?_, ?_, ?_, ?_, ?_, ?_, ?_, ?_, ?_, ?_, ?_, ?_⟩
      · exact rfl
      · exact N713
      · exact K714
      · exact q713_0
      · exact q713_1
      · exact q713_2
      · exact q713_3
      · exact q713_4
      · exact q713_5
      · exact q713_8
      · exact (bu_LL (bs := bs) (cs := cs) (cap := 16) (to := 34) (c := 2) (n := 16) hB hS Ql Pl (by decide) (e_grow (A := bs.map lo8V) (e := (bs.map lo8V ++ List.replicate (16 - bs.length) (.int 0))) (a := 2) (cap := 16) (to := 34) (by rw [Ql]) (by rw [List.length_map]; exact Ql) (by decide) (by decide)))
      · exact (by rw [List.length_append, Ql, Pl])
      · exact (Or.inr gh715)
    · exact absurd rfl P0
  · rcases PS with ⟨hS, rfl, rfl, rfl⟩ | ⟨hS, rfl, rfl, rfl⟩
    · have Qa1 : Arv Z h0 vv kv .byte (32 : Int32) (flat bs ++ List.replicate (2 * 16 - 2 * bs.length) (.int 0)) (.int 0) := Qa
      have Pa1 : Arv Z h0 t kt .byte (16 : Int32) (cs.map lo8V) (.int 0) := by have q := Pa; rw [Pl] at q; exact q
      have lB : ((flat bs ++ List.replicate (2 * 16 - 2 * bs.length) (.int 0)) : List Value).length = 32 := by rw [List.length_append, flat_len, List.length_replicate]; omega
      have lS : ((cs.map lo8V) : List Value).length = 16 := by rw [List.length_map, Pl]
      show Go _ _ _ _ (T0.setTop (mkF m 0 #[.val (.ref a1), .val (.ref a2)] []))
      refine aL X0 hx (hb hby e38_0) (q := 1) rfl rfl rfl ?_
      refine aL X0 hx (hb hby e38_1) (q := 2) rfl rfl rfl ?_
      refine g_su X0 hx hZ0 hown0 (wd65 hw) (same_self (wd66 hw) (wd85 hw) rfl (by decide)) (wd66 hw) (wd67 hw) (wd69 hw) (by decide) Qe e0 (Con.back (W := 0) (rm_aapWL2 l Z a0 hw zC vF G a1 vv kv (flat bs ++ List.replicate (2 * 16 - 2 * bs.length) (.int 0)) a2 t kt (cs.map lo8V) cs h0 O0 Qe Qc Qn Qm Qv Qa1 lB QE Qz Qy Pe Pc Pv Pa1 lS (src_all hS Pl) Pn) hZ0 (wd69 hw) (wd52 hw) (by decide) (by decide)) (by rw [hml]; rfl) (lenOf pd23 rfl) rfl (Nat.le_of_eq rfl) (hb hby e38_2) (q := 5) rfl (by decide) (by decide) ?_
      intro v716 T716 L716 X716 Q716
      obtain ⟨c_716, kc_716, rfl, Nq716, K716q, q716_0, q716_1, q716_2, q716_3, q716_4, q716_5, q716_6, q716_7, q716_8⟩ := Q716
      have N716 := Fr.app N0 Nq716
      show Go _ _ _ _ (T716.setTop (mkF m 5 #[.val (.ref a1), .val (.ref a2)] [(.ref a1)]))
      refine g_pop X716 hx (hb hby e38_5) (q := 6) rfl rfl ?_
      refine aL X716 hx (hb hby e38_6) (q := 7) rfl rfl rfl ?_
      have K717 : Keep h0 T716.heap [a1, vv] := (Keep.refl h0 [a1, vv]).trans K716q (allS (Or.inl (by simp)) all0)
      have gh718 : h0.size ≤ c_716 := Nat.le_trans (Nat.le_refl _) q716_7
      refine endP X716 hlk (fun h => by rw [hret] at h; cases h) (lastA X716 hx hret rfl rfl rfl (hb hby e38_7)) ?_ (by decide) (by decide)
      refine ⟨c_716, kc_716, (1 : Int32), (68 : Int32), (ins (ins (List.replicate 68 (iv 0)) (sub (flat bs ++ List.replicate (2 * 16 - 2 * bs.length) (.int 0)) 0 32 (.int 0)) 0 32) (flat cs) (2 * 2) (2 * 16)), ?_, ?_, ?_, ?_, ?_, ?_, ?_, ?_, ?_, ?_, ?_, ?_, ?_⟩
      · exact rfl
      · exact N716
      · exact K717
      · exact q716_0
      · exact q716_1
      · exact q716_2
      · exact q716_3
      · exact q716_4
      · exact q716_5
      · exact q716_8
      · exact (bu_W (bs := bs) (cs := cs) (to := 34) (c := 2) (n := 16) (wd_app (Or.inl ⟨hB, Or.inl hS⟩)) Ql Pl (by decide) (e_grow (A := flat bs) (e := (flat bs ++ List.replicate (2 * 16 - 2 * bs.length) (.int 0))) (a := 2 * 2) (cap := 32) (to := 68) (show (flat bs ++ List.replicate (2 * 16 - 2 * bs.length) (.int 0)) = flat bs ++ List.replicate (32 - 2 * 2) (.int 0) from by rw [Ql]) (by rw [flat_len, Ql]) (by decide) (by decide)) rfl rfl rfl)
      · exact (by rw [List.length_append, Ql, Pl])
      · exact (Or.inr gh718)
    · exact absurd rfl P0
def Q_sapn (Z : State) (zC : Int32) (vF : Value) (a1 : Addr) (vv : Addr) (kv : ClassId) (cdB : Int32) (zB : Int32) (vd : List Value) (a2 : Addr) (t : Addr) (kt : ClassId) (cdS : Int32) (zS : Int32) (us : List Value) (bs : List Int32) (cs : List Int32) (pc : Nat) (pn : Nat) (h0 : Heap) (v : Option Value) (h : Heap) (L : List Loc) : Prop := ∃ (v2 : Addr), ∃ (k2 : ClassId), ∃ (cd2 : Int32), ∃ (z2 : Int32), ∃ (vd2 : List Value), v = some (.ref a1) ∧ Fr Z.heap.size L ∧ Keep h0 h [a1, vv] ∧ Exa Z h a1 sT2 ∧ Fld Z h a1 sT0 "coder" "B" (.int cd2) ∧ Fld Z h a1 sT0 "count" "I" (.int (Int32.ofNat (pc + pn))) ∧ Fld Z h a1 sT0 "maybeLatin1" "Z" (iv 0) ∧ Fld Z h a1 sT0 "value" "[B" (.ref v2) ∧ Arv Z h v2 k2 .byte z2 vd2 (.int 0) ∧ Exa Z h v2 "[B" ∧ (BU (bs ++ cs) 34 cd2 z2 vd2) ∧ ((bs ++ cs).length = (pc + pn)) ∧ (v2 = vv ∨ h0.size ≤ v2)
theorem rm_sapn (l : Launch) (Z : State) (a0 : Array Value) (hw : HW a0 Z) (zC : Int32) (vF : Value) (G : GB l a0 Z zC vF) (a1 : Addr) (vv : Addr) (kv : ClassId) (cdB : Int32) (zB : Int32) (vd : List Value) (a2 : Addr) (t : Addr) (kt : ClassId) (cdS : Int32) (zS : Int32) (us : List Value) (bs : List Int32) (cs : List Int32) (pc : Nat) (pn : Nat) (h0 : Heap) (O0 : Old Z Z.heap.size h0) (Qe : Exa Z h0 a1 sT2) (Qc : Fld Z h0 a1 sT0 "coder" "B" (.int cdB)) (Qn : Fld Z h0 a1 sT0 "count" "I" (.int (Int32.ofNat pc))) (Qm : Fld Z h0 a1 sT0 "maybeLatin1" "Z" (iv 0)) (Qv : Fld Z h0 a1 sT0 "value" "[B" (.ref vv)) (Qa : Arv Z h0 vv kv .byte zB vd (.int 0)) (QE : Exa Z h0 vv "[B") (Qz : Z.heap.size ≤ a1) (Qy : Z.heap.size ≤ vv) (QB : (BU bs 34 cdB zB vd)) (Ql : (bs.length = pc)) (Pe : Exa Z h0 a2 sT1) (Pc : Fld Z h0 a2 sT1 "coder" "B" (.int cdS)) (Pv : Fld Z h0 a2 sT1 "value" "[B" (.ref t)) (Pa : Arv Z h0 t kt .byte zS us (.int 0)) (PS : (SB cs cdS zS us)) (Pl : (cs.length = pn)) (Pn : t ≠ vv) (Hc : (pc + pn ≤ 34)) :
    Con l Z (⟨sT2, "append", "(Ljava/lang/String;)Ljava/lang/StringBuilder;"⟩ : MethodName) kC53 2 (some (.object sT2)) ({ frames := 9, cells := 1, slots := 68, locals := 130 } : Room) #[(.ref a1), (.ref a2)] h0 (Q_sapn Z zC vF a1 vv kv cdB zB vd a2 t kt cdS zS us bs cs pc pn h0) := by
  refine Con.intro (plainFor_of_name pn5) ?_
  intro p e s m below meth c T0 X0 hx hby hml hown0 hnm hret hlk hZ0 e0
  have N0 := Fr.nil Z.heap.size
  refine castGo (g' := mkF m 0 #[.val (.ref a1), .val (.ref a2)] []) (by first | rfl | (simp [entryFrame, mkF, argsToLocals, Value.category]; done)) ?_
  show Go _ _ _ _ (T0.setTop (mkF m 0 #[.val (.ref a1), .val (.ref a2)] []))
  rcases QB with ⟨hB, rfl, rfl, rfl⟩ | ⟨hB, rfl, rfl, rfl⟩
  · rcases PS with ⟨hS, rfl, rfl, rfl⟩ | ⟨hS, rfl, rfl, rfl⟩
    · have Qa1 : Arv Z h0 vv kv .byte (34 : Int32) (bs.map lo8V ++ List.replicate (34 - bs.length) (.int 0)) (.int 0) := Qa
      have Pa1 : Arv Z h0 t kt .byte (Int32.ofNat pn) (cs.map lo8V) (.int 0) := by rw [← Pl]; exact Pa
      have lB : ((bs.map lo8V ++ List.replicate (34 - bs.length) (.int 0)) : List Value).length = 34 := by rw [List.length_append, List.length_map, List.length_replicate]; omega
      have lS : ((cs.map lo8V) : List Value).length = pn := by rw [List.length_map, Pl]
      show Go _ _ _ _ (T0.setTop (mkF m 0 #[.val (.ref a1), .val (.ref a2)] []))
      refine aL X0 hx (hb hby e38_0) (q := 1) rfl rfl rfl ?_
      refine aL X0 hx (hb hby e38_1) (q := 2) rfl rfl rfl ?_
      refine g_su X0 hx hZ0 hown0 (wd65 hw) (same_self (wd66 hw) (wd85 hw) rfl (by decide)) (wd66 hw) (wd67 hw) (wd69 hw) (by decide) Qe e0 (Con.back (W := 0) (rm_aapLLn l Z a0 hw zC vF G a1 vv kv (bs.map lo8V ++ List.replicate (34 - bs.length) (.int 0)) a2 t kt (cs.map lo8V) pc pn h0 O0 Qe Qc Qn Qm Qv Qa1 lB QE Qz Qy Pe Pc Pv Pa1 lS Hc) hZ0 (wd69 hw) (wd52 hw) (by decide) (by decide)) (by rw [hml]; rfl) (lenOf pd23 rfl) rfl (Nat.le_of_eq rfl) (hb hby e38_2) (q := 5) rfl (by decide) (by decide) ?_
      intro v719 T719 L719 X719 Q719
      obtain ⟨rfl, Nq719, K719q, q719_0, q719_1, q719_2, q719_3, q719_4, q719_5, q719_6⟩ := Q719
      have N719 := Fr.app N0 Nq719
      show Go _ _ _ _ (T719.setTop (mkF m 5 #[.val (.ref a1), .val (.ref a2)] [(.ref a1)]))
      refine g_pop X719 hx (hb hby e38_5) (q := 6) rfl rfl ?_
      refine aL X719 hx (hb hby e38_6) (q := 7) rfl rfl rfl ?_
      have K720 : Keep h0 T719.heap [a1, vv] := (Keep.refl h0 [a1, vv]).trans K719q (allS (Or.inl (by simp)) (allS (Or.inl (by simp)) all0))
      have f721 := QE.keep K719q
      refine endP X719 hlk (fun h => by rw [hret] at h; cases h) (lastA X719 hx hret rfl rfl rfl (hb hby e38_7)) ?_ (by decide) (by decide)
      refine ⟨vv, kv, (0 : Int32), (34 : Int32), (ins (bs.map lo8V ++ List.replicate (34 - bs.length) (.int 0)) (sub (cs.map lo8V) 0 pn (.int 0)) pc pn), ?_, ?_, ?_, ?_, ?_, ?_, ?_, ?_, ?_, ?_, ?_, ?_, ?_⟩
      · exact rfl
      · exact N719
      · exact K720
      · exact q719_0
      · exact q719_1
      · exact q719_2
      · exact q719_3
      · exact q719_4
      · exact q719_5
      · exact f721
      · exact (bu_LL (bs := bs) (cs := cs) (cap := 34) (to := 34) (c := pc) (n := pn) hB hS Ql Pl (by omega) (by rw [Ql]))
      · exact (by rw [List.length_append, Ql, Pl])
      · exact (Or.inl rfl)
    · have Qa1 : Arv Z h0 vv kv .byte (34 : Int32) (bs.map lo8V ++ List.replicate (34 - bs.length) (.int 0)) (.int 0) := Qa
      have Pa1 : Arv Z h0 t kt .byte (Int32.ofNat (2 * pn)) (flat cs) (.int 0) := by rw [← Pl]; exact Pa
      have lB : ((bs.map lo8V ++ List.replicate (34 - bs.length) (.int 0)) : List Value).length = 34 := by rw [List.length_append, List.length_map, List.length_replicate]; omega
      have lS : ((flat cs) : List Value).length = (2 * pn) := by rw [flat_len, Pl]
      show Go _ _ _ _ (T0.setTop (mkF m 0 #[.val (.ref a1), .val (.ref a2)] []))
      refine aL X0 hx (hb hby e38_0) (q := 1) rfl rfl rfl ?_
      refine aL X0 hx (hb hby e38_1) (q := 2) rfl rfl rfl ?_
      refine g_su X0 hx hZ0 hown0 (wd65 hw) (same_self (wd66 hw) (wd85 hw) rfl (by decide)) (wd66 hw) (wd67 hw) (wd69 hw) (by decide) Qe e0 (Con.back (W := 0) (rm_aapLWn l Z a0 hw zC vF G a1 vv kv (bs.map lo8V ++ List.replicate (34 - bs.length) (.int 0)) a2 t kt (flat cs) bs pc pn h0 O0 Qe Qc Qn Qm Qv Qa1 lB QE Qz Qy Pe Pc Pv Pa1 lS (src_of hB Ql) Hc) hZ0 (wd69 hw) (wd52 hw) (by decide) (by decide)) (by rw [hml]; rfl) (lenOf pd23 rfl) rfl (Nat.le_of_eq rfl) (hb hby e38_2) (q := 5) rfl (by decide) (by decide) ?_
      intro v722 T722 L722 X722 Q722
      obtain ⟨c_722, kc_722, rfl, Nq722, K722q, q722_0, q722_1, q722_2, q722_3, q722_4, q722_5, q722_6, q722_7, q722_8⟩ := Q722
      have N722 := Fr.app N0 Nq722
      show Go _ _ _ _ (T722.setTop (mkF m 5 #[.val (.ref a1), .val (.ref a2)] [(.ref a1)]))
      refine g_pop X722 hx (hb hby e38_5) (q := 6) rfl rfl ?_
      refine aL X722 hx (hb hby e38_6) (q := 7) rfl rfl rfl ?_
      have K723 : Keep h0 T722.heap [a1, vv] := (Keep.refl h0 [a1, vv]).trans K722q (allS (Or.inl (by simp)) all0)
      have gh724 : h0.size ≤ c_722 := Nat.le_trans (Nat.le_refl _) q722_7
      refine endP X722 hlk (fun h => by rw [hret] at h; cases h) (lastA X722 hx hret rfl rfl rfl (hb hby e38_7)) ?_ (by decide) (by decide)
      refine ⟨c_722, kc_722, (1 : Int32), (68 : Int32), (ins (ins (List.replicate (2 * 34) (.int 0)) (flat bs) (2 * 0) (2 * pc)) (sub (flat cs) 0 (2 * pn) (.int 0)) (2 * pc) (2 * pn)), ?_, ?_, ?_, ?_, ?_, ?_, ?_, ?_, ?_, ?_, ?_, ?_, ?_⟩
      · exact rfl
      · exact N722
      · exact K723
      · exact q722_0
      · exact q722_1
      · exact q722_2
      · exact q722_3
      · exact q722_4
      · exact q722_5
      · exact q722_8
      · exact (bu_W (bs := bs) (cs := cs) (to := 34) (c := pc) (n := pn) (wd_app (Or.inr ⟨hB, hS⟩)) Ql Pl (by omega) (e_infl Ql (by omega)) (sub_all (by rw [flat_len, Pl])) rfl rfl)
      · exact (by rw [List.length_append, Ql, Pl])
      · exact (Or.inr gh724)
  · rcases PS with ⟨hS, rfl, rfl, rfl⟩ | ⟨hS, rfl, rfl, rfl⟩
    · have Qa1 : Arv Z h0 vv kv .byte (68 : Int32) (flat bs ++ List.replicate (2 * 34 - 2 * bs.length) (.int 0)) (.int 0) := Qa
      have Pa1 : Arv Z h0 t kt .byte (Int32.ofNat pn) (cs.map lo8V) (.int 0) := by rw [← Pl]; exact Pa
      have lB : ((flat bs ++ List.replicate (2 * 34 - 2 * bs.length) (.int 0)) : List Value).length = 68 := by rw [List.length_append, flat_len, List.length_replicate]; omega
      have lS : ((cs.map lo8V) : List Value).length = pn := by rw [List.length_map, Pl]
      show Go _ _ _ _ (T0.setTop (mkF m 0 #[.val (.ref a1), .val (.ref a2)] []))
      refine aL X0 hx (hb hby e38_0) (q := 1) rfl rfl rfl ?_
      refine aL X0 hx (hb hby e38_1) (q := 2) rfl rfl rfl ?_
      refine g_su X0 hx hZ0 hown0 (wd65 hw) (same_self (wd66 hw) (wd85 hw) rfl (by decide)) (wd66 hw) (wd67 hw) (wd69 hw) (by decide) Qe e0 (Con.back (W := 0) (rm_aapWLn l Z a0 hw zC vF G a1 vv kv (flat bs ++ List.replicate (2 * 34 - 2 * bs.length) (.int 0)) a2 t kt (cs.map lo8V) cs pc pn h0 O0 Qe Qc Qn Qm Qv Qa1 lB QE Qz Qy Pe Pc Pv Pa1 lS (src_all hS Pl) Pn Hc) hZ0 (wd69 hw) (wd52 hw) (by decide) (by decide)) (by rw [hml]; rfl) (lenOf pd23 rfl) rfl (Nat.le_of_eq rfl) (hb hby e38_2) (q := 5) rfl (by decide) (by decide) ?_
      intro v725 T725 L725 X725 Q725
      obtain ⟨rfl, Nq725, K725q, q725_0, q725_1, q725_2, q725_3, q725_4, q725_5, q725_6⟩ := Q725
      have N725 := Fr.app N0 Nq725
      show Go _ _ _ _ (T725.setTop (mkF m 5 #[.val (.ref a1), .val (.ref a2)] [(.ref a1)]))
      refine g_pop X725 hx (hb hby e38_5) (q := 6) rfl rfl ?_
      refine aL X725 hx (hb hby e38_6) (q := 7) rfl rfl rfl ?_
      have K726 : Keep h0 T725.heap [a1, vv] := (Keep.refl h0 [a1, vv]).trans K725q (allS (Or.inl (by simp)) (allS (Or.inl (by simp)) all0))
      have f727 := QE.keep K725q
      refine endP X725 hlk (fun h => by rw [hret] at h; cases h) (lastA X725 hx hret rfl rfl rfl (hb hby e38_7)) ?_ (by decide) (by decide)
      refine ⟨vv, kv, (1 : Int32), (68 : Int32), (ins (flat bs ++ List.replicate (2 * 34 - 2 * bs.length) (.int 0)) (flat cs) (2 * pc) (2 * pn)), ?_, ?_, ?_, ?_, ?_, ?_, ?_, ?_, ?_, ?_, ?_, ?_, ?_⟩
      · exact rfl
      · exact N725
      · exact K726
      · exact q725_0
      · exact q725_1
      · exact q725_2
      · exact q725_3
      · exact q725_4
      · exact q725_5
      · exact f727
      · exact (bu_W (bs := bs) (cs := cs) (to := 34) (c := pc) (n := pn) (wd_app (Or.inl ⟨hB, Or.inl hS⟩)) Ql Pl (by omega) (by rw [Ql]) rfl rfl rfl)
      · exact (by rw [List.length_append, Ql, Pl])
      · exact (Or.inl rfl)
    · have Qa1 : Arv Z h0 vv kv .byte (68 : Int32) (flat bs ++ List.replicate (2 * 34 - 2 * bs.length) (.int 0)) (.int 0) := Qa
      have Pa1 : Arv Z h0 t kt .byte (Int32.ofNat (2 * pn)) (flat cs) (.int 0) := by rw [← Pl]; exact Pa
      have lB : ((flat bs ++ List.replicate (2 * 34 - 2 * bs.length) (.int 0)) : List Value).length = 68 := by rw [List.length_append, flat_len, List.length_replicate]; omega
      have lS : ((flat cs) : List Value).length = (2 * pn) := by rw [flat_len, Pl]
      show Go _ _ _ _ (T0.setTop (mkF m 0 #[.val (.ref a1), .val (.ref a2)] []))
      refine aL X0 hx (hb hby e38_0) (q := 1) rfl rfl rfl ?_
      refine aL X0 hx (hb hby e38_1) (q := 2) rfl rfl rfl ?_
      refine g_su X0 hx hZ0 hown0 (wd65 hw) (same_self (wd66 hw) (wd85 hw) rfl (by decide)) (wd66 hw) (wd67 hw) (wd69 hw) (by decide) Qe e0 (Con.back (W := 0) (rm_aapWWn l Z a0 hw zC vF G a1 vv kv (flat bs ++ List.replicate (2 * 34 - 2 * bs.length) (.int 0)) a2 t kt (flat cs) pc pn h0 O0 Qe Qc Qn Qm Qv Qa1 lB QE Qz Qy Pe Pc Pv Pa1 lS Hc) hZ0 (wd69 hw) (wd52 hw) (by decide) (by decide)) (by rw [hml]; rfl) (lenOf pd23 rfl) rfl (Nat.le_of_eq rfl) (hb hby e38_2) (q := 5) rfl (by decide) (by decide) ?_
      intro v728 T728 L728 X728 Q728
      obtain ⟨rfl, Nq728, K728q, q728_0, q728_1, q728_2, q728_3, q728_4, q728_5, q728_6⟩ := Q728
      have N728 := Fr.app N0 Nq728
      show Go _ _ _ _ (T728.setTop (mkF m 5 #[.val (.ref a1), .val (.ref a2)] [(.ref a1)]))
      refine g_pop X728 hx (hb hby e38_5) (q := 6) rfl rfl ?_
      refine aL X728 hx (hb hby e38_6) (q := 7) rfl rfl rfl ?_
      have K729 : Keep h0 T728.heap [a1, vv] := (Keep.refl h0 [a1, vv]).trans K728q (allS (Or.inl (by simp)) (allS (Or.inl (by simp)) all0))
      have f730 := QE.keep K728q
      refine endP X728 hlk (fun h => by rw [hret] at h; cases h) (lastA X728 hx hret rfl rfl rfl (hb hby e38_7)) ?_ (by decide) (by decide)
      refine ⟨vv, kv, (1 : Int32), (68 : Int32), (ins (flat bs ++ List.replicate (2 * 34 - 2 * bs.length) (.int 0)) (sub (flat cs) 0 (2 * pn) (.int 0)) (2 * pc) (2 * pn)), ?_, ?_, ?_, ?_, ?_, ?_, ?_, ?_, ?_, ?_, ?_, ?_, ?_⟩
      · exact rfl
      · exact N728
      · exact K729
      · exact q728_0
      · exact q728_1
      · exact q728_2
      · exact q728_3
      · exact q728_4
      · exact q728_5
      · exact f730
      · exact (bu_W (bs := bs) (cs := cs) (to := 34) (c := pc) (n := pn) (wd_app (Or.inl ⟨hB, Or.inr hS⟩)) Ql Pl (by omega) (by rw [Ql]) (sub_all (by rw [flat_len, Pl])) rfl rfl)
      · exact (by rw [List.length_append, Ql, Pl])
      · exact (Or.inl rfl)
theorem e45_0 : decode kC36 0 = .ok (.aload_n 0, 1) := by decide +kernel
theorem e45_1 : decode kC36 1 = .ok (.getfield 15, 3) := by decide +kernel
theorem e45_4 : decode kC36 4 = .ok (.areturn, 1) := by decide +kernel
def Q_gval (Z : State) (zC : Int32) (vF : Value) (a1 : Addr) (vv : Addr) (h0 : Heap) (v : Option Value) (h : Heap) (L : List Loc) : Prop := v = some (.ref vv) ∧ Fr Z.heap.size L ∧ h = h0
theorem rm_gval (l : Launch) (Z : State) (a0 : Array Value) (hw : HW a0 Z) (zC : Int32) (vF : Value) (G : GB l a0 Z zC vF) (a1 : Addr) (vv : Addr) (h0 : Heap) (O0 : Old Z Z.heap.size h0) (P1 : Fld Z h0 a1 sT0 "value" "[B" (.ref vv)) :
    Con l Z (⟨sT0, "getValue", "()[B"⟩ : MethodName) kC36 1 (some (.array .byte)) ({ frames := 0, cells := 0, slots := 0, locals := 0 } : Room) #[(.ref a1)] h0 (Q_gval Z zC vF a1 vv h0) := by
  refine Con.intro (plainFor_of_name pn4) ?_
  intro p e s m below meth c T0 X0 hx hby hml hown0 hnm hret hlk hZ0 e0
  have N0 := Fr.nil Z.heap.size
  refine castGo (g' := mkF m 0 #[.val (.ref a1)] []) (by first | rfl | (simp [entryFrame, mkF, argsToLocals, Value.category]; done)) ?_
  show Go _ _ _ _ (T0.setTop (mkF m 0 #[.val (.ref a1)] []))
  refine aL X0 hx (hb hby e45_0) (q := 1) rfl rfl rfl ?_
  refine g_getF X0 hx hZ0 hown0 (host := "") (Or.inl (wd56 hw)) Via.refl P1 e0 (hb hby e45_1) (q := 4) rfl ?_
  intro T731 X731 e731
  refine endP X731 hlk (fun h => by rw [hret] at h; cases h) (lastA X731 hx hret rfl rfl rfl (hb hby e45_4)) ?_ (by decide) (by decide)
  rw [e731]
  exact ⟨rfl, N0, rfl⟩
theorem e44_0 : decode kC54 0 = .ok (.aload_n 0, 1) := by decide +kernel
theorem e44_1 : decode kC54 1 = .ok (.getfield 79, 3) := by decide +kernel
theorem e44_4 : decode kC54 4 = .ok (.ireturn, 1) := by decide +kernel
def Q_asbl (Z : State) (zC : Int32) (vF : Value) (a1 : Addr) (c0 : Int32) (h0 : Heap) (v : Option Value) (h : Heap) (L : List Loc) : Prop := v = some (.int c0) ∧ Fr Z.heap.size L ∧ h = h0
theorem rm_asbl (l : Launch) (Z : State) (a0 : Array Value) (hw : HW a0 Z) (zC : Int32) (vF : Value) (G : GB l a0 Z zC vF) (a1 : Addr) (c0 : Int32) (h0 : Heap) (O0 : Old Z Z.heap.size h0) (P1 : Fld Z h0 a1 sT0 "count" "I" (.int c0)) :
    Con l Z (⟨sT0, "length", "()I"⟩ : MethodName) kC54 1 (some .int) ({ frames := 0, cells := 0, slots := 0, locals := 0 } : Room) #[(.ref a1)] h0 (Q_asbl Z zC vF a1 c0 h0) := by
  refine Con.intro (plainFor_of_name pn4) ?_
  intro p e s m below meth c T0 X0 hx hby hml hown0 hnm hret hlk hZ0 e0
  have N0 := Fr.nil Z.heap.size
  refine castGo (g' := mkF m 0 #[.val (.ref a1)] []) (by first | rfl | (simp [entryFrame, mkF, argsToLocals, Value.category]; done)) ?_
  show Go _ _ _ _ (T0.setTop (mkF m 0 #[.val (.ref a1)] []))
  refine aL X0 hx (hb hby e44_0) (q := 1) rfl rfl rfl ?_
  refine g_getF X0 hx hZ0 hown0 (host := "") (Or.inl (wd80 hw)) Via.refl P1 e0 (hb hby e44_1) (q := 4) rfl ?_
  intro T732 X732 e732
  refine endP X732 hlk (fun h => by rw [hret] at h; cases h) (lastI X732 hx hret (hb hby e44_4)) ?_ (by decide) (by decide)
  rw [e732]
  exact ⟨rfl, N0, rfl⟩
theorem e39_0 : decode kC37 0 = .ok (.aload_n 0, 1) := by decide +kernel
theorem e39_1 : decode kC37 1 = .ok (.invokespecial 343, 3) := by decide +kernel
theorem wd158 (hw : HW a0 Z) : BW a0 Z (.code ⟨sT0, "length", "()I"⟩ kC54 (1 : Nat) (Option.some Jvm.ClassFile.FieldType.int)) := wat hw 158 rfl
theorem wd153 (hw : HW a0 Z) : BW a0 Z (.instanceMethod ⟨sT0, "length", "()I"⟩) := wat hw 153 rfl
theorem wd157 (hw : HW a0 Z) : BW a0 Z (.methodLink sT2 (343 : Nat) ⟨sT0, "length", "()I"⟩) := wat hw 157 rfl
theorem e39_4 : decode kC37 4 = .ok (.ireturn, 1) := by decide +kernel
def Q_sbl (Z : State) (zC : Int32) (vF : Value) (a1 : Addr) (c0 : Int32) (h0 : Heap) (v : Option Value) (h : Heap) (L : List Loc) : Prop := v = some (.int c0) ∧ Fr Z.heap.size L ∧ h = h0
theorem rm_sbl (l : Launch) (Z : State) (a0 : Array Value) (hw : HW a0 Z) (zC : Int32) (vF : Value) (G : GB l a0 Z zC vF) (a1 : Addr) (c0 : Int32) (h0 : Heap) (O0 : Old Z Z.heap.size h0) (P0 : Exa Z h0 a1 sT2) (P1 : Fld Z h0 a1 sT0 "count" "I" (.int c0)) :
    Con l Z (⟨sT2, "length", "()I"⟩ : MethodName) kC37 1 (some .int) ({ frames := 1, cells := 0, slots := 0, locals := 12 } : Room) #[(.ref a1)] h0 (Q_sbl Z zC vF a1 c0 h0) := by
  refine Con.intro (plainFor_of_name pn5) ?_
  intro p e s m below meth c T0 X0 hx hby hml hown0 hnm hret hlk hZ0 e0
  have N0 := Fr.nil Z.heap.size
  refine castGo (g' := mkF m 0 #[.val (.ref a1)] []) (by first | rfl | (simp [entryFrame, mkF, argsToLocals, Value.category]; done)) ?_
  show Go _ _ _ _ (T0.setTop (mkF m 0 #[.val (.ref a1)] []))
  refine aL X0 hx (hb hby e39_0) (q := 1) rfl rfl rfl ?_
  refine g_su X0 hx hZ0 hown0 (wd157 hw) (same_self (wd153 hw) (wd85 hw) rfl (by decide)) (wd153 hw) (wd67 hw) (wd158 hw) (by decide) P0 e0 (Con.back (W := 0) (rm_asbl l Z a0 hw zC vF G a1 c0 h0 O0 P1) hZ0 (wd158 hw) (wd52 hw) (by decide) (by decide)) (by rw [hml]; rfl) (lenOf pd17 rfl) rfl (Nat.le_of_eq rfl) (hb hby e39_1) (q := 4) rfl (by decide) (by decide) ?_
  intro v733 T733 L733 X733 Q733
  obtain ⟨rfl, Nq733, e733⟩ := Q733
  have N733 := Fr.app N0 Nq733
  show Go _ _ _ _ (T733.setTop (mkF m 4 #[.val (.ref a1)] [(.int c0)]))
  refine endP X733 hlk (fun h => by rw [hret] at h; cases h) (lastI X733 hx hret (hb hby e39_4)) ?_ (by decide) (by decide)
  rw [e733]
  exact ⟨rfl, N733, rfl⟩
theorem e35_0 : decode kC5 0 = .ok (.iload_n 1, 1) := by decide +kernel
theorem e35_1 : decode kC5 1 = .ok (.ifCond .ne 9, 3) := by decide +kernel
theorem e35_4 : decode kC5 4 = .ok (.iload_n 2, 1) := by decide +kernel
theorem e35_5 : decode kC5 5 = .ok (.aload_n 0, 1) := by decide +kernel
theorem e35_6 : decode kC5 6 = .ok (.arraylength, 1) := by decide +kernel
theorem e35_7 : decode kC5 7 = .ok (.if_icmp .eq 10, 3) := by decide +kernel
theorem e35_17 : decode kC5 17 = .ok (.aload_n 0, 1) := by decide +kernel
theorem e35_18 : decode kC5 18 = .ok (.invokevirtual 310, 3) := by decide +kernel
theorem wd167 (hw : HW a0 Z) : BW a0 Z (.methodLink "java/util/Arrays" (310 : Nat) ⟨"[B", "clone", "()Ljava/lang/Object;"⟩) := wat hw 167 rfl
theorem wd168 (hw : HW a0 Z) : BW a0 Z (.sameMethod "[B" "java/lang/Object" "clone" "()Ljava/lang/Object;") := wat hw 168 rfl
theorem wd172 (hw : HW a0 Z) : BW a0 Z (.native ⟨"java/lang/Object", "clone", "()Ljava/lang/Object;"⟩) := wat hw 172 rfl
theorem wd170 (hw : HW a0 Z) : BW a0 Z (.instanceMethod ⟨"java/lang/Object", "clone", "()Ljava/lang/Object;"⟩) := wat hw 170 rfl
theorem wd171 (hw : HW a0 Z) : BW a0 Z (.selects "[B" ⟨"[B", "clone", "()Ljava/lang/Object;"⟩ ⟨"java/lang/Object", "clone", "()Ljava/lang/Object;"⟩) := wat hw 171 rfl
theorem wd173 (hw : HW a0 Z) : BW a0 Z (.castable "[B" "java/lang/Cloneable") := wat hw 173 rfl
theorem e35_21 : decode kC5 21 = .ok (.checkcast 311, 3) := by decide +kernel
theorem wd174 (hw : HW a0 Z) : BW a0 Z (.classLink "java/util/Arrays" (311 : Nat) "[B") := wat hw 174 rfl
theorem e35_24 : decode kC5 24 = .ok (.areturn, 1) := by decide +kernel
def Q_cor0 (Z : State) (zC : Int32) (vF : Value) (vv : Addr) (kv : ClassId) (vd : List Value) (h0 : Heap) (v : Option Value) (h : Heap) (L : List Loc) : Prop := ∃ (c : Addr), ∃ (kc : ClassId), v = some (.ref c) ∧ Fr Z.heap.size L ∧ Keep h0 h [] ∧ h0.size ≤ c ∧ Arv Z h c kc .byte (34 : Int32) vd (.int 0) ∧ Exa Z h c "[B"
theorem rm_cor0 (l : Launch) (Z : State) (a0 : Array Value) (hw : HW a0 Z) (zC : Int32) (vF : Value) (G : GB l a0 Z zC vF) (vv : Addr) (kv : ClassId) (vd : List Value) (h0 : Heap) (O0 : Old Z Z.heap.size h0) (Qa : Arv Z h0 vv kv .byte (34 : Int32) vd (.int 0)) (QE : Exa Z h0 vv "[B") :
    Con l Z (⟨"java/util/Arrays", "copyOfRange", "([BII)[B"⟩ : MethodName) kC5 3 (some (.array .byte)) ({ frames := 1, cells := 1, slots := 34, locals := 14 } : Room) #[(.ref vv), (iv 0), (iv 34)] h0 (Q_cor0 Z zC vF vv kv vd h0) := by
  refine Con.intro (plainFor_of_name pn9) ?_
  intro p e s m below meth c T0 X0 hx hby hml hown0 hnm hret hlk hZ0 e0
  have N0 := Fr.nil Z.heap.size
  refine castGo (g' := mkF m 0 #[.val (.ref vv), .val (iv 0), .val (iv 34)] []) (by first | rfl | (simp [entryFrame, mkF, argsToLocals, Value.category]; done)) ?_
  show Go _ _ _ _ (T0.setTop (mkF m 0 #[.val (.ref vv), .val (iv 0), .val (iv 34)] []))
  refine iL X0 hx (hb hby e35_0) (q := 1) rfl rfl ?_
  refine ifN X0 hx (hb hby e35_1) (q := 4) rfl (by decide) ?_
  refine iL X0 hx (hb hby e35_4) (q := 5) rfl rfl ?_
  refine aL X0 hx (hb hby e35_5) (q := 6) rfl rfl rfl ?_
  refine g_len X0 hx hZ0 Qa e0 (hb hby e35_6) (q := 7) rfl ?_
  refine icY X0 hx (hb hby e35_7) (q := 17) (by decide) (by decide) (by decide) ?_
  refine aL X0 hx (hb hby e35_17) (q := 18) rfl rfl rfl ?_
  refine g_clone X0 hx hZ0 hown0 (wd167 hw) (wd168 hw) (wd172 hw) (wd170 hw) (wd171 hw) (wd173 hw) Qa QE (by rw [hml]; rfl) (by decide) (W := 0) (cap := 34) (Nat.le_of_eq rfl) (by decide) (by decide) (by decide) (by decide) e0 (hb hby e35_18) (q := 21) rfl ?_
  intro T734 h734 b734 g734 X734 e734 E734 V734 A734
  refine g_cast X734 hx hZ0 hown0 (wd174 hw) (Ins.self A734) e734 (hb hby e35_21) (q := 24) rfl ?_
  intro T735 X735 e735
  have K736 : Keep h0 h734 [] := (Keep.refl h0 []).ext E734
  have gh737 : h0.size ≤ b734 := Nat.le_trans (Nat.le_refl _) (Nat.le_of_eq g734.symm)
  refine endP X735 hlk (fun h => by rw [hret] at h; cases h) (lastA X735 hx hret rfl rfl rfl (hb hby e35_24)) ?_ (by decide) (by decide)
  rw [e735]
  exact ⟨b734, kv, rfl, N0, K736, gh737, V734, A734⟩
theorem e6_0 : decode kC8 0 = .ok (.aload_n 0, 1) := by decide +kernel
theorem e6_1 : decode kC8 1 = .ok (.invokespecial 1, 3) := by decide +kernel
theorem e6_4 : decode kC8 4 = .ok (.aload_n 1, 1) := by decide +kernel
theorem e6_5 : decode kC8 5 = .ok (.invokevirtual 552, 3) := by decide +kernel
theorem wd150 (hw : HW a0 Z) : BW a0 Z (.code ⟨sT0, "getValue", "()[B"⟩ kC36 (1 : Nat) (Option.some (Jvm.ClassFile.FieldType.array Jvm.ClassFile.FieldType.byte))) := wat hw 150 rfl
theorem pd24 : parseMethodDescriptor "()[B" = some ⟨[], some (.array .byte)⟩ := by decide +kernel
theorem wd149 (hw : HW a0 Z) : BW a0 Z (.selects sT2 ⟨sT0, "getValue", "()[B"⟩ ⟨sT0, "getValue", "()[B"⟩) := wat hw 149 rfl
theorem wd146 (hw : HW a0 Z) : BW a0 Z (.methodLink sT1 (552 : Nat) ⟨sT0, "getValue", "()[B"⟩) := wat hw 146 rfl
theorem wd147 (hw : HW a0 Z) : BW a0 Z (.declares ⟨sT0, "getValue", "()[B"⟩) := wat hw 147 rfl
theorem wd148 (hw : HW a0 Z) : BW a0 Z (.instanceMethod ⟨sT0, "getValue", "()[B"⟩) := wat hw 148 rfl
theorem e6_8 : decode kC8 8 = .ok (.astore_n 3, 1) := by decide +kernel
theorem e6_9 : decode kC8 9 = .ok (.aload_n 1, 1) := by decide +kernel
theorem e6_10 : decode kC8 10 = .ok (.invokevirtual 549, 3) := by decide +kernel
theorem wd156 (hw : HW a0 Z) : BW a0 Z (.code ⟨sT2, "length", "()I"⟩ kC37 (1 : Nat) (Option.some Jvm.ClassFile.FieldType.int)) := wat hw 156 rfl
theorem wd44 (hw : HW a0 Z) : BW a0 Z (.initialized sT2) := wat hw 44 rfl
theorem wd154 (hw : HW a0 Z) : BW a0 Z (.selects sT2 ⟨sT0, "length", "()I"⟩ ⟨sT2, "length", "()I"⟩) := wat hw 154 rfl
theorem wd151 (hw : HW a0 Z) : BW a0 Z (.methodLink sT1 (549 : Nat) ⟨sT0, "length", "()I"⟩) := wat hw 151 rfl
theorem wd152 (hw : HW a0 Z) : BW a0 Z (.declares ⟨sT0, "length", "()I"⟩) := wat hw 152 rfl
theorem wd155 (hw : HW a0 Z) : BW a0 Z (.instanceMethod ⟨sT2, "length", "()I"⟩) := wat hw 155 rfl
theorem e6_13 : decode kC8 13 = .ok (.istore 4, 2) := by decide +kernel
theorem e6_15 : decode kC8 15 = .ok (.aload_n 1, 1) := by decide +kernel
theorem e6_16 : decode kC8 16 = .ok (.invokevirtual 1047, 3) := by decide +kernel
theorem wd159 (hw : HW a0 Z) : BW a0 Z (.methodLink sT1 (1047 : Nat) ⟨sT0, "isLatin1", "()Z"⟩) := wat hw 159 rfl
theorem e6_19 : decode kC8 19 = .ok (.ifCond .eq 22, 3) := by decide +kernel
theorem e6_22 : decode kC8 22 = .ok (.aload_n 0, 1) := by decide +kernel
theorem e6_23 : decode kC8 23 = .ok (.iconst 0, 1) := by decide +kernel
theorem e6_24 : decode kC8 24 = .ok (.putfield 15, 3) := by decide +kernel
theorem e6_27 : decode kC8 27 = .ok (.aload_n 0, 1) := by decide +kernel
theorem e6_28 : decode kC8 28 = .ok (.aload_n 3, 1) := by decide +kernel
theorem e6_29 : decode kC8 29 = .ok (.iconst 0, 1) := by decide +kernel
theorem e6_30 : decode kC8 30 = .ok (.iload 4, 2) := by decide +kernel
theorem e6_32 : decode kC8 32 = .ok (.invokestatic 54, 3) := by decide +kernel
theorem wd166 (hw : HW a0 Z) : BW a0 Z (.code ⟨"java/util/Arrays", "copyOfRange", "([BII)[B"⟩ kC5 (3 : Nat) (Option.some (Jvm.ClassFile.FieldType.array Jvm.ClassFile.FieldType.byte))) := wat hw 166 rfl
theorem pd25 : parseMethodDescriptor "([BII)[B" = some ⟨[(.array .byte), .int, .int], some (.array .byte)⟩ := by decide +kernel
theorem wd164 (hw : HW a0 Z) : BW a0 Z (.methodLink sT1 (54 : Nat) ⟨"java/util/Arrays", "copyOfRange", "([BII)[B"⟩) := wat hw 164 rfl
theorem wd165 (hw : HW a0 Z) : BW a0 Z (.static ⟨"java/util/Arrays", "copyOfRange", "([BII)[B"⟩) := wat hw 165 rfl
theorem e6_35 : decode kC8 35 = .ok (.putfield 9, 3) := by decide +kernel
theorem e6_38 : decode kC8 38 = .ok (.goto 59, 3) := by decide +kernel
theorem e6_97 : decode kC8 97 = .ok (.return_, 1) := by decide +kernel
def Q_sia0 (Z : State) (zC : Int32) (vF : Value) (a1 : Addr) (a2 : Addr) (vv : Addr) (kv : ClassId) (vd : List Value) (h0 : Heap) (v : Option Value) (h : Heap) (L : List Loc) : Prop := ∃ (c : Addr), ∃ (kc : ClassId), v = none ∧ Fr Z.heap.size L ∧ Keep h0 h [a1] ∧ Exa Z h a1 sT1 ∧ Fld Z h a1 sT1 "coder" "B" (iv 0) ∧ Fld Z h a1 sT1 "value" "[B" (.ref c) ∧ h0.size ≤ c ∧ Arv Z h c kc .byte (34 : Int32) vd (.int 0)
theorem rm_sia0 (l : Launch) (Z : State) (a0 : Array Value) (hw : HW a0 Z) (zC : Int32) (vF : Value) (G : GB l a0 Z zC vF) (a1 : Addr) (a2 : Addr) (vv : Addr) (kv : ClassId) (vd : List Value) (h0 : Heap) (O0 : Old Z Z.heap.size h0) (Pe : Exa Z h0 a1 sT1) (Pc : Fld Z h0 a1 sT1 "coder" "B" (iv 0)) (Pv : Fld Z h0 a1 sT1 "value" "[B" .null) (Pz : Z.heap.size ≤ a1) (Qe : Exa Z h0 a2 sT2) (Qc : Fld Z h0 a2 sT0 "coder" "B" (iv 0)) (Qn : Fld Z h0 a2 sT0 "count" "I" (iv 34)) (Qm : Fld Z h0 a2 sT0 "maybeLatin1" "Z" (iv 0)) (Qv : Fld Z h0 a2 sT0 "value" "[B" (.ref vv)) (Qa : Arv Z h0 vv kv .byte (34 : Int32) vd (.int 0)) (QE : Exa Z h0 vv "[B") :
    Con l Z (⟨sT1, "<init>", "(Ljava/lang/AbstractStringBuilder;Ljava/lang/Void;)V"⟩ : MethodName) kC8 5 none ({ frames := 2, cells := 1, slots := 34, locals := 29 } : Room) #[(.ref a1), (.ref a2), .null] h0 (Q_sia0 Z zC vF a1 a2 vv kv vd h0) := by
  refine Con.intro (plainFor_of_name pn2) ?_
  intro p e s m below meth c T0 X0 hx hby hml hown0 hnm hret hlk hZ0 e0
  have N0 := Fr.nil Z.heap.size
  refine castGo (g' := mkF m 0 #[.val (.ref a1), .val (.ref a2), .val .null, .unset, .unset] []) (by first | rfl | (simp [entryFrame, mkF, argsToLocals, Value.category]; done)) ?_
  show Go _ _ _ _ (T0.setTop (mkF m 0 #[.val (.ref a1), .val (.ref a2), .val .null, .unset, .unset] []))
  refine aL X0 hx (hb hby e6_0) (q := 1) rfl rfl rfl ?_
  refine g_init0 X0 hx hZ0 hown0 (wd16 hw) (wd17 hw) (wd18 hw) (by rw [hml]; rfl) (by decide) (W := 0) (Nat.le_of_eq rfl) (by decide) e0 (hb hby e6_1) (q := 4) rfl ?_
  intro T738 X738 e738
  refine aL X738 hx (hb hby e6_4) (q := 5) rfl rfl rfl ?_
  refine g_vi X738 hx hZ0 hown0 (wd146 hw) (wd147 hw) (notFace_of_selects (args := #[]) (mvT hZ0 (wd149 hw))) (wd149 hw) (wd148 hw) (by decide) Qe e738 (Con.back (W := 0) (rm_gval l Z a0 hw zC vF G a2 vv h0 O0 Qv) hZ0 (wd150 hw) (wd52 hw) (by decide) (by decide)) (by rw [hml]; rfl) (lenOf pd24 rfl) rfl (Nat.le_of_eq rfl) (hb hby e6_5) (q := 8) rfl (by decide) (by decide) ?_
  intro v739 T739 L739 X739 Q739
  obtain ⟨rfl, Nq739, e739⟩ := Q739
  have N739 := Fr.app N0 Nq739
  show Go _ _ _ _ (T739.setTop (mkF m 8 #[.val (.ref a1), .val (.ref a2), .val .null, .unset, .unset] [(.ref vv)]))
  refine sA X739 hx (hb hby e6_8) (q := 9) rfl rfl (Ls' := #[.val (.ref a1), .val (.ref a2), .val .null, .val (.ref vv), .unset]) rfl ?_
  refine aL X739 hx (hb hby e6_9) (q := 10) rfl rfl rfl ?_
  refine g_vi X739 hx hZ0 hown0 (wd151 hw) (wd152 hw) (nf_of (as := #[]) (mvT hZ0 (wd85 hw)) rfl) (wd154 hw) (wd155 hw) (by decide) Qe e739 (Con.back (W := 0) (rm_sbl l Z a0 hw zC vF G a2 (34 : Int32) h0 O0 Qe Qn) hZ0 (wd156 hw) (wd44 hw) (by decide) (by decide)) (by rw [hml]; rfl) (lenOf pd17 rfl) rfl (Nat.le_of_eq rfl) (hb hby e6_10) (q := 13) rfl (by decide) (by decide) ?_
  intro v740 T740 L740 X740 Q740
  obtain ⟨rfl, Nq740, e740⟩ := Q740
  have N740 := Fr.app N739 Nq740
  show Go _ _ _ _ (T740.setTop (mkF m 13 #[.val (.ref a1), .val (.ref a2), .val .null, .val (.ref vv), .unset] [(iv 34)]))
  refine sIw X740 hx (hb hby e6_13) (q := 15) rfl (Ls' := #[.val (.ref a1), .val (.ref a2), .val .null, .val (.ref vv), .val (iv 34)]) rfl ?_
  refine aL X740 hx (hb hby e6_15) (q := 16) rfl rfl rfl ?_
  refine g_vi X740 hx hZ0 hown0 (wd159 hw) (wd160 hw) (notFace_of_selects (args := #[]) (mvT hZ0 (wd162 hw))) (wd162 hw) (wd161 hw) (by decide) Qe e740 (Con.back (W := 0) (rm_isa0 l Z a0 hw zC vF G a2 h0 O0 Qc) hZ0 (wd163 hw) (wd52 hw) (by decide) (by decide)) (by rw [hml]; rfl) (lenOf pd19 rfl) rfl (Nat.le_of_eq rfl) (hb hby e6_16) (q := 19) rfl (by decide) (by decide) ?_
  intro v741 T741 L741 X741 Q741
  obtain ⟨rfl, Nq741, e741⟩ := Q741
  have N741 := Fr.app N740 Nq741
  show Go _ _ _ _ (T741.setTop (mkF m 19 #[.val (.ref a1), .val (.ref a2), .val .null, .val (.ref vv), .val (iv 34)] [(iv 1)]))
  refine ifN X741 hx (hb hby e6_19) (q := 22) rfl (by decide) ?_
  refine aL X741 hx (hb hby e6_22) (q := 23) rfl rfl rfl ?_
  refine cI X741 hx (hb hby e6_23) (q := 24) rfl (z := (0 : Int32)) rfl ?_
  refine g_putF X741 hx hZ0 hown0 (host := "") (Or.inl (wd31 hw)) Via.refl Pc Pe (Or.inr ⟨(wd32 hw), rfl, hnm⟩) (wd7 hw) (ty := .byte) (by decide) rfl rfl e741 (hb hby e6_24) (q := 27) rfl ?_
  intro T742 h742 X742 e742 W742
  have N742 := Fr.snoc X742 N741 Pz
  have Fw742 : Fld Z h742 a1 sT1 "coder" "B" (iv 0) := Pc.same W742
  refine aL X742 hx (hb hby e6_27) (q := 28) rfl rfl rfl ?_
  refine aL X742 hx (hb hby e6_28) (q := 29) rfl rfl rfl ?_
  refine cI X742 hx (hb hby e6_29) (q := 30) rfl (z := (0 : Int32)) rfl ?_
  refine iLw X742 hx (hb hby e6_30) (q := 32) rfl rfl ?_
  have ne747 : vv ≠ a1 := (ne_exa QE Pe (by decide))
  have f748 := Qa.other W742 ne747
  have f749 := QE.wr W742
  have f750 := O0.wr W742 Pz
  refine g_st X742 hx hZ0 hown0 (wd164 hw) (wd165 hw) (wd127 hw) (wd166 hw) (by decide) e742 (Con.back (W := 1) (rm_cor0 l Z a0 hw zC vF G vv kv vd h742 f750 f748 f749) hZ0 (wd166 hw) (wd127 hw) (by decide) (by decide)) (by rw [hml]; rfl) (lenOf pd25 rfl) rfl (Nat.le_of_eq rfl) (hb hby e6_32) (q := 35) rfl (by decide) (by decide) ?_
  intro v746 T746 L746 X746 Q746
  obtain ⟨c_746, kc_746, rfl, Nq746, K746q, q746_0, q746_1, q746_2⟩ := Q746
  have N746 := Fr.app N742 Nq746
  show Go _ _ _ _ (T746.setTop (mkF m 35 #[.val (.ref a1), .val (.ref a2), .val .null, .val (.ref vv), .val (iv 34)] [(.ref c_746), (.ref a1)]))
  have f751 := Pv.other W742 (Or.inr (slot_ne (Or.inr (wd34 hw)) (Or.inr (wd32 hw)) (by decide) (t := (.array .byte)) (t' := .byte) (by decide) (by decide)))
  have f752 := f751.keep K746q nin0
  have f753 := Pe.wr W742
  have f754 := f753.keep K746q
  refine g_putF X746 hx hZ0 hown0 (host := "") (Or.inl (wd33 hw)) Via.refl f752 f754 (Or.inr ⟨(wd34 hw), rfl, hnm⟩) (wd7 hw) (ty := (.array .byte)) (by decide) rfl rfl rfl (hb hby e6_35) (q := 38) rfl ?_
  intro T755 h755 X755 e755 W755
  have N755 := Fr.snoc X755 N746 Pz
  have Fw755 : Fld Z h755 a1 sT1 "value" "[B" (.ref c_746) := f752.same W755
  refine g_goto X755 hx (hb hby e6_38) (q := 97) (by decide) (by decide) ?_
  have K756 : Keep h0 h742 [a1] := (Keep.refl h0 [a1]).wr W742 (Or.inl (by simp))
  have K757 : Keep h0 T746.heap [a1] := K756.trans K746q all0
  have K758 : Keep h0 h755 [a1] := K757.wr W755 (Or.inl (by simp))
  have f759 := f754.wr W755
  have f760 := Fw742.keep K746q nin0
  have f761 := f760.other W755 (Or.inr (slot_ne (Or.inr (wd32 hw)) (Or.inr (wd34 hw)) (by decide) (t := .byte) (t' := (.array .byte)) (by decide) (by decide)))
  have le763 := (Nat.le_of_eq (Wr.size W742).symm)
  have gh762 : h0.size ≤ c_746 := Nat.le_trans le763 q746_0
  have ne764 : c_746 ≠ a1 := (Nat.ne_of_gt (Nat.lt_of_lt_of_le (Nat.lt_of_lt_of_le Pe.lt le763) q746_0))
  have f765 := q746_1.other W755 ne764
  refine endP X755 hlk (fun _ => rfl) (lastV X755 hx hret (hb hby e6_97)) ?_ (by decide) (by decide)
  rw [e755]
  exact ⟨c_746, kc_746, rfl, N755, K758, f759, f761, Fw755, gh762, f765⟩
theorem e12_0 : decode kC10 0 = .ok (.aload_n 0, 1) := by decide +kernel
theorem e12_1 : decode kC10 1 = .ok (.aload_n 1, 1) := by decide +kernel
theorem e12_2 : decode kC10 2 = .ok (.aconst_null, 1) := by decide +kernel
theorem e12_3 : decode kC10 3 = .ok (.invokespecial 489, 3) := by decide +kernel
theorem wd145 (hw : HW a0 Z) : BW a0 Z (.code ⟨sT1, "<init>", "(Ljava/lang/AbstractStringBuilder;Ljava/lang/Void;)V"⟩ kC8 (5 : Nat) (Option.none : Option Jvm.ClassFile.FieldType)) := wat hw 145 rfl
theorem pd26 : parseMethodDescriptor "(Ljava/lang/AbstractStringBuilder;Ljava/lang/Void;)V" = some ⟨[(.object "java/lang/AbstractStringBuilder"), (.object "java/lang/Void")], none⟩ := by decide +kernel
theorem wd143 (hw : HW a0 Z) : BW a0 Z (.methodLink sT1 (489 : Nat) ⟨sT1, "<init>", "(Ljava/lang/AbstractStringBuilder;Ljava/lang/Void;)V"⟩) := wat hw 143 rfl
theorem wd144 (hw : HW a0 Z) : BW a0 Z (.instanceMethod ⟨sT1, "<init>", "(Ljava/lang/AbstractStringBuilder;Ljava/lang/Void;)V"⟩) := wat hw 144 rfl
theorem e12_6 : decode kC10 6 = .ok (.return_, 1) := by decide +kernel
def Q_sis0 (Z : State) (zC : Int32) (vF : Value) (a1 : Addr) (a2 : Addr) (vv : Addr) (kv : ClassId) (vd : List Value) (h0 : Heap) (v : Option Value) (h : Heap) (L : List Loc) : Prop := ∃ (c : Addr), ∃ (kc : ClassId), v = none ∧ Fr Z.heap.size L ∧ Keep h0 h [a1] ∧ Exa Z h a1 sT1 ∧ Fld Z h a1 sT1 "coder" "B" (iv 0) ∧ Fld Z h a1 sT1 "value" "[B" (.ref c) ∧ h0.size ≤ c ∧ Arv Z h c kc .byte (34 : Int32) vd (.int 0)
theorem rm_sis0 (l : Launch) (Z : State) (a0 : Array Value) (hw : HW a0 Z) (zC : Int32) (vF : Value) (G : GB l a0 Z zC vF) (a1 : Addr) (a2 : Addr) (vv : Addr) (kv : ClassId) (vd : List Value) (h0 : Heap) (O0 : Old Z Z.heap.size h0) (Pe : Exa Z h0 a1 sT1) (Pc : Fld Z h0 a1 sT1 "coder" "B" (iv 0)) (Pv : Fld Z h0 a1 sT1 "value" "[B" .null) (Pz : Z.heap.size ≤ a1) (Qe : Exa Z h0 a2 sT2) (Qc : Fld Z h0 a2 sT0 "coder" "B" (iv 0)) (Qn : Fld Z h0 a2 sT0 "count" "I" (iv 34)) (Qm : Fld Z h0 a2 sT0 "maybeLatin1" "Z" (iv 0)) (Qv : Fld Z h0 a2 sT0 "value" "[B" (.ref vv)) (Qa : Arv Z h0 vv kv .byte (34 : Int32) vd (.int 0)) (QE : Exa Z h0 vv "[B") :
    Con l Z (⟨sT1, "<init>", "(Ljava/lang/StringBuilder;)V"⟩ : MethodName) kC10 2 none ({ frames := 3, cells := 1, slots := 34, locals := 45 } : Room) #[(.ref a1), (.ref a2)] h0 (Q_sis0 Z zC vF a1 a2 vv kv vd h0) := by
  refine Con.intro (plainFor_of_name pn2) ?_
  intro p e s m below meth c T0 X0 hx hby hml hown0 hnm hret hlk hZ0 e0
  have N0 := Fr.nil Z.heap.size
  refine castGo (g' := mkF m 0 #[.val (.ref a1), .val (.ref a2)] []) (by first | rfl | (simp [entryFrame, mkF, argsToLocals, Value.category]; done)) ?_
  show Go _ _ _ _ (T0.setTop (mkF m 0 #[.val (.ref a1), .val (.ref a2)] []))
  refine aL X0 hx (hb hby e12_0) (q := 1) rfl rfl rfl ?_
  refine aL X0 hx (hb hby e12_1) (q := 2) rfl rfl rfl ?_
  refine cN X0 hx (hb hby e12_2) (q := 3) rfl ?_
  refine g_sp X0 hx hZ0 hown0 (wd143 hw) (wd144 hw) (wd145 hw) rfl (by decide) e0 (Con.back (W := 0) (rm_sia0 l Z a0 hw zC vF G a1 a2 vv kv vd h0 O0 Pe Pc Pv Pz Qe Qc Qn Qm Qv Qa QE) hZ0 (wd145 hw) (wd8 hw) (by decide) (by decide)) (by rw [hml]; rfl) (lenOf pd26 rfl) rfl (Nat.le_of_eq rfl) (hb hby e12_3) (q := 6) rfl (by decide) (by decide) ?_
  intro v766 T766 L766 X766 Q766
  obtain ⟨c_766, kc_766, rfl, Nq766, K766q, q766_0, q766_1, q766_2, q766_3, q766_4⟩ := Q766
  have N766 := Fr.app N0 Nq766
  show Go _ _ _ _ (T766.setTop (mkF m 6 #[.val (.ref a1), .val (.ref a2)] []))
  have K767 : Keep h0 T766.heap [a1] := (Keep.refl h0 [a1]).trans K766q (allS (Or.inl (by simp)) all0)
  have gh768 : h0.size ≤ c_766 := Nat.le_trans (Nat.le_refl _) q766_3
  refine endP X766 hlk (fun _ => rfl) (lastV X766 hx hret (hb hby e12_6)) ?_ (by decide) (by decide)
  exact ⟨c_766, kc_766, rfl, N766, K767, q766_0, q766_1, q766_2, gh768, q766_4⟩
def Q_cor1 (Z : State) (zC : Int32) (vF : Value) (vv : Addr) (kv : ClassId) (vd : List Value) (h0 : Heap) (v : Option Value) (h : Heap) (L : List Loc) : Prop := ∃ (c : Addr), ∃ (kc : ClassId), v = some (.ref c) ∧ Fr Z.heap.size L ∧ Keep h0 h [] ∧ h0.size ≤ c ∧ Arv Z h c kc .byte (68 : Int32) vd (.int 0) ∧ Exa Z h c "[B"
theorem rm_cor1 (l : Launch) (Z : State) (a0 : Array Value) (hw : HW a0 Z) (zC : Int32) (vF : Value) (G : GB l a0 Z zC vF) (vv : Addr) (kv : ClassId) (vd : List Value) (h0 : Heap) (O0 : Old Z Z.heap.size h0) (Qa : Arv Z h0 vv kv .byte (68 : Int32) vd (.int 0)) (QE : Exa Z h0 vv "[B") :
    Con l Z (⟨"java/util/Arrays", "copyOfRange", "([BII)[B"⟩ : MethodName) kC5 3 (some (.array .byte)) ({ frames := 1, cells := 1, slots := 68, locals := 14 } : Room) #[(.ref vv), (iv 0), (iv 68)] h0 (Q_cor1 Z zC vF vv kv vd h0) := by
  refine Con.intro (plainFor_of_name pn9) ?_
  intro p e s m below meth c T0 X0 hx hby hml hown0 hnm hret hlk hZ0 e0
  have N0 := Fr.nil Z.heap.size
  refine castGo (g' := mkF m 0 #[.val (.ref vv), .val (iv 0), .val (iv 68)] []) (by first | rfl | (simp [entryFrame, mkF, argsToLocals, Value.category]; done)) ?_
  show Go _ _ _ _ (T0.setTop (mkF m 0 #[.val (.ref vv), .val (iv 0), .val (iv 68)] []))
  refine iL X0 hx (hb hby e35_0) (q := 1) rfl rfl ?_
  refine ifN X0 hx (hb hby e35_1) (q := 4) rfl (by decide) ?_
  refine iL X0 hx (hb hby e35_4) (q := 5) rfl rfl ?_
  refine aL X0 hx (hb hby e35_5) (q := 6) rfl rfl rfl ?_
  refine g_len X0 hx hZ0 Qa e0 (hb hby e35_6) (q := 7) rfl ?_
  refine icY X0 hx (hb hby e35_7) (q := 17) (by decide) (by decide) (by decide) ?_
  refine aL X0 hx (hb hby e35_17) (q := 18) rfl rfl rfl ?_
  refine g_clone X0 hx hZ0 hown0 (wd167 hw) (wd168 hw) (wd172 hw) (wd170 hw) (wd171 hw) (wd173 hw) Qa QE (by rw [hml]; rfl) (by decide) (W := 0) (cap := 68) (Nat.le_of_eq rfl) (by decide) (by decide) (by decide) (by decide) e0 (hb hby e35_18) (q := 21) rfl ?_
  intro T769 h769 b769 g769 X769 e769 E769 V769 A769
  refine g_cast X769 hx hZ0 hown0 (wd174 hw) (Ins.self A769) e769 (hb hby e35_21) (q := 24) rfl ?_
  intro T770 X770 e770
  have K771 : Keep h0 h769 [] := (Keep.refl h0 []).ext E769
  have gh772 : h0.size ≤ b769 := Nat.le_trans (Nat.le_refl _) (Nat.le_of_eq g769.symm)
  refine endP X770 hlk (fun h => by rw [hret] at h; cases h) (lastA X770 hx hret rfl rfl rfl (hb hby e35_24)) ?_ (by decide) (by decide)
  rw [e770]
  exact ⟨b769, kv, rfl, N0, K771, gh772, V769, A769⟩
theorem e6_41 : decode kC8 41 = .ok (.getstatic 38, 3) := by decide +kernel
theorem e6_44 : decode kC8 44 = .ok (.ifCond .eq 35, 3) := by decide +kernel
theorem e6_47 : decode kC8 47 = .ok (.aload_n 1, 1) := by decide +kernel
theorem e6_48 : decode kC8 48 = .ok (.getfield 1048, 3) := by decide +kernel
theorem wd309 (hw : HW a0 Z) : BW a0 Z (.fieldLink sT1 (1048 : Nat) sT0 "maybeLatin1" "Z") := wat hw 309 rfl
theorem e6_51 : decode kC8 51 = .ok (.ifCond .eq 28, 3) := by decide +kernel
theorem e6_79 : decode kC8 79 = .ok (.aload_n 0, 1) := by decide +kernel
theorem e6_80 : decode kC8 80 = .ok (.iconst 1, 1) := by decide +kernel
theorem e6_81 : decode kC8 81 = .ok (.putfield 15, 3) := by decide +kernel
theorem e6_84 : decode kC8 84 = .ok (.aload_n 0, 1) := by decide +kernel
theorem e6_85 : decode kC8 85 = .ok (.aload_n 3, 1) := by decide +kernel
theorem e6_86 : decode kC8 86 = .ok (.iconst 0, 1) := by decide +kernel
theorem e6_87 : decode kC8 87 = .ok (.iload 4, 2) := by decide +kernel
theorem e6_89 : decode kC8 89 = .ok (.iconst 1, 1) := by decide +kernel
theorem e6_90 : decode kC8 90 = .ok (.ishl, 1) := by decide +kernel
theorem e6_91 : decode kC8 91 = .ok (.invokestatic 54, 3) := by decide +kernel
theorem e6_94 : decode kC8 94 = .ok (.putfield 9, 3) := by decide +kernel
def Q_sia1 (Z : State) (zC : Int32) (vF : Value) (a1 : Addr) (a2 : Addr) (vv : Addr) (kv : ClassId) (vd : List Value) (h0 : Heap) (v : Option Value) (h : Heap) (L : List Loc) : Prop := ∃ (c : Addr), ∃ (kc : ClassId), v = none ∧ Fr Z.heap.size L ∧ Keep h0 h [a1] ∧ Exa Z h a1 sT1 ∧ Fld Z h a1 sT1 "coder" "B" (iv 1) ∧ Fld Z h a1 sT1 "value" "[B" (.ref c) ∧ h0.size ≤ c ∧ Arv Z h c kc .byte (68 : Int32) vd (.int 0)
theorem rm_sia1 (l : Launch) (Z : State) (a0 : Array Value) (hw : HW a0 Z) (zC : Int32) (vF : Value) (G : GB l a0 Z zC vF) (a1 : Addr) (a2 : Addr) (vv : Addr) (kv : ClassId) (vd : List Value) (h0 : Heap) (O0 : Old Z Z.heap.size h0) (Pe : Exa Z h0 a1 sT1) (Pc : Fld Z h0 a1 sT1 "coder" "B" (iv 0)) (Pv : Fld Z h0 a1 sT1 "value" "[B" .null) (Pz : Z.heap.size ≤ a1) (Qe : Exa Z h0 a2 sT2) (Qc : Fld Z h0 a2 sT0 "coder" "B" (iv 1)) (Qn : Fld Z h0 a2 sT0 "count" "I" (iv 34)) (Qm : Fld Z h0 a2 sT0 "maybeLatin1" "Z" (iv 0)) (Qv : Fld Z h0 a2 sT0 "value" "[B" (.ref vv)) (Qa : Arv Z h0 vv kv .byte (68 : Int32) vd (.int 0)) (QE : Exa Z h0 vv "[B") :
    Con l Z (⟨sT1, "<init>", "(Ljava/lang/AbstractStringBuilder;Ljava/lang/Void;)V"⟩ : MethodName) kC8 5 none ({ frames := 2, cells := 1, slots := 68, locals := 29 } : Room) #[(.ref a1), (.ref a2), .null] h0 (Q_sia1 Z zC vF a1 a2 vv kv vd h0) := by
  obtain ⟨hl, SC, PC, rF, SF, SA, SH, SL, hX⟩ := id G
  refine Con.intro (plainFor_of_name pn2) ?_
  intro p e s m below meth c T0 X0 hx hby hml hown0 hnm hret hlk hZ0 e0
  have N0 := Fr.nil Z.heap.size
  refine castGo (g' := mkF m 0 #[.val (.ref a1), .val (.ref a2), .val .null, .unset, .unset] []) (by first | rfl | (simp [entryFrame, mkF, argsToLocals, Value.category]; done)) ?_
  show Go _ _ _ _ (T0.setTop (mkF m 0 #[.val (.ref a1), .val (.ref a2), .val .null, .unset, .unset] []))
  refine aL X0 hx (hb hby e6_0) (q := 1) rfl rfl rfl ?_
  refine g_init0 X0 hx hZ0 hown0 (wd16 hw) (wd17 hw) (wd18 hw) (by rw [hml]; rfl) (by decide) (W := 0) (Nat.le_of_eq rfl) (by decide) e0 (hb hby e6_1) (q := 4) rfl ?_
  intro T773 X773 e773
  refine aL X773 hx (hb hby e6_4) (q := 5) rfl rfl rfl ?_
  refine g_vi X773 hx hZ0 hown0 (wd146 hw) (wd147 hw) (notFace_of_selects (args := #[]) (mvT hZ0 (wd149 hw))) (wd149 hw) (wd148 hw) (by decide) Qe e773 (Con.back (W := 0) (rm_gval l Z a0 hw zC vF G a2 vv h0 O0 Qv) hZ0 (wd150 hw) (wd52 hw) (by decide) (by decide)) (by rw [hml]; rfl) (lenOf pd24 rfl) rfl (Nat.le_of_eq rfl) (hb hby e6_5) (q := 8) rfl (by decide) (by decide) ?_
  intro v774 T774 L774 X774 Q774
  obtain ⟨rfl, Nq774, e774⟩ := Q774
  have N774 := Fr.app N0 Nq774
  show Go _ _ _ _ (T774.setTop (mkF m 8 #[.val (.ref a1), .val (.ref a2), .val .null, .unset, .unset] [(.ref vv)]))
  refine sA X774 hx (hb hby e6_8) (q := 9) rfl rfl (Ls' := #[.val (.ref a1), .val (.ref a2), .val .null, .val (.ref vv), .unset]) rfl ?_
  refine aL X774 hx (hb hby e6_9) (q := 10) rfl rfl rfl ?_
  refine g_vi X774 hx hZ0 hown0 (wd151 hw) (wd152 hw) (nf_of (as := #[]) (mvT hZ0 (wd85 hw)) rfl) (wd154 hw) (wd155 hw) (by decide) Qe e774 (Con.back (W := 0) (rm_sbl l Z a0 hw zC vF G a2 (34 : Int32) h0 O0 Qe Qn) hZ0 (wd156 hw) (wd44 hw) (by decide) (by decide)) (by rw [hml]; rfl) (lenOf pd17 rfl) rfl (Nat.le_of_eq rfl) (hb hby e6_10) (q := 13) rfl (by decide) (by decide) ?_
  intro v775 T775 L775 X775 Q775
  obtain ⟨rfl, Nq775, e775⟩ := Q775
  have N775 := Fr.app N774 Nq775
  show Go _ _ _ _ (T775.setTop (mkF m 13 #[.val (.ref a1), .val (.ref a2), .val .null, .val (.ref vv), .unset] [(iv 34)]))
  refine sIw X775 hx (hb hby e6_13) (q := 15) rfl (Ls' := #[.val (.ref a1), .val (.ref a2), .val .null, .val (.ref vv), .val (iv 34)]) rfl ?_
  refine aL X775 hx (hb hby e6_15) (q := 16) rfl rfl rfl ?_
  refine g_vi X775 hx hZ0 hown0 (wd159 hw) (wd160 hw) (notFace_of_selects (args := #[]) (mvT hZ0 (wd162 hw))) (wd162 hw) (wd161 hw) (by decide) Qe e775 (Con.back (W := 0) (rm_isa1 l Z a0 hw zC vF G a2 h0 O0 Qc) hZ0 (wd163 hw) (wd52 hw) (by decide) (by decide)) (by rw [hml]; rfl) (lenOf pd19 rfl) rfl (Nat.le_of_eq rfl) (hb hby e6_16) (q := 19) rfl (by decide) (by decide) ?_
  intro v776 T776 L776 X776 Q776
  obtain ⟨rfl, Nq776, e776⟩ := Q776
  have N776 := Fr.app N775 Nq776
  show Go _ _ _ _ (T776.setTop (mkF m 19 #[.val (.ref a1), .val (.ref a2), .val .null, .val (.ref vv), .val (iv 34)] [(iv 0)]))
  refine ifY X776 hx (hb hby e6_19) (q := 41) (by decide) (by decide) (by decide) ?_
  refine g_getS X776 hx hZ0 hown0 (host := "") (Or.inl (wd19 hw)) Via.refl (SC.ext O0.2) e776 (hb hby e6_41) (q := 44) rfl ?_
  intro T777 X777 e777
  refine ifN X777 hx (hb hby e6_44) (q := 47) rfl ((if0 _ _).trans (feq PC).1) ?_
  refine aL X777 hx (hb hby e6_47) (q := 48) rfl rfl rfl ?_
  refine g_getF X777 hx hZ0 hown0 (host := "") (Or.inl (wd309 hw)) Via.refl Qm e777 (hb hby e6_48) (q := 51) rfl ?_
  intro T778 X778 e778
  refine ifY X778 hx (hb hby e6_51) (q := 79) (by decide) (by decide) (by decide) ?_
  refine aL X778 hx (hb hby e6_79) (q := 80) rfl rfl rfl ?_
  refine cI X778 hx (hb hby e6_80) (q := 81) rfl (z := (1 : Int32)) rfl ?_
  refine g_putF X778 hx hZ0 hown0 (host := "") (Or.inl (wd31 hw)) Via.refl Pc Pe (Or.inr ⟨(wd32 hw), rfl, hnm⟩) (wd7 hw) (ty := .byte) (by decide) rfl rfl e778 (hb hby e6_81) (q := 84) rfl ?_
  intro T779 h779 X779 e779 W779
  have N779 := Fr.snoc X779 N776 Pz
  have Fw779 : Fld Z h779 a1 sT1 "coder" "B" (iv 1) := Pc.same W779
  refine aL X779 hx (hb hby e6_84) (q := 85) rfl rfl rfl ?_
  refine aL X779 hx (hb hby e6_85) (q := 86) rfl rfl rfl ?_
  refine cI X779 hx (hb hby e6_86) (q := 87) rfl (z := (0 : Int32)) rfl ?_
  refine iLw X779 hx (hb hby e6_87) (q := 89) rfl rfl ?_
  refine cI X779 hx (hb hby e6_89) (q := 90) rfl (z := (1 : Int32)) rfl ?_
  refine g_ishl X779 hx (hb hby e6_90) (q := 91) rfl (z := (68 : Int32)) (by decide) ?_
  have ne784 : vv ≠ a1 := (ne_exa QE Pe (by decide))
  have f785 := Qa.other W779 ne784
  have f786 := QE.wr W779
  have f787 := O0.wr W779 Pz
  refine g_st X779 hx hZ0 hown0 (wd164 hw) (wd165 hw) (wd127 hw) (wd166 hw) (by decide) e779 (Con.back (W := 1) (rm_cor1 l Z a0 hw zC vF G vv kv vd h779 f787 f785 f786) hZ0 (wd166 hw) (wd127 hw) (by decide) (by decide)) (by rw [hml]; rfl) (lenOf pd25 rfl) rfl (Nat.le_of_eq rfl) (hb hby e6_91) (q := 94) rfl (by decide) (by decide) ?_
  intro v783 T783 L783 X783 Q783
  obtain ⟨c_783, kc_783, rfl, Nq783, K783q, q783_0, q783_1, q783_2⟩ := Q783
  have N783 := Fr.app N779 Nq783
  show Go _ _ _ _ (T783.setTop (mkF m 94 #[.val (.ref a1), .val (.ref a2), .val .null, .val (.ref vv), .val (iv 34)] [(.ref c_783), (.ref a1)]))
  have f788 := Pv.other W779 (Or.inr (slot_ne (Or.inr (wd34 hw)) (Or.inr (wd32 hw)) (by decide) (t := (.array .byte)) (t' := .byte) (by decide) (by decide)))
  have f789 := f788.keep K783q nin0
  have f790 := Pe.wr W779
  have f791 := f790.keep K783q
  refine g_putF X783 hx hZ0 hown0 (host := "") (Or.inl (wd33 hw)) Via.refl f789 f791 (Or.inr ⟨(wd34 hw), rfl, hnm⟩) (wd7 hw) (ty := (.array .byte)) (by decide) rfl rfl rfl (hb hby e6_94) (q := 97) rfl ?_
  intro T792 h792 X792 e792 W792
  have N792 := Fr.snoc X792 N783 Pz
  have Fw792 : Fld Z h792 a1 sT1 "value" "[B" (.ref c_783) := f789.same W792
  have K793 : Keep h0 h779 [a1] := (Keep.refl h0 [a1]).wr W779 (Or.inl (by simp))
  have K794 : Keep h0 T783.heap [a1] := K793.trans K783q all0
  have K795 : Keep h0 h792 [a1] := K794.wr W792 (Or.inl (by simp))
  have f796 := f791.wr W792
  have f797 := Fw779.keep K783q nin0
  have f798 := f797.other W792 (Or.inr (slot_ne (Or.inr (wd32 hw)) (Or.inr (wd34 hw)) (by decide) (t := .byte) (t' := (.array .byte)) (by decide) (by decide)))
  have le800 := (Nat.le_of_eq (Wr.size W779).symm)
  have gh799 : h0.size ≤ c_783 := Nat.le_trans le800 q783_0
  have ne801 : c_783 ≠ a1 := (Nat.ne_of_gt (Nat.lt_of_lt_of_le (Nat.lt_of_lt_of_le Pe.lt le800) q783_0))
  have f802 := q783_1.other W792 ne801
  refine endP X792 hlk (fun _ => rfl) (lastV X792 hx hret (hb hby e6_97)) ?_ (by decide) (by decide)
  rw [e792]
  exact ⟨c_783, kc_783, rfl, N792, K795, f796, f798, Fw792, gh799, f802⟩
def Q_sis1 (Z : State) (zC : Int32) (vF : Value) (a1 : Addr) (a2 : Addr) (vv : Addr) (kv : ClassId) (vd : List Value) (h0 : Heap) (v : Option Value) (h : Heap) (L : List Loc) : Prop := ∃ (c : Addr), ∃ (kc : ClassId), v = none ∧ Fr Z.heap.size L ∧ Keep h0 h [a1] ∧ Exa Z h a1 sT1 ∧ Fld Z h a1 sT1 "coder" "B" (iv 1) ∧ Fld Z h a1 sT1 "value" "[B" (.ref c) ∧ h0.size ≤ c ∧ Arv Z h c kc .byte (68 : Int32) vd (.int 0)
theorem rm_sis1 (l : Launch) (Z : State) (a0 : Array Value) (hw : HW a0 Z) (zC : Int32) (vF : Value) (G : GB l a0 Z zC vF) (a1 : Addr) (a2 : Addr) (vv : Addr) (kv : ClassId) (vd : List Value) (h0 : Heap) (O0 : Old Z Z.heap.size h0) (Pe : Exa Z h0 a1 sT1) (Pc : Fld Z h0 a1 sT1 "coder" "B" (iv 0)) (Pv : Fld Z h0 a1 sT1 "value" "[B" .null) (Pz : Z.heap.size ≤ a1) (Qe : Exa Z h0 a2 sT2) (Qc : Fld Z h0 a2 sT0 "coder" "B" (iv 1)) (Qn : Fld Z h0 a2 sT0 "count" "I" (iv 34)) (Qm : Fld Z h0 a2 sT0 "maybeLatin1" "Z" (iv 0)) (Qv : Fld Z h0 a2 sT0 "value" "[B" (.ref vv)) (Qa : Arv Z h0 vv kv .byte (68 : Int32) vd (.int 0)) (QE : Exa Z h0 vv "[B") :
    Con l Z (⟨sT1, "<init>", "(Ljava/lang/StringBuilder;)V"⟩ : MethodName) kC10 2 none ({ frames := 3, cells := 1, slots := 68, locals := 45 } : Room) #[(.ref a1), (.ref a2)] h0 (Q_sis1 Z zC vF a1 a2 vv kv vd h0) := by
  refine Con.intro (plainFor_of_name pn2) ?_
  intro p e s m below meth c T0 X0 hx hby hml hown0 hnm hret hlk hZ0 e0
  have N0 := Fr.nil Z.heap.size
  refine castGo (g' := mkF m 0 #[.val (.ref a1), .val (.ref a2)] []) (by first | rfl | (simp [entryFrame, mkF, argsToLocals, Value.category]; done)) ?_
  show Go _ _ _ _ (T0.setTop (mkF m 0 #[.val (.ref a1), .val (.ref a2)] []))
  refine aL X0 hx (hb hby e12_0) (q := 1) rfl rfl rfl ?_
  refine aL X0 hx (hb hby e12_1) (q := 2) rfl rfl rfl ?_
  refine cN X0 hx (hb hby e12_2) (q := 3) rfl ?_
  refine g_sp X0 hx hZ0 hown0 (wd143 hw) (wd144 hw) (wd145 hw) rfl (by decide) e0 (Con.back (W := 0) (rm_sia1 l Z a0 hw zC vF G a1 a2 vv kv vd h0 O0 Pe Pc Pv Pz Qe Qc Qn Qm Qv Qa QE) hZ0 (wd145 hw) (wd8 hw) (by decide) (by decide)) (by rw [hml]; rfl) (lenOf pd26 rfl) rfl (Nat.le_of_eq rfl) (hb hby e12_3) (q := 6) rfl (by decide) (by decide) ?_
  intro v803 T803 L803 X803 Q803
  obtain ⟨c_803, kc_803, rfl, Nq803, K803q, q803_0, q803_1, q803_2, q803_3, q803_4⟩ := Q803
  have N803 := Fr.app N0 Nq803
  show Go _ _ _ _ (T803.setTop (mkF m 6 #[.val (.ref a1), .val (.ref a2)] []))
  have K804 : Keep h0 T803.heap [a1] := (Keep.refl h0 [a1]).trans K803q (allS (Or.inl (by simp)) all0)
  have gh805 : h0.size ≤ c_803 := Nat.le_trans (Nat.le_refl _) q803_3
  refine endP X803 hlk (fun _ => rfl) (lastV X803 hx hret (hb hby e12_6)) ?_ (by decide) (by decide)
  exact ⟨c_803, kc_803, rfl, N803, K804, q803_0, q803_1, q803_2, gh805, q803_4⟩
theorem e37_0 : decode kC34 0 = .ok (.new 18, 3) := by decide +kernel
theorem wd139 (hw : HW a0 Z) : BW a0 Z (.classLink sT2 (18 : Nat) sT1) := wat hw 139 rfl
theorem e37_3 : decode kC34 3 = .ok (.dup, 1) := by decide +kernel
theorem e37_4 : decode kC34 4 = .ok (.aload_n 0, 1) := by decide +kernel
theorem e37_5 : decode kC34 5 = .ok (.invokespecial 137, 3) := by decide +kernel
theorem wd142 (hw : HW a0 Z) : BW a0 Z (.code ⟨sT1, "<init>", "(Ljava/lang/StringBuilder;)V"⟩ kC10 (2 : Nat) (Option.none : Option Jvm.ClassFile.FieldType)) := wat hw 142 rfl
theorem pd27 : parseMethodDescriptor "(Ljava/lang/StringBuilder;)V" = some ⟨[(.object "java/lang/StringBuilder")], none⟩ := by decide +kernel
theorem wd140 (hw : HW a0 Z) : BW a0 Z (.methodLink sT2 (137 : Nat) ⟨sT1, "<init>", "(Ljava/lang/StringBuilder;)V"⟩) := wat hw 140 rfl
theorem wd141 (hw : HW a0 Z) : BW a0 Z (.instanceMethod ⟨sT1, "<init>", "(Ljava/lang/StringBuilder;)V"⟩) := wat hw 141 rfl
theorem e37_8 : decode kC34 8 = .ok (.areturn, 1) := by decide +kernel
def Q_tos (Z : State) (zC : Int32) (vF : Value) (a2 : Addr) (vv : Addr) (kv : ClassId) (vd : List Value) (cdB : Int32) (zB : Int32) (bs : List Int32) (h0 : Heap) (v : Option Value) (h : Heap) (L : List Loc) : Prop := ∃ (r : Addr), ∃ (c : Addr), ∃ (kc : ClassId), ∃ (cdM : Int32), ∃ (zM : Int32), ∃ (vM : List Value), v = some (.ref r) ∧ Fr Z.heap.size L ∧ Keep h0 h [] ∧ h0.size ≤ r ∧ Exa Z h r sT1 ∧ Fld Z h r sT1 "coder" "B" (.int cdM) ∧ Fld Z h r sT1 "value" "[B" (.ref c) ∧ Arv Z h c kc .byte zM vM (.int 0) ∧ (SB bs cdM zM vM)
theorem rm_tos (l : Launch) (Z : State) (a0 : Array Value) (hw : HW a0 Z) (zC : Int32) (vF : Value) (G : GB l a0 Z zC vF) (a2 : Addr) (vv : Addr) (kv : ClassId) (vd : List Value) (cdB : Int32) (zB : Int32) (bs : List Int32) (h0 : Heap) (O0 : Old Z Z.heap.size h0) (Qe : Exa Z h0 a2 sT2) (Qc : Fld Z h0 a2 sT0 "coder" "B" (.int cdB)) (Qn : Fld Z h0 a2 sT0 "count" "I" (iv 34)) (Qm : Fld Z h0 a2 sT0 "maybeLatin1" "Z" (iv 0)) (Qv : Fld Z h0 a2 sT0 "value" "[B" (.ref vv)) (Qa : Arv Z h0 vv kv .byte zB vd (.int 0)) (QE : Exa Z h0 vv "[B") (QB : (BU bs 34 cdB zB vd)) (Ql : (bs.length = 34)) :
    Con l Z (⟨sT2, "toString", "()Ljava/lang/String;"⟩ : MethodName) kC34 1 (some (.object sT1)) ({ frames := 4, cells := 2, slots := 72, locals := 59 } : Room) #[(.ref a2)] h0 (Q_tos Z zC vF a2 vv kv vd cdB zB bs h0) := by
  refine Con.intro (plainFor_of_name pn5) ?_
  intro p e s m below meth c T0 X0 hx hby hml hown0 hnm hret hlk hZ0 e0
  have N0 := Fr.nil Z.heap.size
  refine castGo (g' := mkF m 0 #[.val (.ref a2)] []) (by first | rfl | (simp [entryFrame, mkF, argsToLocals, Value.category]; done)) ?_
  show Go _ _ _ _ (T0.setTop (mkF m 0 #[.val (.ref a2)] []))
  rcases id QB with ⟨hB, rfl, rfl, rfl⟩ | ⟨hB, rfl, rfl, rfl⟩
  · have Qa1 : Arv Z h0 vv kv .byte (34 : Int32) (bs.map lo8V ++ List.replicate (34 - bs.length) (.int 0)) (.int 0) := Qa
    show Go _ _ _ _ (T0.setTop (mkF m 0 #[.val (.ref a2)] []))
    refine g_new X0 hx hZ0 hown0 (wd139 hw) (wd7 hw) (wd8 hw) (by decide) (by decide) e0 (hb hby e37_0) (q := 3) rfl ?_
    intro T806 h806 b806 g806 X806 e806 E806 A806 D806
    have F806_32 := D806 (Or.inr (wd32 hw)) (ty := .byte) (by decide)
    have F806_34 := D806 (Or.inr (wd34 hw)) (ty := (.array .byte)) (by decide)
    refine g_dup X806 hx (hb hby e37_3) (q := 4) rfl rfl ?_
    refine aL X806 hx (hb hby e37_4) (q := 5) rfl rfl rfl ?_
    have gz816 : Z.heap.size ≤ b806 := Nat.le_trans O0.2.1 (Nat.le_of_eq g806.symm)
    have f817 := Qe.ext E806
    have f818 := Qc.ext E806
    have f819 := Qn.ext E806
    have f820 := Qm.ext E806
    have f821 := Qv.ext E806
    have f822 := Qa1.ext E806
    have f823 := QE.ext E806
    have f824 := O0.ext E806
    refine g_sp X806 hx hZ0 hown0 (wd140 hw) (wd141 hw) (wd142 hw) rfl (by decide) e806 (Con.back (W := 1) (rm_sis0 l Z a0 hw zC vF G b806 a2 vv kv (bs.map lo8V ++ List.replicate (34 - bs.length) (.int 0)) h806 f824 A806 F806_32 F806_34 gz816 f817 f818 f819 f820 f821 f822 f823) hZ0 (wd142 hw) (wd8 hw) (by decide) (by decide)) (by rw [hml]; rfl) (lenOf pd27 rfl) rfl (Nat.le_of_eq rfl) (hb hby e37_5) (q := 8) rfl (by decide) (by decide) ?_
    intro v815 T815 L815 X815 Q815
    obtain ⟨c_815, kc_815, rfl, Nq815, K815q, q815_0, q815_1, q815_2, q815_3, q815_4⟩ := Q815
    have N815 := Fr.app N0 Nq815
    show Go _ _ _ _ (T815.setTop (mkF m 8 #[.val (.ref a2)] [(.ref b806)]))
    have K825 : Keep h0 h806 [] := (Keep.refl h0 []).ext E806
    have gh826 : h0.size ≤ b806 := Nat.le_trans (Nat.le_refl _) (Nat.le_of_eq g806.symm)
    have K827 : Keep h0 T815.heap [] := K825.trans K815q (allS (Or.inr gh826) all0)
    refine endP X815 hlk (fun h => by rw [hret] at h; cases h) (lastA X815 hx hret rfl rfl rfl (hb hby e37_8)) ?_ (by decide) (by decide)
    refine ⟨b806, c_815, kc_815, (0 : Int32), (34 : Int32), (bs.map lo8V ++ List.replicate (34 - bs.length) (.int 0)), ?_, ?_, ?_, ?_, ?_, ?_, ?_, ?_, ?_⟩
    · exact rfl
    · exact N815
    · exact K827
    · exact gh826
    · exact q815_0
    · exact q815_1
    · exact q815_2
    · exact q815_4
    · exact (sb_bu (Or.inl ⟨hB, rfl, rfl, rfl⟩) Ql)
  · have Qa1 : Arv Z h0 vv kv .byte (68 : Int32) (flat bs ++ List.replicate (2 * 34 - 2 * bs.length) (.int 0)) (.int 0) := Qa
    show Go _ _ _ _ (T0.setTop (mkF m 0 #[.val (.ref a2)] []))
    refine g_new X0 hx hZ0 hown0 (wd139 hw) (wd7 hw) (wd8 hw) (by decide) (by decide) e0 (hb hby e37_0) (q := 3) rfl ?_
    intro T828 h828 b828 g828 X828 e828 E828 A828 D828
    have F828_32 := D828 (Or.inr (wd32 hw)) (ty := .byte) (by decide)
    have F828_34 := D828 (Or.inr (wd34 hw)) (ty := (.array .byte)) (by decide)
    refine g_dup X828 hx (hb hby e37_3) (q := 4) rfl rfl ?_
    refine aL X828 hx (hb hby e37_4) (q := 5) rfl rfl rfl ?_
    have gz840 : Z.heap.size ≤ b828 := Nat.le_trans O0.2.1 (Nat.le_of_eq g828.symm)
    have f841 := Qe.ext E828
    have f842 := Qc.ext E828
    have f843 := Qn.ext E828
    have f844 := Qm.ext E828
    have f845 := Qv.ext E828
    have f846 := Qa1.ext E828
    have f847 := QE.ext E828
    have f848 := O0.ext E828
    refine g_sp X828 hx hZ0 hown0 (wd140 hw) (wd141 hw) (wd142 hw) rfl (by decide) e828 (Con.back (W := 1) (rm_sis1 l Z a0 hw zC vF G b828 a2 vv kv (flat bs ++ List.replicate (2 * 34 - 2 * bs.length) (.int 0)) h828 f848 A828 F828_32 F828_34 gz840 f841 f842 f843 f844 f845 f846 f847) hZ0 (wd142 hw) (wd8 hw) (by decide) (by decide)) (by rw [hml]; rfl) (lenOf pd27 rfl) rfl (Nat.le_of_eq rfl) (hb hby e37_5) (q := 8) rfl (by decide) (by decide) ?_
    intro v839 T839 L839 X839 Q839
    obtain ⟨c_839, kc_839, rfl, Nq839, K839q, q839_0, q839_1, q839_2, q839_3, q839_4⟩ := Q839
    have N839 := Fr.app N0 Nq839
    show Go _ _ _ _ (T839.setTop (mkF m 8 #[.val (.ref a2)] [(.ref b828)]))
    have K849 : Keep h0 h828 [] := (Keep.refl h0 []).ext E828
    have gh850 : h0.size ≤ b828 := Nat.le_trans (Nat.le_refl _) (Nat.le_of_eq g828.symm)
    have K851 : Keep h0 T839.heap [] := K849.trans K839q (allS (Or.inr gh850) all0)
    refine endP X839 hlk (fun h => by rw [hret] at h; cases h) (lastA X839 hx hret rfl rfl rfl (hb hby e37_8)) ?_ (by decide) (by decide)
    refine ⟨b828, c_839, kc_839, (1 : Int32), (68 : Int32), (flat bs ++ List.replicate (2 * 34 - 2 * bs.length) (.int 0)), ?_, ?_, ?_, ?_, ?_, ?_, ?_, ?_, ?_⟩
    · exact rfl
    · exact N839
    · exact K851
    · exact gh850
    · exact q839_0
    · exact q839_1
    · exact q839_2
    · exact q839_4
    · exact (sb_bu (Or.inr ⟨hB, rfl, rfl, rfl⟩) Ql)
theorem e2_0 : decode kC21 0 = .ok (.iload_n 0, 1) := by decide +kernel
theorem e2_1 : decode kC21 1 = .ok (.ifCond .lt 8, 3) := by decide +kernel
theorem e2_4 : decode kC21 4 = .ok (.iload_n 0, 1) := by decide +kernel
theorem e2_5 : decode kC21 5 = .ok (.iload_n 1, 1) := by decide +kernel
theorem e2_6 : decode kC21 6 = .ok (.if_icmp .lt 10, 3) := by decide +kernel
theorem e2_16 : decode kC21 16 = .ok (.iload_n 0, 1) := by decide +kernel
theorem e2_17 : decode kC21 17 = .ok (.ireturn, 1) := by decide +kernel
def Q_pcin (Z : State) (zC : Int32) (vF : Value) (p0 : Int32) (p1 : Int32) (h0 : Heap) (v : Option Value) (h : Heap) (L : List Loc) : Prop := v = some (.int p0) ∧ Fr Z.heap.size L ∧ h = h0
theorem rm_pcin (l : Launch) (Z : State) (a0 : Array Value) (hw : HW a0 Z) (zC : Int32) (vF : Value) (G : GB l a0 Z zC vF) (p0 : Int32) (p1 : Int32) (h0 : Heap) (O0 : Old Z Z.heap.size h0) (P1 : (¬ (p0 < (0 : Int32)))) (P2 : (p0 < p1)) :
    Con l Z (⟨"jdk/internal/util/Preconditions", "checkIndex", "(IILjava/util/function/BiFunction;)I"⟩ : MethodName) kC21 3 (some .int) ({ frames := 0, cells := 0, slots := 0, locals := 0 } : Room) #[(.int p0), (.int p1), .null] h0 (Q_pcin Z zC vF p0 p1 h0) := by
  refine Con.intro (plainFor_of_name pn1) ?_
  intro p e s m below meth c T0 X0 hx hby hml hown0 hnm hret hlk hZ0 e0
  have N0 := Fr.nil Z.heap.size
  refine castGo (g' := mkF m 0 #[.val (.int p0), .val (.int p1), .val .null] []) (by first | rfl | (simp [entryFrame, mkF, argsToLocals, Value.category]; done)) ?_
  show Go _ _ _ _ (T0.setTop (mkF m 0 #[.val (.int p0), .val (.int p1), .val .null] []))
  refine iL X0 hx (hb hby e2_0) (q := 1) rfl rfl ?_
  refine ifN X0 hx (hb hby e2_1) (q := 4) rfl ((if0 _ _).trans (flt P1).1) ?_
  refine iL X0 hx (hb hby e2_4) (q := 5) rfl rfl ?_
  refine iL X0 hx (hb hby e2_5) (q := 6) rfl rfl ?_
  refine icY X0 hx (hb hby e2_6) (q := 16) (by decide) (by decide) (tlt P2).1 ?_
  refine iL X0 hx (hb hby e2_16) (q := 17) rfl rfl ?_
  refine endP X0 hlk (fun h => by rw [hret] at h; cases h) (lastI X0 hx hret (hb hby e2_17)) ?_ (by decide) (by decide)
  rw [e0]
  exact ⟨rfl, N0, rfl⟩
def Q_pcir (Z : State) (zC : Int32) (vF : Value) (p0 : Int32) (p1 : Int32) (a1 : Addr) (h0 : Heap) (v : Option Value) (h : Heap) (L : List Loc) : Prop := v = some (.int p0) ∧ Fr Z.heap.size L ∧ h = h0
theorem rm_pcir (l : Launch) (Z : State) (a0 : Array Value) (hw : HW a0 Z) (zC : Int32) (vF : Value) (G : GB l a0 Z zC vF) (p0 : Int32) (p1 : Int32) (a1 : Addr) (h0 : Heap) (O0 : Old Z Z.heap.size h0) (P1 : (¬ (p0 < (0 : Int32)))) (P2 : (p0 < p1)) :
    Con l Z (⟨"jdk/internal/util/Preconditions", "checkIndex", "(IILjava/util/function/BiFunction;)I"⟩ : MethodName) kC21 3 (some .int) ({ frames := 0, cells := 0, slots := 0, locals := 0 } : Room) #[(.int p0), (.int p1), (.ref a1)] h0 (Q_pcir Z zC vF p0 p1 a1 h0) := by
  refine Con.intro (plainFor_of_name pn1) ?_
  intro p e s m below meth c T0 X0 hx hby hml hown0 hnm hret hlk hZ0 e0
  have N0 := Fr.nil Z.heap.size
  refine castGo (g' := mkF m 0 #[.val (.int p0), .val (.int p1), .val (.ref a1)] []) (by first | rfl | (simp [entryFrame, mkF, argsToLocals, Value.category]; done)) ?_
  show Go _ _ _ _ (T0.setTop (mkF m 0 #[.val (.int p0), .val (.int p1), .val (.ref a1)] []))
  refine iL X0 hx (hb hby e2_0) (q := 1) rfl rfl ?_
  refine ifN X0 hx (hb hby e2_1) (q := 4) rfl ((if0 _ _).trans (flt P1).1) ?_
  refine iL X0 hx (hb hby e2_4) (q := 5) rfl rfl ?_
  refine iL X0 hx (hb hby e2_5) (q := 6) rfl rfl ?_
  refine icY X0 hx (hb hby e2_6) (q := 16) (by decide) (by decide) (tlt P2).1 ?_
  refine iL X0 hx (hb hby e2_16) (q := 17) rfl rfl ?_
  refine endP X0 hlk (fun h => by rw [hret] at h; cases h) (lastI X0 hx hret (hb hby e2_17)) ?_ (by decide) (by decide)
  rw [e0]
  exact ⟨rfl, N0, rfl⟩
theorem e9_0 : decode kC7 0 = .ok (.iload_n 0, 1) := by decide +kernel
theorem e9_1 : decode kC7 1 = .ok (.iload_n 1, 1) := by decide +kernel
theorem e9_2 : decode kC7 2 = .ok (.getstatic 1053, 3) := by decide +kernel
theorem e9_5 : decode kC7 5 = .ok (.invokestatic 1059, 3) := by decide +kernel
theorem wd254 (hw : HW a0 Z) : BW a0 Z (.code ⟨sT13, "checkIndex", "(IILjava/util/function/BiFunction;)I"⟩ kC21 (3 : Nat) (Option.some Jvm.ClassFile.FieldType.int)) := wat hw 254 rfl
theorem pd28 : parseMethodDescriptor "(IILjava/util/function/BiFunction;)I" = some ⟨[.int, .int, (.object "java/util/function/BiFunction")], some .int⟩ := by decide +kernel
theorem wd252 (hw : HW a0 Z) : BW a0 Z (.methodLink sT1 (1059 : Nat) ⟨sT13, "checkIndex", "(IILjava/util/function/BiFunction;)I"⟩) := wat hw 252 rfl
theorem wd253 (hw : HW a0 Z) : BW a0 Z (.static ⟨sT13, "checkIndex", "(IILjava/util/function/BiFunction;)I"⟩) := wat hw 253 rfl
theorem e9_8 : decode kC7 8 = .ok (.pop, 1) := by decide +kernel
theorem e9_9 : decode kC7 9 = .ok (.return_, 1) := by decide +kernel
def Q_sci (Z : State) (zC : Int32) (vF : Value) (p0 : Int32) (p1 : Int32) (h0 : Heap) (v : Option Value) (h : Heap) (L : List Loc) : Prop := v = none ∧ Fr Z.heap.size L ∧ h = h0
theorem rm_sci (l : Launch) (Z : State) (a0 : Array Value) (hw : HW a0 Z) (zC : Int32) (vF : Value) (G : GB l a0 Z zC vF) (p0 : Int32) (p1 : Int32) (h0 : Heap) (O0 : Old Z Z.heap.size h0) (P1 : (¬ (p0 < (0 : Int32)))) (P2 : (p0 < p1)) :
    Con l Z (⟨sT1, "checkIndex", "(II)V"⟩ : MethodName) kC7 2 none ({ frames := 1, cells := 0, slots := 0, locals := 14 } : Room) #[(.int p0), (.int p1)] h0 (Q_sci Z zC vF p0 p1 h0) := by
  obtain ⟨hl, SC, PC, rF, SF, SA, SH, SL, hX⟩ := id G
  refine Con.intro (plainFor_of_name pn2) ?_
  intro p e s m below meth c T0 X0 hx hby hml hown0 hnm hret hlk hZ0 e0
  have N0 := Fr.nil Z.heap.size
  refine castGo (g' := mkF m 0 #[.val (.int p0), .val (.int p1)] []) (by first | rfl | (simp [entryFrame, mkF, argsToLocals, Value.category]; done)) ?_
  show Go _ _ _ _ (T0.setTop (mkF m 0 #[.val (.int p0), .val (.int p1)] []))
  rcases id rF with hF | ⟨aF, hF⟩
  · have SF1 : Sta Z Z.heap "jdk/internal/util/Preconditions" "SIOOBE_FORMATTER" "Ljava/util/function/BiFunction;" .null := by rw [← hF]; exact SF
    show Go _ _ _ _ (T0.setTop (mkF m 0 #[.val (.int p0), .val (.int p1)] []))
    refine iL X0 hx (hb hby e9_0) (q := 1) rfl rfl ?_
    refine iL X0 hx (hb hby e9_1) (q := 2) rfl rfl ?_
    refine g_getS X0 hx hZ0 hown0 (host := "") (Or.inl (wd250 hw)) Via.refl (SF1.ext O0.2) e0 (hb hby e9_2) (q := 5) rfl ?_
    intro T852 X852 e852
    refine g_st X852 hx hZ0 hown0 (wd252 hw) (wd253 hw) (wd251 hw) (wd254 hw) (by decide) e852 (Con.back (W := 0) (rm_pcin l Z a0 hw zC vF G p0 p1 h0 O0 P1 P2) hZ0 (wd254 hw) (wd251 hw) (by decide) (by decide)) (by rw [hml]; rfl) (lenOf pd28 rfl) rfl (Nat.le_of_eq rfl) (hb hby e9_5) (q := 8) rfl (by decide) (by decide) ?_
    intro v853 T853 L853 X853 Q853
    obtain ⟨rfl, Nq853, e853⟩ := Q853
    have N853 := Fr.app N0 Nq853
    show Go _ _ _ _ (T853.setTop (mkF m 8 #[.val (.int p0), .val (.int p1)] [(.int p0)]))
    refine g_pop X853 hx (hb hby e9_8) (q := 9) rfl rfl ?_
    refine endP X853 hlk (fun _ => rfl) (lastV X853 hx hret (hb hby e9_9)) ?_ (by decide) (by decide)
    rw [e853]
    exact ⟨rfl, N853, rfl⟩
  · have SF1 : Sta Z Z.heap "jdk/internal/util/Preconditions" "SIOOBE_FORMATTER" "Ljava/util/function/BiFunction;" (.ref aF) := by rw [← hF]; exact SF
    show Go _ _ _ _ (T0.setTop (mkF m 0 #[.val (.int p0), .val (.int p1)] []))
    refine iL X0 hx (hb hby e9_0) (q := 1) rfl rfl ?_
    refine iL X0 hx (hb hby e9_1) (q := 2) rfl rfl ?_
    refine g_getS X0 hx hZ0 hown0 (host := "") (Or.inl (wd250 hw)) Via.refl (SF1.ext O0.2) e0 (hb hby e9_2) (q := 5) rfl ?_
    intro T854 X854 e854
    refine g_st X854 hx hZ0 hown0 (wd252 hw) (wd253 hw) (wd251 hw) (wd254 hw) (by decide) e854 (Con.back (W := 0) (rm_pcir l Z a0 hw zC vF G p0 p1 aF h0 O0 P1 P2) hZ0 (wd254 hw) (wd251 hw) (by decide) (by decide)) (by rw [hml]; rfl) (lenOf pd28 rfl) rfl (Nat.le_of_eq rfl) (hb hby e9_5) (q := 8) rfl (by decide) (by decide) ?_
    intro v855 T855 L855 X855 Q855
    obtain ⟨rfl, Nq855, e855⟩ := Q855
    have N855 := Fr.app N0 Nq855
    show Go _ _ _ _ (T855.setTop (mkF m 8 #[.val (.int p0), .val (.int p1)] [(.int p0)]))
    refine g_pop X855 hx (hb hby e9_8) (q := 9) rfl rfl ?_
    refine endP X855 hlk (fun _ => rfl) (lastV X855 hx hret (hb hby e9_9)) ?_ (by decide) (by decide)
    rw [e855]
    exact ⟨rfl, N855, rfl⟩
theorem nar_of255 {c : Int32} (h0 : ¬ c < 0) (h1 : ¬ (255 : Int32) < c) : nar .char c = c := all256 (P := fun c => nar .char c = c) (by decide +kernel) h0 h1
theorem e17_0 : decode kC45 0 = .ok (.iload_n 1, 1) := by decide +kernel
theorem e17_1 : decode kC45 1 = .ok (.aload_n 0, 1) := by decide +kernel
theorem e17_2 : decode kC45 2 = .ok (.arraylength, 1) := by decide +kernel
theorem e17_3 : decode kC45 3 = .ok (.invokestatic 9, 3) := by decide +kernel
theorem wd249 (hw : HW a0 Z) : BW a0 Z (.code ⟨sT1, "checkIndex", "(II)V"⟩ kC7 (2 : Nat) (Option.none : Option Jvm.ClassFile.FieldType)) := wat hw 249 rfl
theorem pd29 : parseMethodDescriptor "(II)V" = some ⟨[.int, .int], none⟩ := by decide +kernel
theorem wd247 (hw : HW a0 Z) : BW a0 Z (.methodLink sT10 (9 : Nat) ⟨sT1, "checkIndex", "(II)V"⟩) := wat hw 247 rfl
theorem wd248 (hw : HW a0 Z) : BW a0 Z (.static ⟨sT1, "checkIndex", "(II)V"⟩) := wat hw 248 rfl
theorem e17_6 : decode kC45 6 = .ok (.aload_n 0, 1) := by decide +kernel
theorem e17_7 : decode kC45 7 = .ok (.iload_n 1, 1) := by decide +kernel
theorem e17_8 : decode kC45 8 = .ok (.baload, 1) := by decide +kernel
theorem e17_9 : decode kC45 9 = .ok (.sipush 255, 3) := by decide +kernel
theorem e17_12 : decode kC45 12 = .ok (.iand, 1) := by decide +kernel
theorem e17_13 : decode kC45 13 = .ok (.i2c, 1) := by decide +kernel
theorem e17_14 : decode kC45 14 = .ok (.ireturn, 1) := by decide +kernel
def Q_lca0 (Z : State) (zC : Int32) (vF : Value) (a1 : Addr) (kb : ClassId) (c0 : Int32) (c1 : Int32) (h0 : Heap) (v : Option Value) (h : Heap) (L : List Loc) : Prop := v = some (.int c0) ∧ Fr Z.heap.size L ∧ h = h0
theorem rm_lca0 (l : Launch) (Z : State) (a0 : Array Value) (hw : HW a0 Z) (zC : Int32) (vF : Value) (G : GB l a0 Z zC vF) (a1 : Addr) (kb : ClassId) (c0 : Int32) (c1 : Int32) (h0 : Heap) (O0 : Old Z Z.heap.size h0) (P1 : Arv Z h0 a1 kb .byte (2 : Int32) [(.int (StrChars.lo8 c0)), (.int (StrChars.lo8 c1))] (.int 0)) (H : (¬ (c0 < (0 : Int32)))) (J : (¬ ((255 : Int32) < c0))) :
    Con l Z (⟨"java/lang/StringLatin1", "charAt", "([BI)C"⟩ : MethodName) kC45 2 (some .char) ({ frames := 2, cells := 0, slots := 0, locals := 27 } : Room) #[(.ref a1), (iv 0)] h0 (Q_lca0 Z zC vF a1 kb c0 c1 h0) := by
  refine Con.intro (plainFor_of_name pn3) ?_
  intro p e s m below meth c T0 X0 hx hby hml hown0 hnm hret hlk hZ0 e0
  have N0 := Fr.nil Z.heap.size
  refine castGo (g' := mkF m 0 #[.val (.ref a1), .val (iv 0)] []) (by first | rfl | (simp [entryFrame, mkF, argsToLocals, Value.category]; done)) ?_
  show Go _ _ _ _ (T0.setTop (mkF m 0 #[.val (.ref a1), .val (iv 0)] []))
  refine iL X0 hx (hb hby e17_0) (q := 1) rfl rfl ?_
  refine aL X0 hx (hb hby e17_1) (q := 2) rfl rfl rfl ?_
  refine g_len X0 hx hZ0 P1 e0 (hb hby e17_2) (q := 3) rfl ?_
  refine g_st X0 hx hZ0 hown0 (wd247 hw) (wd248 hw) (wd8 hw) (wd249 hw) (by decide) e0 (Con.back (W := 0) (rm_sci l Z a0 hw zC vF G (0 : Int32) (2 : Int32) h0 O0 (by decide : ¬ ((0 : Int32) < (0 : Int32))) (by decide : (0 : Int32) < (2 : Int32))) hZ0 (wd249 hw) (wd8 hw) (by decide) (by decide)) (by rw [hml]; rfl) (lenOf pd29 rfl) rfl (Nat.le_of_eq rfl) (hb hby e17_3) (q := 6) rfl (by decide) (by decide) ?_
  intro v856 T856 L856 X856 Q856
  obtain ⟨rfl, Nq856, e856⟩ := Q856
  have N856 := Fr.app N0 Nq856
  show Go _ _ _ _ (T856.setTop (mkF m 6 #[.val (.ref a1), .val (iv 0)] []))
  refine aL X856 hx (hb hby e17_6) (q := 7) rfl rfl rfl ?_
  refine iL X856 hx (hb hby e17_7) (q := 8) rfl rfl ?_
  refine g_ldB X856 hx hZ0 P1 (i := 0) (by decide) (by decide) (by decide) (v := (.int (StrChars.lo8 c0))) rfl e856 (hb hby e17_8) (q := 9) rfl ?_
  refine pI X856 hx (hb hby e17_9) (q := 12) rfl (z := (255 : Int32)) rfl ?_
  refine g_iand X856 hx (hb hby e17_12) (q := 13) rfl (z := c0) (back8 H J) ?_
  refine g_i2c X856 hx (hb hby e17_13) (q := 14) rfl (z := c0) (i2c255 H J) ?_
  refine endP X856 hlk (fun h => by rw [hret] at h; cases h) (lastN X856 hx (t := .char) (z' := c0) hret (by simp) (nar_of255 H J) (hb hby e17_14)) ?_ (by decide) (by decide)
  rw [e856]
  exact ⟨rfl, N856, rfl⟩
theorem e31_0 : decode kC31 0 = .ok (.iload_n 0, 1) := by decide +kernel
theorem e31_1 : decode kC31 1 = .ok (.aload_n 1, 1) := by decide +kernel
theorem e31_2 : decode kC31 2 = .ok (.invokestatic 48, 3) := by decide +kernel
theorem e31_5 : decode kC31 5 = .ok (.invokestatic 414, 3) := by decide +kernel
theorem wd317 (hw : HW a0 Z) : BW a0 Z (.methodLink sT5 (414 : Nat) ⟨sT1, "checkIndex", "(II)V"⟩) := wat hw 317 rfl
theorem e31_8 : decode kC31 8 = .ok (.return_, 1) := by decide +kernel
def Q_uci0 (Z : State) (zC : Int32) (vF : Value) (a1 : Addr) (kb : ClassId) (vs : List Value) (h0 : Heap) (v : Option Value) (h : Heap) (L : List Loc) : Prop := v = none ∧ Fr Z.heap.size L ∧ h = h0
theorem rm_uci0 (l : Launch) (Z : State) (a0 : Array Value) (hw : HW a0 Z) (zC : Int32) (vF : Value) (G : GB l a0 Z zC vF) (a1 : Addr) (kb : ClassId) (vs : List Value) (h0 : Heap) (O0 : Old Z Z.heap.size h0) (P1 : Arv Z h0 a1 kb .byte (4 : Int32) vs (.int 0)) :
    Con l Z (⟨"java/lang/StringUTF16", "checkIndex", "(I[B)V"⟩ : MethodName) kC31 2 none ({ frames := 2, cells := 0, slots := 0, locals := 27 } : Room) #[(iv 0), (.ref a1)] h0 (Q_uci0 Z zC vF a1 kb vs h0) := by
  refine Con.intro (plainFor_of_name pn0) ?_
  intro p e s m below meth c T0 X0 hx hby hml hown0 hnm hret hlk hZ0 e0
  have N0 := Fr.nil Z.heap.size
  refine castGo (g' := mkF m 0 #[.val (iv 0), .val (.ref a1)] []) (by first | rfl | (simp [entryFrame, mkF, argsToLocals, Value.category]; done)) ?_
  show Go _ _ _ _ (T0.setTop (mkF m 0 #[.val (iv 0), .val (.ref a1)] []))
  refine iL X0 hx (hb hby e31_0) (q := 1) rfl rfl ?_
  refine aL X0 hx (hb hby e31_1) (q := 2) rfl rfl rfl ?_
  refine g_st X0 hx hZ0 hown0 (wd299 hw) (wd300 hw) (wd22 hw) (wd301 hw) (by decide) e0 (Con.back (W := 1) (rm_ulen l Z a0 hw zC vF G a1 kb vs 4 h0 O0 P1 (show 4 < 1000 from by omega)) hZ0 (wd301 hw) (wd22 hw) (by decide) (by decide)) (by rw [hml]; rfl) (lenOf pd2 rfl) rfl (Nat.le_of_eq rfl) (hb hby e31_2) (q := 5) rfl (by decide) (by decide) ?_
  intro v857 T857 L857 X857 Q857
  obtain ⟨rfl, Nq857, e857⟩ := Q857
  have N857 := Fr.app N0 Nq857
  show Go _ _ _ _ (T857.setTop (mkF m 5 #[.val (iv 0), .val (.ref a1)] [(.int (Int32.ofNat (4 / 2))), (iv 0)]))
  refine g_st X857 hx hZ0 hown0 (wd317 hw) (wd248 hw) (wd8 hw) (wd249 hw) (by decide) e857 (Con.back (W := 0) (rm_sci l Z a0 hw zC vF G (0 : Int32) (Int32.ofNat (4 / 2)) h0 O0 (by decide : ¬ ((0 : Int32) < (0 : Int32))) (by decide : (0 : Int32) < (Int32.ofNat (4 / 2)))) hZ0 (wd249 hw) (wd8 hw) (by decide) (by decide)) (by rw [hml]; rfl) (lenOf pd29 rfl) rfl (Nat.le_of_eq rfl) (hb hby e31_5) (q := 8) rfl (by decide) (by decide) ?_
  intro v858 T858 L858 X858 Q858
  obtain ⟨rfl, Nq858, e858⟩ := Q858
  have N858 := Fr.app N857 Nq858
  show Go _ _ _ _ (T858.setTop (mkF m 8 #[.val (iv 0), .val (.ref a1)] []))
  refine endP X858 hlk (fun _ => rfl) (lastV X858 hx hret (hb hby e31_8)) ?_ (by decide) (by decide)
  rw [e858]
  exact ⟨rfl, N858, rfl⟩
theorem e29_0 : decode kC22 0 = .ok (.iload_n 1, 1) := by decide +kernel
theorem e29_1 : decode kC22 1 = .ok (.aload_n 0, 1) := by decide +kernel
theorem e29_2 : decode kC22 2 = .ok (.invokestatic 67, 3) := by decide +kernel
theorem wd316 (hw : HW a0 Z) : BW a0 Z (.code ⟨sT5, "checkIndex", "(I[B)V"⟩ kC31 (2 : Nat) (Option.none : Option Jvm.ClassFile.FieldType)) := wat hw 316 rfl
theorem pd30 : parseMethodDescriptor "(I[B)V" = some ⟨[.int, (.array .byte)], none⟩ := by decide +kernel
theorem wd314 (hw : HW a0 Z) : BW a0 Z (.methodLink sT5 (67 : Nat) ⟨sT5, "checkIndex", "(I[B)V"⟩) := wat hw 314 rfl
theorem wd315 (hw : HW a0 Z) : BW a0 Z (.static ⟨sT5, "checkIndex", "(I[B)V"⟩) := wat hw 315 rfl
theorem e29_5 : decode kC22 5 = .ok (.aload_n 0, 1) := by decide +kernel
theorem e29_6 : decode kC22 6 = .ok (.iload_n 1, 1) := by decide +kernel
theorem e29_7 : decode kC22 7 = .ok (.invokestatic 71, 3) := by decide +kernel
theorem e29_10 : decode kC22 10 = .ok (.ireturn, 1) := by decide +kernel
def Q_uca0 (Z : State) (zC : Int32) (vF : Value) (a1 : Addr) (kb : ClassId) (c0 : Int32) (c1 : Int32) (h0 : Heap) (v : Option Value) (h : Heap) (L : List Loc) : Prop := v = some (.int c0) ∧ Fr Z.heap.size L ∧ h = h0
theorem rm_uca0 (l : Launch) (Z : State) (a0 : Array Value) (hw : HW a0 Z) (zC : Int32) (vF : Value) (G : GB l a0 Z zC vF) (a1 : Addr) (kb : ClassId) (c0 : Int32) (c1 : Int32) (h0 : Heap) (O0 : Old Z Z.heap.size h0) (P1 : Arv Z h0 a1 kb .byte (4 : Int32) (flat ([c0, c1] : List Int32)) (.int 0)) (Hr : (∀ x ∈ ([c0, c1] : List Int32), ¬ x < 0 ∧ ¬ (65535 : Int32) < x)) :
    Con l Z (⟨"java/lang/StringUTF16", "charAt", "([BI)C"⟩ : MethodName) kC22 2 (some .char) ({ frames := 3, cells := 0, slots := 0, locals := 40 } : Room) #[(.ref a1), (iv 0)] h0 (Q_uca0 Z zC vF a1 kb c0 c1 h0) := by
  refine Con.intro (plainFor_of_name pn0) ?_
  intro p e s m below meth c T0 X0 hx hby hml hown0 hnm hret hlk hZ0 e0
  have N0 := Fr.nil Z.heap.size
  refine castGo (g' := mkF m 0 #[.val (.ref a1), .val (iv 0)] []) (by first | rfl | (simp [entryFrame, mkF, argsToLocals, Value.category]; done)) ?_
  show Go _ _ _ _ (T0.setTop (mkF m 0 #[.val (.ref a1), .val (iv 0)] []))
  refine iL X0 hx (hb hby e29_0) (q := 1) rfl rfl ?_
  refine aL X0 hx (hb hby e29_1) (q := 2) rfl rfl rfl ?_
  refine g_st X0 hx hZ0 hown0 (wd314 hw) (wd315 hw) (wd22 hw) (wd316 hw) (by decide) e0 (Con.back (W := 0) (rm_uci0 l Z a0 hw zC vF G a1 kb (flat ([c0, c1] : List Int32)) h0 O0 P1) hZ0 (wd316 hw) (wd22 hw) (by decide) (by decide)) (by rw [hml]; rfl) (lenOf pd30 rfl) rfl (Nat.le_of_eq rfl) (hb hby e29_2) (q := 5) rfl (by decide) (by decide) ?_
  intro v859 T859 L859 X859 Q859
  obtain ⟨rfl, Nq859, e859⟩ := Q859
  have N859 := Fr.app N0 Nq859
  show Go _ _ _ _ (T859.setTop (mkF m 5 #[.val (.ref a1), .val (iv 0)] []))
  refine aL X859 hx (hb hby e29_5) (q := 6) rfl rfl rfl ?_
  refine iL X859 hx (hb hby e29_6) (q := 7) rfl rfl ?_
  refine g_st X859 hx hZ0 hown0 (wd280 hw) (wd281 hw) (wd22 hw) (wd282 hw) (by decide) e859 (Con.back (W := 0) (rm_gch l Z a0 hw zC vF G a1 kb 0 4 ([c0, c1] : List Int32) h0 O0 P1 (show 4 = 2 * ([c0, c1] : List Int32).length from by first | rfl | omega | (simp; done)) (show 0 < ([c0, c1] : List Int32).length from by first | rfl | omega | (simp; done)) (show 4 < 1000 from by first | rfl | omega | (simp; done)) Hr) hZ0 (wd282 hw) (wd22 hw) (by decide) (by decide)) (by rw [hml]; rfl) (lenOf pd10 rfl) rfl (Nat.le_of_eq rfl) (hb hby e29_7) (q := 10) rfl (by decide) (by decide) ?_
  intro v860 T860 L860 X860 Q860
  obtain ⟨rfl, Nq860, e860⟩ := Q860
  have N860 := Fr.app N859 Nq860
  show Go _ _ _ _ (T860.setTop (mkF m 10 #[.val (.ref a1), .val (iv 0)] [(.int (([c0, c1] : List Int32).getD 0 0))]))
  show Go _ _ _ _ (T860.setTop (mkF m 10 #[.val (.ref a1), .val (iv 0)] [(.int c0)]))
  refine endP X860 hlk (fun h => by rw [hret] at h; cases h) (lastN X860 hx (t := .char) (z' := c0) hret (by simp) (nar_of (Hr _ (by simp)).1 (Hr _ (by simp)).2) (hb hby e29_10)) ?_ (by decide) (by decide)
  rw [e860]
  exact ⟨rfl, N860, rfl⟩
theorem e14_0 : decode kC13 0 = .ok (.aload_n 0, 1) := by decide +kernel
theorem e14_1 : decode kC13 1 = .ok (.invokevirtual 492, 3) := by decide +kernel
theorem wd242 (hw : HW a0 Z) : BW a0 Z (.code ⟨sT1, "isLatin1", "()Z"⟩ kC1 (1 : Nat) (Option.some Jvm.ClassFile.FieldType.boolean)) := wat hw 242 rfl
theorem wd241 (hw : HW a0 Z) : BW a0 Z (.selects sT1 ⟨sT1, "isLatin1", "()Z"⟩ ⟨sT1, "isLatin1", "()Z"⟩) := wat hw 241 rfl
theorem wd238 (hw : HW a0 Z) : BW a0 Z (.methodLink sT1 (492 : Nat) ⟨sT1, "isLatin1", "()Z"⟩) := wat hw 238 rfl
theorem wd239 (hw : HW a0 Z) : BW a0 Z (.declares ⟨sT1, "isLatin1", "()Z"⟩) := wat hw 239 rfl
theorem wd240 (hw : HW a0 Z) : BW a0 Z (.instanceMethod ⟨sT1, "isLatin1", "()Z"⟩) := wat hw 240 rfl
theorem e14_4 : decode kC13 4 = .ok (.ifCond .eq 12, 3) := by decide +kernel
theorem e14_7 : decode kC13 7 = .ok (.aload_n 0, 1) := by decide +kernel
theorem e14_8 : decode kC13 8 = .ok (.getfield 9, 3) := by decide +kernel
theorem e14_11 : decode kC13 11 = .ok (.iload_n 1, 1) := by decide +kernel
theorem e14_12 : decode kC13 12 = .ok (.invokestatic 495, 3) := by decide +kernel
theorem wd246 (hw : HW a0 Z) : BW a0 Z (.code ⟨sT10, "charAt", "([BI)C"⟩ kC45 (2 : Nat) (Option.some Jvm.ClassFile.FieldType.char)) := wat hw 246 rfl
theorem wd243 (hw : HW a0 Z) : BW a0 Z (.methodLink sT1 (495 : Nat) ⟨sT10, "charAt", "([BI)C"⟩) := wat hw 243 rfl
theorem wd244 (hw : HW a0 Z) : BW a0 Z (.static ⟨sT10, "charAt", "([BI)C"⟩) := wat hw 244 rfl
theorem e14_15 : decode kC13 15 = .ok (.ireturn, 1) := by decide +kernel
theorem e14_16 : decode kC13 16 = .ok (.aload_n 0, 1) := by decide +kernel
theorem e14_17 : decode kC13 17 = .ok (.getfield 9, 3) := by decide +kernel
theorem e14_20 : decode kC13 20 = .ok (.iload_n 1, 1) := by decide +kernel
theorem e14_21 : decode kC13 21 = .ok (.invokestatic 498, 3) := by decide +kernel
theorem wd313 (hw : HW a0 Z) : BW a0 Z (.code ⟨sT5, "charAt", "([BI)C"⟩ kC22 (2 : Nat) (Option.some Jvm.ClassFile.FieldType.char)) := wat hw 313 rfl
theorem wd311 (hw : HW a0 Z) : BW a0 Z (.methodLink sT1 (498 : Nat) ⟨sT5, "charAt", "([BI)C"⟩) := wat hw 311 rfl
theorem wd312 (hw : HW a0 Z) : BW a0 Z (.static ⟨sT5, "charAt", "([BI)C"⟩) := wat hw 312 rfl
theorem e14_24 : decode kC13 24 = .ok (.ireturn, 1) := by decide +kernel
def Q_sca0 (Z : State) (zC : Int32) (vF : Value) (a1 : Addr) (t : Addr) (kb : ClassId) (cd : Int32) (z : Int32) (vs : List Value) (c0 : Int32) (c1 : Int32) (h0 : Heap) (v : Option Value) (h : Heap) (L : List Loc) : Prop := v = some (.int c0) ∧ Fr Z.heap.size L ∧ h = h0
theorem rm_sca0 (l : Launch) (Z : State) (a0 : Array Value) (hw : HW a0 Z) (zC : Int32) (vF : Value) (G : GB l a0 Z zC vF) (a1 : Addr) (t : Addr) (kb : ClassId) (cd : Int32) (z : Int32) (vs : List Value) (c0 : Int32) (c1 : Int32) (h0 : Heap) (O0 : Old Z Z.heap.size h0) (Pe : Exa Z h0 a1 sT1) (Pc : Fld Z h0 a1 sT1 "coder" "B" (.int cd)) (Pv : Fld Z h0 a1 sT1 "value" "[B" (.ref t)) (Pa : Arv Z h0 t kb .byte z vs (.int 0)) (PS : (SB ([c0, c1] : List Int32) cd z vs)) :
    Con l Z (⟨sT1, "charAt", "(I)C"⟩ : MethodName) kC13 2 (some .char) ({ frames := 4, cells := 0, slots := 0, locals := 53 } : Room) #[(.ref a1), (iv 0)] h0 (Q_sca0 Z zC vF a1 t kb cd z vs c0 c1 h0) := by
  refine Con.intro (plainFor_of_name pn2) ?_
  intro p e s m below meth c T0 X0 hx hby hml hown0 hnm hret hlk hZ0 e0
  have N0 := Fr.nil Z.heap.size
  refine castGo (g' := mkF m 0 #[.val (.ref a1), .val (iv 0)] []) (by first | rfl | (simp [entryFrame, mkF, argsToLocals, Value.category]; done)) ?_
  show Go _ _ _ _ (T0.setTop (mkF m 0 #[.val (.ref a1), .val (iv 0)] []))
  rcases id PS with ⟨hS, rfl, rfl, rfl⟩ | ⟨hS, rfl, rfl, rfl⟩
  · have Pa1 : Arv Z h0 t kb .byte (2 : Int32) [(.int (StrChars.lo8 c0)), (.int (StrChars.lo8 c1))] (.int 0) := Pa
    have rc := hS c0 (by simp)
    show Go _ _ _ _ (T0.setTop (mkF m 0 #[.val (.ref a1), .val (iv 0)] []))
    refine aL X0 hx (hb hby e14_0) (q := 1) rfl rfl rfl ?_
    refine g_vi X0 hx hZ0 hown0 (wd238 hw) (wd239 hw) (notFace_of_selects (args := #[]) (mvT hZ0 (wd241 hw))) (wd241 hw) (wd240 hw) (by decide) Pe e0 (Con.back (W := 0) (rm_isl0 l Z a0 hw zC vF G a1 h0 O0 Pc) hZ0 (wd242 hw) (wd8 hw) (by decide) (by decide)) (by rw [hml]; rfl) (lenOf pd19 rfl) rfl (Nat.le_of_eq rfl) (hb hby e14_1) (q := 4) rfl (by decide) (by decide) ?_
    intro v861 T861 L861 X861 Q861
    obtain ⟨rfl, Nq861, e861⟩ := Q861
    have N861 := Fr.app N0 Nq861
    show Go _ _ _ _ (T861.setTop (mkF m 4 #[.val (.ref a1), .val (iv 0)] [(iv 1)]))
    refine ifN X861 hx (hb hby e14_4) (q := 7) rfl (by decide) ?_
    refine aL X861 hx (hb hby e14_7) (q := 8) rfl rfl rfl ?_
    refine g_getF X861 hx hZ0 hown0 (host := "") (Or.inl (wd33 hw)) Via.refl Pv e861 (hb hby e14_8) (q := 11) rfl ?_
    intro T862 X862 e862
    refine iL X862 hx (hb hby e14_11) (q := 12) rfl rfl ?_
    refine g_st X862 hx hZ0 hown0 (wd243 hw) (wd244 hw) (wd245 hw) (wd246 hw) (by decide) e862 (Con.back (W := 0) (rm_lca0 l Z a0 hw zC vF G t kb c0 c1 h0 O0 Pa1 rc.1 rc.2) hZ0 (wd246 hw) (wd245 hw) (by decide) (by decide)) (by rw [hml]; rfl) (lenOf pd10 rfl) rfl (Nat.le_of_eq rfl) (hb hby e14_12) (q := 15) rfl (by decide) (by decide) ?_
    intro v863 T863 L863 X863 Q863
    obtain ⟨rfl, Nq863, e863⟩ := Q863
    have N863 := Fr.app N861 Nq863
    show Go _ _ _ _ (T863.setTop (mkF m 15 #[.val (.ref a1), .val (iv 0)] [(.int c0)]))
    refine endP X863 hlk (fun h => by rw [hret] at h; cases h) (lastN X863 hx (t := .char) (z' := c0) hret (by simp) (nar_of255 rc.1 rc.2) (hb hby e14_15)) ?_ (by decide) (by decide)
    rw [e863]
    exact ⟨rfl, N863, rfl⟩
  · have Pa1 : Arv Z h0 t kb .byte (4 : Int32) (flat ([c0, c1] : List Int32)) (.int 0) := Pa
    show Go _ _ _ _ (T0.setTop (mkF m 0 #[.val (.ref a1), .val (iv 0)] []))
    refine aL X0 hx (hb hby e14_0) (q := 1) rfl rfl rfl ?_
    refine g_vi X0 hx hZ0 hown0 (wd238 hw) (wd239 hw) (notFace_of_selects (args := #[]) (mvT hZ0 (wd241 hw))) (wd241 hw) (wd240 hw) (by decide) Pe e0 (Con.back (W := 0) (rm_isl1 l Z a0 hw zC vF G a1 h0 O0 Pc) hZ0 (wd242 hw) (wd8 hw) (by decide) (by decide)) (by rw [hml]; rfl) (lenOf pd19 rfl) rfl (Nat.le_of_eq rfl) (hb hby e14_1) (q := 4) rfl (by decide) (by decide) ?_
    intro v864 T864 L864 X864 Q864
    obtain ⟨rfl, Nq864, e864⟩ := Q864
    have N864 := Fr.app N0 Nq864
    show Go _ _ _ _ (T864.setTop (mkF m 4 #[.val (.ref a1), .val (iv 0)] [(iv 0)]))
    refine ifY X864 hx (hb hby e14_4) (q := 16) (by decide) (by decide) (by decide) ?_
    refine aL X864 hx (hb hby e14_16) (q := 17) rfl rfl rfl ?_
    refine g_getF X864 hx hZ0 hown0 (host := "") (Or.inl (wd33 hw)) Via.refl Pv e864 (hb hby e14_17) (q := 20) rfl ?_
    intro T865 X865 e865
    refine iL X865 hx (hb hby e14_20) (q := 21) rfl rfl ?_
    refine g_st X865 hx hZ0 hown0 (wd311 hw) (wd312 hw) (wd22 hw) (wd313 hw) (by decide) e865 (Con.back (W := 0) (rm_uca0 l Z a0 hw zC vF G t kb c0 c1 h0 O0 Pa1 hS.1) hZ0 (wd313 hw) (wd22 hw) (by decide) (by decide)) (by rw [hml]; rfl) (lenOf pd10 rfl) rfl (Nat.le_of_eq rfl) (hb hby e14_21) (q := 24) rfl (by decide) (by decide) ?_
    intro v866 T866 L866 X866 Q866
    obtain ⟨rfl, Nq866, e866⟩ := Q866
    have N866 := Fr.app N864 Nq866
    show Go _ _ _ _ (T866.setTop (mkF m 24 #[.val (.ref a1), .val (iv 0)] [(.int c0)]))
    refine endP X866 hlk (fun h => by rw [hret] at h; cases h) (lastN X866 hx (t := .char) (z' := c0) hret (by simp) (nar_of (hS.1 _ (by simp)).1 (hS.1 _ (by simp)).2) (hb hby e14_24)) ?_ (by decide) (by decide)
    rw [e866]
    exact ⟨rfl, N866, rfl⟩
def Q_lca1 (Z : State) (zC : Int32) (vF : Value) (a1 : Addr) (kb : ClassId) (c0 : Int32) (c1 : Int32) (h0 : Heap) (v : Option Value) (h : Heap) (L : List Loc) : Prop := v = some (.int c1) ∧ Fr Z.heap.size L ∧ h = h0
theorem rm_lca1 (l : Launch) (Z : State) (a0 : Array Value) (hw : HW a0 Z) (zC : Int32) (vF : Value) (G : GB l a0 Z zC vF) (a1 : Addr) (kb : ClassId) (c0 : Int32) (c1 : Int32) (h0 : Heap) (O0 : Old Z Z.heap.size h0) (P1 : Arv Z h0 a1 kb .byte (2 : Int32) [(.int (StrChars.lo8 c0)), (.int (StrChars.lo8 c1))] (.int 0)) (H : (¬ (c1 < (0 : Int32)))) (J : (¬ ((255 : Int32) < c1))) :
    Con l Z (⟨"java/lang/StringLatin1", "charAt", "([BI)C"⟩ : MethodName) kC45 2 (some .char) ({ frames := 2, cells := 0, slots := 0, locals := 27 } : Room) #[(.ref a1), (iv 1)] h0 (Q_lca1 Z zC vF a1 kb c0 c1 h0) := by
  refine Con.intro (plainFor_of_name pn3) ?_
  intro p e s m below meth c T0 X0 hx hby hml hown0 hnm hret hlk hZ0 e0
  have N0 := Fr.nil Z.heap.size
  refine castGo (g' := mkF m 0 #[.val (.ref a1), .val (iv 1)] []) (by first | rfl | (simp [entryFrame, mkF, argsToLocals, Value.category]; done)) ?_
  show Go _ _ _ _ (T0.setTop (mkF m 0 #[.val (.ref a1), .val (iv 1)] []))
  refine iL X0 hx (hb hby e17_0) (q := 1) rfl rfl ?_
  refine aL X0 hx (hb hby e17_1) (q := 2) rfl rfl rfl ?_
  refine g_len X0 hx hZ0 P1 e0 (hb hby e17_2) (q := 3) rfl ?_
  refine g_st X0 hx hZ0 hown0 (wd247 hw) (wd248 hw) (wd8 hw) (wd249 hw) (by decide) e0 (Con.back (W := 0) (rm_sci l Z a0 hw zC vF G (1 : Int32) (2 : Int32) h0 O0 (by decide : ¬ ((1 : Int32) < (0 : Int32))) (by decide : (1 : Int32) < (2 : Int32))) hZ0 (wd249 hw) (wd8 hw) (by decide) (by decide)) (by rw [hml]; rfl) (lenOf pd29 rfl) rfl (Nat.le_of_eq rfl) (hb hby e17_3) (q := 6) rfl (by decide) (by decide) ?_
  intro v867 T867 L867 X867 Q867
  obtain ⟨rfl, Nq867, e867⟩ := Q867
  have N867 := Fr.app N0 Nq867
  show Go _ _ _ _ (T867.setTop (mkF m 6 #[.val (.ref a1), .val (iv 1)] []))
  refine aL X867 hx (hb hby e17_6) (q := 7) rfl rfl rfl ?_
  refine iL X867 hx (hb hby e17_7) (q := 8) rfl rfl ?_
  refine g_ldB X867 hx hZ0 P1 (i := 1) (by decide) (by decide) (by decide) (v := (.int (StrChars.lo8 c1))) rfl e867 (hb hby e17_8) (q := 9) rfl ?_
  refine pI X867 hx (hb hby e17_9) (q := 12) rfl (z := (255 : Int32)) rfl ?_
  refine g_iand X867 hx (hb hby e17_12) (q := 13) rfl (z := c1) (back8 H J) ?_
  refine g_i2c X867 hx (hb hby e17_13) (q := 14) rfl (z := c1) (i2c255 H J) ?_
  refine endP X867 hlk (fun h => by rw [hret] at h; cases h) (lastN X867 hx (t := .char) (z' := c1) hret (by simp) (nar_of255 H J) (hb hby e17_14)) ?_ (by decide) (by decide)
  rw [e867]
  exact ⟨rfl, N867, rfl⟩
def Q_uci1 (Z : State) (zC : Int32) (vF : Value) (a1 : Addr) (kb : ClassId) (vs : List Value) (h0 : Heap) (v : Option Value) (h : Heap) (L : List Loc) : Prop := v = none ∧ Fr Z.heap.size L ∧ h = h0
theorem rm_uci1 (l : Launch) (Z : State) (a0 : Array Value) (hw : HW a0 Z) (zC : Int32) (vF : Value) (G : GB l a0 Z zC vF) (a1 : Addr) (kb : ClassId) (vs : List Value) (h0 : Heap) (O0 : Old Z Z.heap.size h0) (P1 : Arv Z h0 a1 kb .byte (4 : Int32) vs (.int 0)) :
    Con l Z (⟨"java/lang/StringUTF16", "checkIndex", "(I[B)V"⟩ : MethodName) kC31 2 none ({ frames := 2, cells := 0, slots := 0, locals := 27 } : Room) #[(iv 1), (.ref a1)] h0 (Q_uci1 Z zC vF a1 kb vs h0) := by
  refine Con.intro (plainFor_of_name pn0) ?_
  intro p e s m below meth c T0 X0 hx hby hml hown0 hnm hret hlk hZ0 e0
  have N0 := Fr.nil Z.heap.size
  refine castGo (g' := mkF m 0 #[.val (iv 1), .val (.ref a1)] []) (by first | rfl | (simp [entryFrame, mkF, argsToLocals, Value.category]; done)) ?_
  show Go _ _ _ _ (T0.setTop (mkF m 0 #[.val (iv 1), .val (.ref a1)] []))
  refine iL X0 hx (hb hby e31_0) (q := 1) rfl rfl ?_
  refine aL X0 hx (hb hby e31_1) (q := 2) rfl rfl rfl ?_
  refine g_st X0 hx hZ0 hown0 (wd299 hw) (wd300 hw) (wd22 hw) (wd301 hw) (by decide) e0 (Con.back (W := 1) (rm_ulen l Z a0 hw zC vF G a1 kb vs 4 h0 O0 P1 (show 4 < 1000 from by omega)) hZ0 (wd301 hw) (wd22 hw) (by decide) (by decide)) (by rw [hml]; rfl) (lenOf pd2 rfl) rfl (Nat.le_of_eq rfl) (hb hby e31_2) (q := 5) rfl (by decide) (by decide) ?_
  intro v868 T868 L868 X868 Q868
  obtain ⟨rfl, Nq868, e868⟩ := Q868
  have N868 := Fr.app N0 Nq868
  show Go _ _ _ _ (T868.setTop (mkF m 5 #[.val (iv 1), .val (.ref a1)] [(.int (Int32.ofNat (4 / 2))), (iv 1)]))
  refine g_st X868 hx hZ0 hown0 (wd317 hw) (wd248 hw) (wd8 hw) (wd249 hw) (by decide) e868 (Con.back (W := 0) (rm_sci l Z a0 hw zC vF G (1 : Int32) (Int32.ofNat (4 / 2)) h0 O0 (by decide : ¬ ((1 : Int32) < (0 : Int32))) (by decide : (1 : Int32) < (Int32.ofNat (4 / 2)))) hZ0 (wd249 hw) (wd8 hw) (by decide) (by decide)) (by rw [hml]; rfl) (lenOf pd29 rfl) rfl (Nat.le_of_eq rfl) (hb hby e31_5) (q := 8) rfl (by decide) (by decide) ?_
  intro v869 T869 L869 X869 Q869
  obtain ⟨rfl, Nq869, e869⟩ := Q869
  have N869 := Fr.app N868 Nq869
  show Go _ _ _ _ (T869.setTop (mkF m 8 #[.val (iv 1), .val (.ref a1)] []))
  refine endP X869 hlk (fun _ => rfl) (lastV X869 hx hret (hb hby e31_8)) ?_ (by decide) (by decide)
  rw [e869]
  exact ⟨rfl, N869, rfl⟩
def Q_uca1 (Z : State) (zC : Int32) (vF : Value) (a1 : Addr) (kb : ClassId) (c0 : Int32) (c1 : Int32) (h0 : Heap) (v : Option Value) (h : Heap) (L : List Loc) : Prop := v = some (.int c1) ∧ Fr Z.heap.size L ∧ h = h0
theorem rm_uca1 (l : Launch) (Z : State) (a0 : Array Value) (hw : HW a0 Z) (zC : Int32) (vF : Value) (G : GB l a0 Z zC vF) (a1 : Addr) (kb : ClassId) (c0 : Int32) (c1 : Int32) (h0 : Heap) (O0 : Old Z Z.heap.size h0) (P1 : Arv Z h0 a1 kb .byte (4 : Int32) (flat ([c0, c1] : List Int32)) (.int 0)) (Hr : (∀ x ∈ ([c0, c1] : List Int32), ¬ x < 0 ∧ ¬ (65535 : Int32) < x)) :
    Con l Z (⟨"java/lang/StringUTF16", "charAt", "([BI)C"⟩ : MethodName) kC22 2 (some .char) ({ frames := 3, cells := 0, slots := 0, locals := 40 } : Room) #[(.ref a1), (iv 1)] h0 (Q_uca1 Z zC vF a1 kb c0 c1 h0) := by
  refine Con.intro (plainFor_of_name pn0) ?_
  intro p e s m below meth c T0 X0 hx hby hml hown0 hnm hret hlk hZ0 e0
  have N0 := Fr.nil Z.heap.size
  refine castGo (g' := mkF m 0 #[.val (.ref a1), .val (iv 1)] []) (by first | rfl | (simp [entryFrame, mkF, argsToLocals, Value.category]; done)) ?_
  show Go _ _ _ _ (T0.setTop (mkF m 0 #[.val (.ref a1), .val (iv 1)] []))
  refine iL X0 hx (hb hby e29_0) (q := 1) rfl rfl ?_
  refine aL X0 hx (hb hby e29_1) (q := 2) rfl rfl rfl ?_
  refine g_st X0 hx hZ0 hown0 (wd314 hw) (wd315 hw) (wd22 hw) (wd316 hw) (by decide) e0 (Con.back (W := 0) (rm_uci1 l Z a0 hw zC vF G a1 kb (flat ([c0, c1] : List Int32)) h0 O0 P1) hZ0 (wd316 hw) (wd22 hw) (by decide) (by decide)) (by rw [hml]; rfl) (lenOf pd30 rfl) rfl (Nat.le_of_eq rfl) (hb hby e29_2) (q := 5) rfl (by decide) (by decide) ?_
  intro v870 T870 L870 X870 Q870
  obtain ⟨rfl, Nq870, e870⟩ := Q870
  have N870 := Fr.app N0 Nq870
  show Go _ _ _ _ (T870.setTop (mkF m 5 #[.val (.ref a1), .val (iv 1)] []))
  refine aL X870 hx (hb hby e29_5) (q := 6) rfl rfl rfl ?_
  refine iL X870 hx (hb hby e29_6) (q := 7) rfl rfl ?_
  refine g_st X870 hx hZ0 hown0 (wd280 hw) (wd281 hw) (wd22 hw) (wd282 hw) (by decide) e870 (Con.back (W := 0) (rm_gch l Z a0 hw zC vF G a1 kb 1 4 ([c0, c1] : List Int32) h0 O0 P1 (show 4 = 2 * ([c0, c1] : List Int32).length from by first | rfl | omega | (simp; done)) (show 1 < ([c0, c1] : List Int32).length from by first | rfl | omega | (simp; done)) (show 4 < 1000 from by first | rfl | omega | (simp; done)) Hr) hZ0 (wd282 hw) (wd22 hw) (by decide) (by decide)) (by rw [hml]; rfl) (lenOf pd10 rfl) rfl (Nat.le_of_eq rfl) (hb hby e29_7) (q := 10) rfl (by decide) (by decide) ?_
  intro v871 T871 L871 X871 Q871
  obtain ⟨rfl, Nq871, e871⟩ := Q871
  have N871 := Fr.app N870 Nq871
  show Go _ _ _ _ (T871.setTop (mkF m 10 #[.val (.ref a1), .val (iv 1)] [(.int (([c0, c1] : List Int32).getD 1 0))]))
  show Go _ _ _ _ (T871.setTop (mkF m 10 #[.val (.ref a1), .val (iv 1)] [(.int c1)]))
  refine endP X871 hlk (fun h => by rw [hret] at h; cases h) (lastN X871 hx (t := .char) (z' := c1) hret (by simp) (nar_of (Hr _ (by simp)).1 (Hr _ (by simp)).2) (hb hby e29_10)) ?_ (by decide) (by decide)
  rw [e871]
  exact ⟨rfl, N871, rfl⟩
def Q_sca1 (Z : State) (zC : Int32) (vF : Value) (a1 : Addr) (t : Addr) (kb : ClassId) (cd : Int32) (z : Int32) (vs : List Value) (c0 : Int32) (c1 : Int32) (h0 : Heap) (v : Option Value) (h : Heap) (L : List Loc) : Prop := v = some (.int c1) ∧ Fr Z.heap.size L ∧ h = h0
theorem rm_sca1 (l : Launch) (Z : State) (a0 : Array Value) (hw : HW a0 Z) (zC : Int32) (vF : Value) (G : GB l a0 Z zC vF) (a1 : Addr) (t : Addr) (kb : ClassId) (cd : Int32) (z : Int32) (vs : List Value) (c0 : Int32) (c1 : Int32) (h0 : Heap) (O0 : Old Z Z.heap.size h0) (Pe : Exa Z h0 a1 sT1) (Pc : Fld Z h0 a1 sT1 "coder" "B" (.int cd)) (Pv : Fld Z h0 a1 sT1 "value" "[B" (.ref t)) (Pa : Arv Z h0 t kb .byte z vs (.int 0)) (PS : (SB ([c0, c1] : List Int32) cd z vs)) :
    Con l Z (⟨sT1, "charAt", "(I)C"⟩ : MethodName) kC13 2 (some .char) ({ frames := 4, cells := 0, slots := 0, locals := 53 } : Room) #[(.ref a1), (iv 1)] h0 (Q_sca1 Z zC vF a1 t kb cd z vs c0 c1 h0) := by
  refine Con.intro (plainFor_of_name pn2) ?_
  intro p e s m below meth c T0 X0 hx hby hml hown0 hnm hret hlk hZ0 e0
  have N0 := Fr.nil Z.heap.size
  refine castGo (g' := mkF m 0 #[.val (.ref a1), .val (iv 1)] []) (by first | rfl | (simp [entryFrame, mkF, argsToLocals, Value.category]; done)) ?_
  show Go _ _ _ _ (T0.setTop (mkF m 0 #[.val (.ref a1), .val (iv 1)] []))
  rcases id PS with ⟨hS, rfl, rfl, rfl⟩ | ⟨hS, rfl, rfl, rfl⟩
  · have Pa1 : Arv Z h0 t kb .byte (2 : Int32) [(.int (StrChars.lo8 c0)), (.int (StrChars.lo8 c1))] (.int 0) := Pa
    have rc := hS c1 (by simp)
    show Go _ _ _ _ (T0.setTop (mkF m 0 #[.val (.ref a1), .val (iv 1)] []))
    refine aL X0 hx (hb hby e14_0) (q := 1) rfl rfl rfl ?_
    refine g_vi X0 hx hZ0 hown0 (wd238 hw) (wd239 hw) (notFace_of_selects (args := #[]) (mvT hZ0 (wd241 hw))) (wd241 hw) (wd240 hw) (by decide) Pe e0 (Con.back (W := 0) (rm_isl0 l Z a0 hw zC vF G a1 h0 O0 Pc) hZ0 (wd242 hw) (wd8 hw) (by decide) (by decide)) (by rw [hml]; rfl) (lenOf pd19 rfl) rfl (Nat.le_of_eq rfl) (hb hby e14_1) (q := 4) rfl (by decide) (by decide) ?_
    intro v872 T872 L872 X872 Q872
    obtain ⟨rfl, Nq872, e872⟩ := Q872
    have N872 := Fr.app N0 Nq872
    show Go _ _ _ _ (T872.setTop (mkF m 4 #[.val (.ref a1), .val (iv 1)] [(iv 1)]))
    refine ifN X872 hx (hb hby e14_4) (q := 7) rfl (by decide) ?_
    refine aL X872 hx (hb hby e14_7) (q := 8) rfl rfl rfl ?_
    refine g_getF X872 hx hZ0 hown0 (host := "") (Or.inl (wd33 hw)) Via.refl Pv e872 (hb hby e14_8) (q := 11) rfl ?_
    intro T873 X873 e873
    refine iL X873 hx (hb hby e14_11) (q := 12) rfl rfl ?_
    refine g_st X873 hx hZ0 hown0 (wd243 hw) (wd244 hw) (wd245 hw) (wd246 hw) (by decide) e873 (Con.back (W := 0) (rm_lca1 l Z a0 hw zC vF G t kb c0 c1 h0 O0 Pa1 rc.1 rc.2) hZ0 (wd246 hw) (wd245 hw) (by decide) (by decide)) (by rw [hml]; rfl) (lenOf pd10 rfl) rfl (Nat.le_of_eq rfl) (hb hby e14_12) (q := 15) rfl (by decide) (by decide) ?_
    intro v874 T874 L874 X874 Q874
    obtain ⟨rfl, Nq874, e874⟩ := Q874
    have N874 := Fr.app N872 Nq874
    show Go _ _ _ _ (T874.setTop (mkF m 15 #[.val (.ref a1), .val (iv 1)] [(.int c1)]))
    refine endP X874 hlk (fun h => by rw [hret] at h; cases h) (lastN X874 hx (t := .char) (z' := c1) hret (by simp) (nar_of255 rc.1 rc.2) (hb hby e14_15)) ?_ (by decide) (by decide)
    rw [e874]
    exact ⟨rfl, N874, rfl⟩
  · have Pa1 : Arv Z h0 t kb .byte (4 : Int32) (flat ([c0, c1] : List Int32)) (.int 0) := Pa
    show Go _ _ _ _ (T0.setTop (mkF m 0 #[.val (.ref a1), .val (iv 1)] []))
    refine aL X0 hx (hb hby e14_0) (q := 1) rfl rfl rfl ?_
    refine g_vi X0 hx hZ0 hown0 (wd238 hw) (wd239 hw) (notFace_of_selects (args := #[]) (mvT hZ0 (wd241 hw))) (wd241 hw) (wd240 hw) (by decide) Pe e0 (Con.back (W := 0) (rm_isl1 l Z a0 hw zC vF G a1 h0 O0 Pc) hZ0 (wd242 hw) (wd8 hw) (by decide) (by decide)) (by rw [hml]; rfl) (lenOf pd19 rfl) rfl (Nat.le_of_eq rfl) (hb hby e14_1) (q := 4) rfl (by decide) (by decide) ?_
    intro v875 T875 L875 X875 Q875
    obtain ⟨rfl, Nq875, e875⟩ := Q875
    have N875 := Fr.app N0 Nq875
    show Go _ _ _ _ (T875.setTop (mkF m 4 #[.val (.ref a1), .val (iv 1)] [(iv 0)]))
    refine ifY X875 hx (hb hby e14_4) (q := 16) (by decide) (by decide) (by decide) ?_
    refine aL X875 hx (hb hby e14_16) (q := 17) rfl rfl rfl ?_
    refine g_getF X875 hx hZ0 hown0 (host := "") (Or.inl (wd33 hw)) Via.refl Pv e875 (hb hby e14_17) (q := 20) rfl ?_
    intro T876 X876 e876
    refine iL X876 hx (hb hby e14_20) (q := 21) rfl rfl ?_
    refine g_st X876 hx hZ0 hown0 (wd311 hw) (wd312 hw) (wd22 hw) (wd313 hw) (by decide) e876 (Con.back (W := 0) (rm_uca1 l Z a0 hw zC vF G t kb c0 c1 h0 O0 Pa1 hS.1) hZ0 (wd313 hw) (wd22 hw) (by decide) (by decide)) (by rw [hml]; rfl) (lenOf pd10 rfl) rfl (Nat.le_of_eq rfl) (hb hby e14_21) (q := 24) rfl (by decide) (by decide) ?_
    intro v877 T877 L877 X877 Q877
    obtain ⟨rfl, Nq877, e877⟩ := Q877
    have N877 := Fr.app N875 Nq877
    show Go _ _ _ _ (T877.setTop (mkF m 24 #[.val (.ref a1), .val (iv 1)] [(.int c1)]))
    refine endP X877 hlk (fun h => by rw [hret] at h; cases h) (lastN X877 hx (t := .char) (z' := c1) hret (by simp) (nar_of (hS.1 _ (by simp)).1 (hS.1 _ (by simp)).2) (hb hby e14_24)) ?_ (by decide) (by decide)
    rw [e877]
    exact ⟨rfl, N877, rfl⟩
theorem byt_int {v : Value} (h : fits .byte v = true) : ∃ x, v = .int x := by
  cases v <;> first | exact ⟨_, rfl⟩ | (simp [fits] at h)
theorem e16_0 : decode kC20 0 = .ok (.aload_n 0, 1) := by decide +kernel
theorem e16_1 : decode kC20 1 = .ok (.arraylength, 1) := by decide +kernel
theorem e16_2 : decode kC20 2 = .ok (.aload_n 1, 1) := by decide +kernel
theorem e16_3 : decode kC20 3 = .ok (.arraylength, 1) := by decide +kernel
theorem e16_4 : decode kC20 4 = .ok (.if_icmp .ne 30, 3) := by decide +kernel
theorem e16_7 : decode kC20 7 = .ok (.iconst 0, 1) := by decide +kernel
theorem e16_8 : decode kC20 8 = .ok (.istore_n 2, 1) := by decide +kernel
theorem e16_9 : decode kC20 9 = .ok (.iload_n 2, 1) := by decide +kernel
theorem e16_10 : decode kC20 10 = .ok (.aload_n 0, 1) := by decide +kernel
theorem e16_11 : decode kC20 11 = .ok (.arraylength, 1) := by decide +kernel
theorem e16_12 : decode kC20 12 = .ok (.if_icmp .ge 20, 3) := by decide +kernel
theorem e16_15 : decode kC20 15 = .ok (.aload_n 0, 1) := by decide +kernel
theorem e16_16 : decode kC20 16 = .ok (.iload_n 2, 1) := by decide +kernel
theorem e16_17 : decode kC20 17 = .ok (.baload, 1) := by decide +kernel
theorem e16_18 : decode kC20 18 = .ok (.aload_n 1, 1) := by decide +kernel
theorem e16_19 : decode kC20 19 = .ok (.iload_n 2, 1) := by decide +kernel
theorem e16_20 : decode kC20 20 = .ok (.baload, 1) := by decide +kernel
theorem e16_21 : decode kC20 21 = .ok (.if_icmp .eq 5, 3) := by decide +kernel
theorem e16_26 : decode kC20 26 = .ok (.iinc 2 1, 3) := by decide +kernel
theorem e16_29 : decode kC20 29 = .ok (.goto (-20), 3) := by decide +kernel
theorem e16_32 : decode kC20 32 = .ok (.iconst 1, 1) := by decide +kernel
theorem e16_33 : decode kC20 33 = .ok (.ireturn, 1) := by decide +kernel
def Q_leq (Z : State) (zC : Int32) (vF : Value) (t1 : Addr) (k1 : ClassId) (t2 : Addr) (k2 : ClassId) (z : Int32) (us : List Value) (h0 : Heap) (v : Option Value) (h : Heap) (L : List Loc) : Prop := v = some (iv 1) ∧ Fr Z.heap.size L ∧ h = h0
theorem rm_leq (l : Launch) (Z : State) (a0 : Array Value) (hw : HW a0 Z) (zC : Int32) (vF : Value) (G : GB l a0 Z zC vF) (t1 : Addr) (k1 : ClassId) (t2 : Addr) (k2 : ClassId) (z : Int32) (us : List Value) (h0 : Heap) (O0 : Old Z Z.heap.size h0) (P1 : Arv Z h0 t1 k1 .byte z us (.int 0)) (P2 : Arv Z h0 t2 k2 .byte z us (.int 0)) :
    Con l Z (⟨"java/lang/StringLatin1", "equals", "([B[B)Z"⟩ : MethodName) kC20 3 (some .boolean) ({ frames := 0, cells := 0, slots := 0, locals := 0 } : Room) #[(.ref t1), (.ref t2)] h0 (Q_leq Z zC vF t1 k1 t2 k2 z us h0) := by
  refine Con.intro (plainFor_of_name pn3) ?_
  intro p e s m below meth c T0 X0 hx hby hml hown0 hnm hret hlk hZ0 e0
  have N0 := Fr.nil Z.heap.size
  have z0 : (0 : Int32).toInt = 0 := by decide
  have z1 : (1 : Int32).toInt = 1 := by decide
  have hz0 : ¬ z < 0 := by obtain ⟨_, _, _, _, q, _⟩ := P1; exact q
  have loop : ∀ (n : Nat) (j : Int32), ¬ j < 0 → ¬ z < j → z.toInt - j.toInt = n → Go p.tables e below (PEnd s (Q_leq Z zC vF t1 k1 t2 k2 z us h0) 0 0) (T0.setTop (mkF m 9 #[.val (.ref t1), .val (.ref t2), .val (.int j)] [])) := by
    intro n
    induction n with
    | zero =>
      intro j a b c1
      have e1 : j = z := Int32.toInt_inj.mp (by omega)
      subst e1
      refine iL X0 hx (hb hby e16_9) (q := 10) rfl rfl ?_
      refine aL X0 hx (hb hby e16_10) (q := 11) rfl rfl rfl ?_
      refine g_len X0 hx hZ0 P1 e0 (hb hby e16_11) (q := 12) rfl ?_
      refine icY X0 hx (hb hby e16_12) (q := 32) (by decide) (by decide) (by simp [if_icmp.holds]) ?_
      refine cI X0 hx (hb hby e16_32) (q := 33) rfl (z := (1 : Int32)) rfl ?_
      refine endP X0 hlk (fun h => by rw [hret] at h; cases h) (lastN X0 hx (t := .boolean) (z' := (1 : Int32)) hret (by simp) (by decide) (hb hby e16_33)) ?_ (by decide) (by decide)
      rw [e0]
      exact ⟨rfl, N0, rfl⟩
    | succ n ih =>
      intro j a b c1
      have lt : j < z := by simp only [Int32.lt_iff_toInt_lt] at *; omega
      have hi : j.toNatClampNeg < z.toNatClampNeg := by
        have r := rng32 z; simp only [Int32.lt_iff_toInt_lt, z0] at *; simp only [Int32.toNatClampNeg]; omega
      obtain ⟨x, ex⟩ : ∃ x, us.getD j.toNatClampNeg (.int 0) = .int x := by
        obtain ⟨cl, _, _, S, _, _, G⟩ := P1
        exact byt_int (G _ (by rw [S]; exact hi))
      refine iL X0 hx (hb hby e16_9) (q := 10) rfl rfl ?_
      refine aL X0 hx (hb hby e16_10) (q := 11) rfl rfl rfl ?_
      refine g_len X0 hx hZ0 P1 e0 (hb hby e16_11) (q := 12) rfl ?_
      refine icN X0 hx (hb hby e16_12) (q := 15) rfl (by simp only [if_icmp.holds, decide_eq_false_iff_not, Int32.lt_iff_toInt_lt, Int32.le_iff_toInt_le, ge_iff_le] at *; omega) ?_
      refine aL X0 hx (hb hby e16_15) (q := 16) rfl rfl rfl ?_
      refine iL X0 hx (hb hby e16_16) (q := 17) rfl rfl ?_
      refine g_ldB X0 hx hZ0 P1 rfl a lt ex e0 (hb hby e16_17) (q := 18) rfl ?_
      refine aL X0 hx (hb hby e16_18) (q := 19) rfl rfl rfl ?_
      refine iL X0 hx (hb hby e16_19) (q := 20) rfl rfl ?_
      refine g_ldB X0 hx hZ0 P2 rfl a lt ex e0 (hb hby e16_20) (q := 21) rfl ?_
      refine icY X0 hx (hb hby e16_21) (q := 26) (by decide) (by decide) (teq (rfl : x = x)).1 ?_
      refine g_iinc X0 hx (hb hby e16_26) (q := 29) rfl rfl (z := j + 1) rfl (Ls' := #[.val (.ref t1), .val (.ref t2), .val (.int (j + 1))]) rfl ?_
      refine g_goto X0 hx (hb hby e16_29) (q := 9) (by decide) (by decide) ?_
      have q := c_iadd j 1
      have r := rng32 (j + 1)
      have r2 := rng32 z
      simp only [Int32.lt_iff_toInt_lt, z0] at a b lt
      rw [z1] at q
      exact ih (j + 1) (by simp only [Int32.lt_iff_toInt_lt, z0]; omega) (by simp only [Int32.lt_iff_toInt_lt]; omega) (by omega)
  refine castGo (g' := mkF m 0 #[.val (.ref t1), .val (.ref t2), .unset] []) (by first | rfl | (simp [entryFrame, mkF, argsToLocals, Value.category]; done)) ?_
  refine aL X0 hx (hb hby e16_0) (q := 1) rfl rfl rfl ?_
  refine g_len X0 hx hZ0 P1 e0 (hb hby e16_1) (q := 2) rfl ?_
  refine aL X0 hx (hb hby e16_2) (q := 3) rfl rfl rfl ?_
  refine g_len X0 hx hZ0 P2 e0 (hb hby e16_3) (q := 4) rfl ?_
  refine icN X0 hx (hb hby e16_4) (q := 7) rfl (by simp [if_icmp.holds]) ?_
  refine cI X0 hx (hb hby e16_7) (q := 8) rfl (z := (0 : Int32)) rfl ?_
  refine sI X0 hx (hb hby e16_8) (q := 9) rfl (Ls' := #[.val (.ref t1), .val (.ref t2), .val (.int 0)]) rfl ?_
  simp only [Int32.lt_iff_toInt_lt, z0] at hz0
  exact loop z.toInt.toNat 0 (by decide) (by simp only [Int32.lt_iff_toInt_lt, z0]; omega) (by rw [z0]; omega)
theorem e15_0 : decode kC16 0 = .ok (.aload_n 0, 1) := by decide +kernel
theorem e15_1 : decode kC16 1 = .ok (.aload_n 1, 1) := by decide +kernel
theorem e15_2 : decode kC16 2 = .ok (.if_acmp .ne 5, 3) := by decide +kernel
theorem e15_7 : decode kC16 7 = .ok (.aload_n 1, 1) := by decide +kernel
theorem e15_8 : decode kC16 8 = .ok (.instanceof 10, 3) := by decide +kernel
theorem wd260 (hw : HW a0 Z) : BW a0 Z (.classLink sT1 (10 : Nat) sT1) := wat hw 260 rfl
theorem e15_11 : decode kC16 11 = .ok (.ifCond .eq 43, 3) := by decide +kernel
theorem e15_14 : decode kC16 14 = .ok (.aload_n 1, 1) := by decide +kernel
theorem e15_15 : decode kC16 15 = .ok (.checkcast 10, 3) := by decide +kernel
theorem e15_18 : decode kC16 18 = .ok (.astore_n 2, 1) := by decide +kernel
theorem e15_19 : decode kC16 19 = .ok (.getstatic 38, 3) := by decide +kernel
theorem e15_22 : decode kC16 22 = .ok (.ifCond .eq 14, 3) := by decide +kernel
theorem e15_25 : decode kC16 25 = .ok (.aload_n 0, 1) := by decide +kernel
theorem e15_26 : decode kC16 26 = .ok (.getfield 15, 3) := by decide +kernel
theorem e15_29 : decode kC16 29 = .ok (.aload_n 2, 1) := by decide +kernel
theorem e15_30 : decode kC16 30 = .ok (.getfield 15, 3) := by decide +kernel
theorem e15_33 : decode kC16 33 = .ok (.if_icmp .ne 21, 3) := by decide +kernel
theorem e15_36 : decode kC16 36 = .ok (.aload_n 0, 1) := by decide +kernel
theorem e15_37 : decode kC16 37 = .ok (.getfield 9, 3) := by decide +kernel
theorem e15_40 : decode kC16 40 = .ok (.aload_n 2, 1) := by decide +kernel
theorem e15_41 : decode kC16 41 = .ok (.getfield 9, 3) := by decide +kernel
theorem e15_44 : decode kC16 44 = .ok (.invokestatic 541, 3) := by decide +kernel
theorem wd263 (hw : HW a0 Z) : BW a0 Z (.code ⟨sT10, "equals", "([B[B)Z"⟩ kC20 (3 : Nat) (Option.some Jvm.ClassFile.FieldType.boolean)) := wat hw 263 rfl
theorem pd31 : parseMethodDescriptor "([B[B)Z" = some ⟨[(.array .byte), (.array .byte)], some .boolean⟩ := by decide +kernel
theorem wd261 (hw : HW a0 Z) : BW a0 Z (.methodLink sT1 (541 : Nat) ⟨sT10, "equals", "([B[B)Z"⟩) := wat hw 261 rfl
theorem wd262 (hw : HW a0 Z) : BW a0 Z (.static ⟨sT10, "equals", "([B[B)Z"⟩) := wat hw 262 rfl
theorem e15_47 : decode kC16 47 = .ok (.ifCond .eq 7, 3) := by decide +kernel
theorem e15_50 : decode kC16 50 = .ok (.iconst 1, 1) := by decide +kernel
theorem e15_51 : decode kC16 51 = .ok (.goto 4, 3) := by decide +kernel
theorem e15_55 : decode kC16 55 = .ok (.ireturn, 1) := by decide +kernel
def Q_seq (Z : State) (zC : Int32) (vF : Value) (a1 : Addr) (t1 : Addr) (k1 : ClassId) (a2 : Addr) (t2 : Addr) (k2 : ClassId) (z : Int32) (us : List Value) (h0 : Heap) (v : Option Value) (h : Heap) (L : List Loc) : Prop := v = some (iv 1) ∧ Fr Z.heap.size L ∧ h = h0
theorem rm_seq (l : Launch) (Z : State) (a0 : Array Value) (hw : HW a0 Z) (zC : Int32) (vF : Value) (G : GB l a0 Z zC vF) (a1 : Addr) (t1 : Addr) (k1 : ClassId) (a2 : Addr) (t2 : Addr) (k2 : ClassId) (z : Int32) (us : List Value) (h0 : Heap) (O0 : Old Z Z.heap.size h0) (pe1 : Exa Z h0 a1 sT1) (pc1 : Fld Z h0 a1 sT1 "coder" "B" (iv 0)) (pv1 : Fld Z h0 a1 sT1 "value" "[B" (.ref t1)) (P1 : Arv Z h0 t1 k1 .byte z us (.int 0)) (pe2 : Exa Z h0 a2 sT1) (pc2 : Fld Z h0 a2 sT1 "coder" "B" (iv 0)) (pv2 : Fld Z h0 a2 sT1 "value" "[B" (.ref t2)) (P2 : Arv Z h0 t2 k2 .byte z us (.int 0)) (ne12 : a1 ≠ a2) :
    Con l Z (⟨sT1, "equals", "(Ljava/lang/Object;)Z"⟩ : MethodName) kC16 3 (some .boolean) ({ frames := 1, cells := 0, slots := 0, locals := 14 } : Room) #[(.ref a1), (.ref a2)] h0 (Q_seq Z zC vF a1 t1 k1 a2 t2 k2 z us h0) := by
  obtain ⟨hl, SC, PC, rF, SF, SA, SH, SL, hX⟩ := id G
  refine Con.intro (plainFor_of_name pn2) ?_
  intro p e s m below meth c T0 X0 hx hby hml hown0 hnm hret hlk hZ0 e0
  have N0 := Fr.nil Z.heap.size
  refine castGo (g' := mkF m 0 #[.val (.ref a1), .val (.ref a2), .unset] []) (by first | rfl | (simp [entryFrame, mkF, argsToLocals, Value.category]; done)) ?_
  show Go _ _ _ _ (T0.setTop (mkF m 0 #[.val (.ref a1), .val (.ref a2), .unset] []))
  refine aL X0 hx (hb hby e15_0) (q := 1) rfl rfl rfl ?_
  refine aL X0 hx (hb hby e15_1) (q := 2) rfl rfl rfl ?_
  refine g_acmp X0 hx (hb hby e15_2) (q := 7) rfl rfl (same := false) (decide_eq_false fun q => ne12 (Value.ref.inj q)) (by decide) (by decide) ?_
  refine aL X0 hx (hb hby e15_7) (q := 8) rfl rfl rfl ?_
  refine g_insY X0 hx hZ0 hown0 (wd260 hw) (Ins.self pe2) e0 (hb hby e15_8) (q := 11) rfl ?_
  intro T878 X878 e878
  refine ifN X878 hx (hb hby e15_11) (q := 14) rfl (by decide) ?_
  refine aL X878 hx (hb hby e15_14) (q := 15) rfl rfl rfl ?_
  refine g_cast X878 hx hZ0 hown0 (wd260 hw) (Ins.self pe2) e878 (hb hby e15_15) (q := 18) rfl ?_
  intro T879 X879 e879
  refine sA X879 hx (hb hby e15_18) (q := 19) rfl rfl (Ls' := #[.val (.ref a1), .val (.ref a2), .val (.ref a2)]) rfl ?_
  refine g_getS X879 hx hZ0 hown0 (host := "") (Or.inl (wd19 hw)) Via.refl (SC.ext O0.2) e879 (hb hby e15_19) (q := 22) rfl ?_
  intro T880 X880 e880
  refine ifN X880 hx (hb hby e15_22) (q := 25) rfl ((if0 _ _).trans (feq PC).1) ?_
  refine aL X880 hx (hb hby e15_25) (q := 26) rfl rfl rfl ?_
  refine g_getF X880 hx hZ0 hown0 (host := "") (Or.inl (wd31 hw)) Via.refl pc1 e880 (hb hby e15_26) (q := 29) rfl ?_
  intro T881 X881 e881
  refine aL X881 hx (hb hby e15_29) (q := 30) rfl rfl rfl ?_
  refine g_getF X881 hx hZ0 hown0 (host := "") (Or.inl (wd31 hw)) Via.refl pc2 e881 (hb hby e15_30) (q := 33) rfl ?_
  intro T882 X882 e882
  refine icN X882 hx (hb hby e15_33) (q := 36) rfl (by decide) ?_
  refine aL X882 hx (hb hby e15_36) (q := 37) rfl rfl rfl ?_
  refine g_getF X882 hx hZ0 hown0 (host := "") (Or.inl (wd33 hw)) Via.refl pv1 e882 (hb hby e15_37) (q := 40) rfl ?_
  intro T883 X883 e883
  refine aL X883 hx (hb hby e15_40) (q := 41) rfl rfl rfl ?_
  refine g_getF X883 hx hZ0 hown0 (host := "") (Or.inl (wd33 hw)) Via.refl pv2 e883 (hb hby e15_41) (q := 44) rfl ?_
  intro T884 X884 e884
  refine g_st X884 hx hZ0 hown0 (wd261 hw) (wd262 hw) (wd245 hw) (wd263 hw) (by decide) e884 (Con.back (W := 0) (rm_leq l Z a0 hw zC vF G t1 k1 t2 k2 z us h0 O0 P1 P2) hZ0 (wd263 hw) (wd245 hw) (by decide) (by decide)) (by rw [hml]; rfl) (lenOf pd31 rfl) rfl (Nat.le_of_eq rfl) (hb hby e15_44) (q := 47) rfl (by decide) (by decide) ?_
  intro v885 T885 L885 X885 Q885
  obtain ⟨rfl, Nq885, e885⟩ := Q885
  have N885 := Fr.app N0 Nq885
  show Go _ _ _ _ (T885.setTop (mkF m 47 #[.val (.ref a1), .val (.ref a2), .val (.ref a2)] [(iv 1)]))
  refine ifN X885 hx (hb hby e15_47) (q := 50) rfl (by decide) ?_
  refine cI X885 hx (hb hby e15_50) (q := 51) rfl (z := (1 : Int32)) rfl ?_
  refine g_goto X885 hx (hb hby e15_51) (q := 55) (by decide) (by decide) ?_
  refine endP X885 hlk (fun h => by rw [hret] at h; cases h) (lastN X885 hx (t := .boolean) (z' := (1 : Int32)) hret (by simp) (by decide) (hb hby e15_55)) ?_ (by decide) (by decide)
  rw [e885]
  exact ⟨rfl, N885, rfl⟩
def Q_seq1 (Z : State) (zC : Int32) (vF : Value) (a1 : Addr) (t1 : Addr) (k1 : ClassId) (a2 : Addr) (t2 : Addr) (k2 : ClassId) (z : Int32) (us : List Value) (h0 : Heap) (v : Option Value) (h : Heap) (L : List Loc) : Prop := v = some (iv 1) ∧ Fr Z.heap.size L ∧ h = h0
theorem rm_seq1 (l : Launch) (Z : State) (a0 : Array Value) (hw : HW a0 Z) (zC : Int32) (vF : Value) (G : GB l a0 Z zC vF) (a1 : Addr) (t1 : Addr) (k1 : ClassId) (a2 : Addr) (t2 : Addr) (k2 : ClassId) (z : Int32) (us : List Value) (h0 : Heap) (O0 : Old Z Z.heap.size h0) (pe1 : Exa Z h0 a1 sT1) (pc1 : Fld Z h0 a1 sT1 "coder" "B" (iv 1)) (pv1 : Fld Z h0 a1 sT1 "value" "[B" (.ref t1)) (P1 : Arv Z h0 t1 k1 .byte z us (.int 0)) (pe2 : Exa Z h0 a2 sT1) (pc2 : Fld Z h0 a2 sT1 "coder" "B" (iv 1)) (pv2 : Fld Z h0 a2 sT1 "value" "[B" (.ref t2)) (P2 : Arv Z h0 t2 k2 .byte z us (.int 0)) (ne12 : a1 ≠ a2) :
    Con l Z (⟨sT1, "equals", "(Ljava/lang/Object;)Z"⟩ : MethodName) kC16 3 (some .boolean) ({ frames := 1, cells := 0, slots := 0, locals := 14 } : Room) #[(.ref a1), (.ref a2)] h0 (Q_seq1 Z zC vF a1 t1 k1 a2 t2 k2 z us h0) := by
  obtain ⟨hl, SC, PC, rF, SF, SA, SH, SL, hX⟩ := id G
  refine Con.intro (plainFor_of_name pn2) ?_
  intro p e s m below meth c T0 X0 hx hby hml hown0 hnm hret hlk hZ0 e0
  have N0 := Fr.nil Z.heap.size
  refine castGo (g' := mkF m 0 #[.val (.ref a1), .val (.ref a2), .unset] []) (by first | rfl | (simp [entryFrame, mkF, argsToLocals, Value.category]; done)) ?_
  show Go _ _ _ _ (T0.setTop (mkF m 0 #[.val (.ref a1), .val (.ref a2), .unset] []))
  refine aL X0 hx (hb hby e15_0) (q := 1) rfl rfl rfl ?_
  refine aL X0 hx (hb hby e15_1) (q := 2) rfl rfl rfl ?_
  refine g_acmp X0 hx (hb hby e15_2) (q := 7) rfl rfl (same := false) (decide_eq_false fun q => ne12 (Value.ref.inj q)) (by decide) (by decide) ?_
  refine aL X0 hx (hb hby e15_7) (q := 8) rfl rfl rfl ?_
  refine g_insY X0 hx hZ0 hown0 (wd260 hw) (Ins.self pe2) e0 (hb hby e15_8) (q := 11) rfl ?_
  intro T886 X886 e886
  refine ifN X886 hx (hb hby e15_11) (q := 14) rfl (by decide) ?_
  refine aL X886 hx (hb hby e15_14) (q := 15) rfl rfl rfl ?_
  refine g_cast X886 hx hZ0 hown0 (wd260 hw) (Ins.self pe2) e886 (hb hby e15_15) (q := 18) rfl ?_
  intro T887 X887 e887
  refine sA X887 hx (hb hby e15_18) (q := 19) rfl rfl (Ls' := #[.val (.ref a1), .val (.ref a2), .val (.ref a2)]) rfl ?_
  refine g_getS X887 hx hZ0 hown0 (host := "") (Or.inl (wd19 hw)) Via.refl (SC.ext O0.2) e887 (hb hby e15_19) (q := 22) rfl ?_
  intro T888 X888 e888
  refine ifN X888 hx (hb hby e15_22) (q := 25) rfl ((if0 _ _).trans (feq PC).1) ?_
  refine aL X888 hx (hb hby e15_25) (q := 26) rfl rfl rfl ?_
  refine g_getF X888 hx hZ0 hown0 (host := "") (Or.inl (wd31 hw)) Via.refl pc1 e888 (hb hby e15_26) (q := 29) rfl ?_
  intro T889 X889 e889
  refine aL X889 hx (hb hby e15_29) (q := 30) rfl rfl rfl ?_
  refine g_getF X889 hx hZ0 hown0 (host := "") (Or.inl (wd31 hw)) Via.refl pc2 e889 (hb hby e15_30) (q := 33) rfl ?_
  intro T890 X890 e890
  refine icN X890 hx (hb hby e15_33) (q := 36) rfl (by decide) ?_
  refine aL X890 hx (hb hby e15_36) (q := 37) rfl rfl rfl ?_
  refine g_getF X890 hx hZ0 hown0 (host := "") (Or.inl (wd33 hw)) Via.refl pv1 e890 (hb hby e15_37) (q := 40) rfl ?_
  intro T891 X891 e891
  refine aL X891 hx (hb hby e15_40) (q := 41) rfl rfl rfl ?_
  refine g_getF X891 hx hZ0 hown0 (host := "") (Or.inl (wd33 hw)) Via.refl pv2 e891 (hb hby e15_41) (q := 44) rfl ?_
  intro T892 X892 e892
  refine g_st X892 hx hZ0 hown0 (wd261 hw) (wd262 hw) (wd245 hw) (wd263 hw) (by decide) e892 (Con.back (W := 0) (rm_leq l Z a0 hw zC vF G t1 k1 t2 k2 z us h0 O0 P1 P2) hZ0 (wd263 hw) (wd245 hw) (by decide) (by decide)) (by rw [hml]; rfl) (lenOf pd31 rfl) rfl (Nat.le_of_eq rfl) (hb hby e15_44) (q := 47) rfl (by decide) (by decide) ?_
  intro v893 T893 L893 X893 Q893
  obtain ⟨rfl, Nq893, e893⟩ := Q893
  have N893 := Fr.app N0 Nq893
  show Go _ _ _ _ (T893.setTop (mkF m 47 #[.val (.ref a1), .val (.ref a2), .val (.ref a2)] [(iv 1)]))
  refine ifN X893 hx (hb hby e15_47) (q := 50) rfl (by decide) ?_
  refine cI X893 hx (hb hby e15_50) (q := 51) rfl (z := (1 : Int32)) rfl ?_
  refine g_goto X893 hx (hb hby e15_51) (q := 55) (by decide) (by decide) ?_
  refine endP X893 hlk (fun h => by rw [hret] at h; cases h) (lastN X893 hx (t := .boolean) (z' := (1 : Int32)) hret (by simp) (by decide) (hb hby e15_55)) ?_ (by decide) (by decide)
  rw [e893]
  exact ⟨rfl, N893, rfl⟩
theorem e52_0 : decode kC55 0 = .ok (.iconst 2, 1) := by decide +kernel
theorem e52_1 : decode kC55 1 = .ok (.newarray .char, 2) := by decide +kernel
theorem wd4 (hw : HW a0 Z) : BW a0 Z (.arrayClass Jvm.ClassFile.FieldType.char) := wat hw 4 rfl
theorem e52_3 : decode kC55 3 = .ok (.astore_n 1, 1) := by decide +kernel
theorem e52_4 : decode kC55 4 = .ok (.aload_n 1, 1) := by decide +kernel
theorem e52_5 : decode kC55 5 = .ok (.iconst 0, 1) := by decide +kernel
theorem e52_6 : decode kC55 6 = .ok (.iload_n 0, 1) := by decide +kernel
theorem e52_7 : decode kC55 7 = .ok (.ldc 38, 2) := by decide +kernel
theorem wd5 (hw : HW a0 Z) : BW a0 Z (.constant sT6 (38 : Nat) (65535 : Int32)) := wat hw 5 rfl
theorem e52_9 : decode kC55 9 = .ok (.iand, 1) := by decide +kernel
theorem e52_10 : decode kC55 10 = .ok (.i2c, 1) := by decide +kernel
theorem e52_11 : decode kC55 11 = .ok (.castore, 1) := by decide +kernel
theorem e52_12 : decode kC55 12 = .ok (.aload_n 1, 1) := by decide +kernel
theorem e52_13 : decode kC55 13 = .ok (.iconst 1, 1) := by decide +kernel
theorem e52_14 : decode kC55 14 = .ok (.iload_n 0, 1) := by decide +kernel
theorem e52_15 : decode kC55 15 = .ok (.bipush 16, 2) := by decide +kernel
theorem e52_17 : decode kC55 17 = .ok (.iushr, 1) := by decide +kernel
theorem e52_18 : decode kC55 18 = .ok (.i2c, 1) := by decide +kernel
theorem e52_19 : decode kC55 19 = .ok (.castore, 1) := by decide +kernel
theorem e52_20 : decode kC55 20 = .ok (.new 26, 3) := by decide +kernel
theorem wd6 (hw : HW a0 Z) : BW a0 Z (.classLink sT6 (26 : Nat) sT1) := wat hw 6 rfl
theorem e52_23 : decode kC55 23 = .ok (.dup, 1) := by decide +kernel
theorem e52_24 : decode kC55 24 = .ok (.aload_n 1, 1) := by decide +kernel
theorem e52_25 : decode kC55 25 = .ok (.invokespecial 31, 3) := by decide +kernel
theorem wd11 (hw : HW a0 Z) : BW a0 Z (.code ⟨sT1, "<init>", "([C)V"⟩ kC52 (2 : Nat) (Option.none : Option Jvm.ClassFile.FieldType)) := wat hw 11 rfl
theorem pd32 : parseMethodDescriptor "([C)V" = some ⟨[(.array .char)], none⟩ := by decide +kernel
theorem wd9 (hw : HW a0 Z) : BW a0 Z (.methodLink sT6 (31 : Nat) ⟨sT1, "<init>", "([C)V"⟩) := wat hw 9 rfl
theorem wd10 (hw : HW a0 Z) : BW a0 Z (.instanceMethod ⟨sT1, "<init>", "([C)V"⟩) := wat hw 10 rfl
theorem e52_28 : decode kC55 28 = .ok (.areturn, 1) := by decide +kernel
def Q_two (Z : State) (zC : Int32) (vF : Value) (x : Int32) (h0 : Heap) (v : Option Value) (h : Heap) (L : List Loc) : Prop := ∃ (r : Addr), ∃ (t : Addr), ∃ (kt : ClassId), ∃ (cd : Int32), ∃ (z : Int32), ∃ (vs : List Value), v = some (.ref r) ∧ Fr Z.heap.size L ∧ Keep h0 h [] ∧ Exa Z h r sT1 ∧ Fld Z h r sT1 "coder" "B" (.int cd) ∧ Fld Z h r sT1 "value" "[B" (.ref t) ∧ Arv Z h t kt .byte z vs (.int 0) ∧ (SB ([(chA x), (chB x)] : List Int32) cd z vs)
theorem pn10 : plainName "com/example/anteriorita/anteriorita/RecordIdsDuplicatePinLaw" = true := by first | (simp [plainName, overriddenIn]; done) | decide +kernel
theorem rm_two (l : Launch) (Z : State) (a0 : Array Value) (hw : HW a0 Z) (zC : Int32) (vF : Value) (G : GB l a0 Z zC vF) (x : Int32) (h0 : Heap) (O0 : Old Z Z.heap.size h0)  :
    Con l Z (⟨"com/example/anteriorita/anteriorita/RecordIdsDuplicatePinLaw", "two", "(I)Ljava/lang/String;"⟩ : MethodName) kC55 2 (some (.object sT1)) ({ frames := 6, cells := 4, slots := 108, locals := 88 } : Room) #[(.int x)] h0 (Q_two Z zC vF x h0) := by
  obtain ⟨hl, SC, PC, rF, SF, SA, SH, SL, hX⟩ := id G
  refine Con.intro (plainFor_of_name pn10) ?_
  intro p e s m below meth c T0 X0 hx hby hml hown0 hnm hret hlk hZ0 e0
  have N0 := Fr.nil Z.heap.size
  refine castGo (g' := mkF m 0 #[.val (.int x), .unset] []) (by first | rfl | (simp [entryFrame, mkF, argsToLocals, Value.category]; done)) ?_
  show Go _ _ _ _ (T0.setTop (mkF m 0 #[.val (.int x), .unset] []))
  refine cI X0 hx (hb hby e52_0) (q := 1) rfl (z := (2 : Int32)) rfl ?_
  refine g_newA X0 hx hZ0 (aty := .char) (wd4 hw) (by decide) (n := 2) (by decide) (by decide) (by decide) (by decide) e0 (hb hby e52_1) (q := 3) rfl ?_
  intro T894 h894 k894 b894 g894 X894 e894 E894 V894
  have Va894 : Arv Z h894 b894 k894 .char (2 : Int32) [(iv 0), (iv 0)] (.int 0) := V894
  refine sA X894 hx (hb hby e52_3) (q := 4) rfl rfl (Ls' := #[.val (.int x), .val (.ref b894)]) rfl ?_
  refine aL X894 hx (hb hby e52_4) (q := 5) rfl rfl rfl ?_
  refine cI X894 hx (hb hby e52_5) (q := 6) rfl (z := (0 : Int32)) rfl ?_
  refine iL X894 hx (hb hby e52_6) (q := 7) rfl rfl ?_
  refine g_ldcI X894 hx (a1 := #[]) hZ0 hown0 (wd5 hw) (hb hby e52_7) (q := 9) rfl ?_
  refine g_iand X894 hx (hb hby e52_9) (q := 10) rfl rfl ?_
  refine g_i2c X894 hx (hb hby e52_10) (q := 11) rfl (z := (chA x)) rfl ?_
  have gz896 : Z.heap.size ≤ b894 := Nat.le_trans O0.2.1 (Nat.le_of_eq g894.symm)
  refine g_stC X894 hx hZ0 Va894 (i := 0) (by decide) (by decide) (by decide) (Nat.le_of_ble_eq_true rfl) (y := (chA x)) (nar_of (chA_rng _).1 (chA_rng _).2) e894 (hb hby e52_11) (q := 12) rfl ?_
  intro T895 h895 X895 e895 W895 V895
  have N895 := Fr.snoc X895 N0 gz896
  have Va895 : Arv Z h895 b894 k894 .char (2 : Int32) [(.int (chA x)), (iv 0)] (.int 0) := V895
  refine aL X895 hx (hb hby e52_12) (q := 13) rfl rfl rfl ?_
  refine cI X895 hx (hb hby e52_13) (q := 14) rfl (z := (1 : Int32)) rfl ?_
  refine iL X895 hx (hb hby e52_14) (q := 15) rfl rfl ?_
  refine bI X895 hx (hb hby e52_15) (q := 17) rfl (z := (16 : Int32)) rfl ?_
  refine g_iushr X895 hx (hb hby e52_17) (q := 18) rfl rfl ?_
  refine g_i2c X895 hx (hb hby e52_18) (q := 19) rfl (z := (chB x)) rfl ?_
  refine g_stC X895 hx hZ0 Va895 (i := 1) (by decide) (by decide) (by decide) (Nat.le_of_ble_eq_true rfl) (y := (chB x)) (nar_of (chB_rng _).1 (chB_rng _).2) e895 (hb hby e52_19) (q := 20) rfl ?_
  intro T897 h897 X897 e897 W897 V897
  have N897 := Fr.snoc X897 N895 gz896
  have Va897 : Arv Z h897 b894 k894 .char (2 : Int32) [(.int (chA x)), (.int (chB x))] (.int 0) := V897
  refine g_new X897 hx hZ0 hown0 (wd6 hw) (wd7 hw) (wd8 hw) (by decide) (by decide) e897 (hb hby e52_20) (q := 23) rfl ?_
  intro T898 h898 b898 g898 X898 e898 E898 A898 D898
  have F898_32 := D898 (Or.inr (wd32 hw)) (ty := .byte) (by decide)
  have F898_34 := D898 (Or.inr (wd34 hw)) (ty := (.array .byte)) (by decide)
  refine g_dup X898 hx (hb hby e52_23) (q := 24) rfl rfl ?_
  refine aL X898 hx (hb hby e52_24) (q := 25) rfl rfl rfl ?_
  rcases either (two_rng x) with hA | hW
  · show Go _ _ _ _ (T898.setTop (mkF m 25 #[.val (.int x), .val (.ref b894)] [(.ref b894), (.ref b898), (.ref b898)]))
    have f900 := O0.ext E894
    have f901 := f900.wr W895 gz896
    have f902 := f901.wr W897 gz896
    have f903 := f902.ext E898
    have gz904 : Z.heap.size ≤ b898 := Nat.le_trans f902.2.1 (Nat.le_of_eq g898.symm)
    have f905 := Va897.ext E898
    refine g_sp X898 hx hZ0 hown0 (wd9 hw) (wd10 hw) (wd11 hw) rfl (by decide) e898 (StrChars.Road.backV (W := 1) hZ0 (own_wStr hw) (kI := 4) (wd7 hw) (cs := ([(chA x), (chB x)] : List Int32)) (bs := (([(chA x), (chB x)] : List Int32).map (fun c => c.toInt8.toInt32))) (n := 2) gz904 f903.2.1 A898 F898_34 F898_32 f905 (SC.ext f903.2) PC rfl rfl (by decide) (by decide) hA rfl (by decide) (by decide)) (a := b898) (argsL := [.ref b894]) (W := 1) (nk := 1) (ns := 2) (Qc := StrChars.Road.QV Z b898 (2 : Int32) (([(chA x), (chB x)] : List Int32).map (fun c => c.toInt8.toInt32)) h898 Z.heap.size) (by rw [hml]; rfl) (lenOf pd32 rfl) rfl (Nat.le_of_eq rfl) (hb hby e52_25) (q := 28) rfl (by decide) (by decide) ?_
    intro v899 T899 L899 X899 Q899
    obtain ⟨rfl, Nq899, K899q, E899q, C899q, t899, kb899, tz899, tg899, tn899, Fv899, Va899⟩ := Q899
    have N899 := Fr.app N897 Nq899
    have Vb899 : Arv Z T899.heap t899 kb899 .byte (2 : Int32) [(.int (StrChars.lo8 (chA x))), (.int (StrChars.lo8 (chB x)))] (.int 0) := Va899
    show Go _ _ _ _ (T899.setTop (mkF m 28 #[.val (.int x), .val (.ref b894)] [(.ref b898)]))
    have K906 : Keep h0 h894 [] := (Keep.refl h0 []).ext E894
    have gh907 : h0.size ≤ b894 := Nat.le_trans (Nat.le_refl _) (Nat.le_of_eq g894.symm)
    have K908 : Keep h0 h895 [] := K906.wr W895 (Or.inr gh907)
    have K909 : Keep h0 h897 [] := K908.wr W897 (Or.inr gh907)
    have K910 : Keep h0 h898 [] := K909.ext E898
    have le912 := E894.1
    have le913 := (Nat.le_trans le912 (Nat.le_of_eq (Wr.size W895).symm))
    have le914 := (Nat.le_trans le913 (Nat.le_of_eq (Wr.size W897).symm))
    have gh911 : h0.size ≤ b898 := Nat.le_trans le914 (Nat.le_of_eq g898.symm)
    have K915 : Keep h0 T899.heap [] := K910.trans K899q (allS (Or.inr gh911) all0)
    refine endP X899 hlk (fun h => by rw [hret] at h; cases h) (lastA X899 hx hret rfl rfl rfl (hb hby e52_28)) ?_ (by decide) (by decide)
    refine ⟨b898, t899, kb899, (0 : Int32), (2 : Int32), [(.int (StrChars.lo8 (chA x))), (.int (StrChars.lo8 (chB x)))], rfl, N899, K915, E899q, C899q, Fv899, Vb899, ?_⟩
    · exact (Or.inl ⟨hA, rfl, rfl, rfl⟩)
  · show Go _ _ _ _ (T898.setTop (mkF m 25 #[.val (.int x), .val (.ref b894)] [(.ref b894), (.ref b898), (.ref b898)]))
    have f923 := O0.ext E894
    have f924 := f923.wr W895 gz896
    have f925 := f924.wr W897 gz896
    have gz922 : Z.heap.size ≤ b898 := Nat.le_trans f925.2.1 (Nat.le_of_eq g898.symm)
    have f926 := Va897.ext E898
    have f927 := f925.ext E898
    refine g_sp X898 hx hZ0 hown0 (wd9 hw) (wd10 hw) (wd11 hw) rfl (by decide) e898 (Con.back (W := 1) (rm_new1w2 l Z a0 hw zC vF G b898 b894 k894 ([(chA x), (chB x)] : List Int32) h898 f927 A898 F898_34 F898_32 gz922 f926 rfl hW) hZ0 (wd11 hw) (wd8 hw) (by decide) (by decide)) (by rw [hml]; rfl) (lenOf pd32 rfl) rfl (Nat.le_of_eq rfl) (hb hby e52_25) (q := 28) rfl (by decide) (by decide) ?_
    intro v921 T921 L921 X921 Q921
    obtain ⟨t_921, kb_921, rfl, Nq921, K921q, q921_0, q921_1, q921_2, q921_3, q921_4⟩ := Q921
    have N921 := Fr.app N897 Nq921
    show Go _ _ _ _ (T921.setTop (mkF m 28 #[.val (.int x), .val (.ref b894)] [(.ref b898)]))
    have K928 : Keep h0 h894 [] := (Keep.refl h0 []).ext E894
    have gh929 : h0.size ≤ b894 := Nat.le_trans (Nat.le_refl _) (Nat.le_of_eq g894.symm)
    have K930 : Keep h0 h895 [] := K928.wr W895 (Or.inr gh929)
    have K931 : Keep h0 h897 [] := K930.wr W897 (Or.inr gh929)
    have K932 : Keep h0 h898 [] := K931.ext E898
    have le934 := E894.1
    have le935 := (Nat.le_trans le934 (Nat.le_of_eq (Wr.size W895).symm))
    have le936 := (Nat.le_trans le935 (Nat.le_of_eq (Wr.size W897).symm))
    have gh933 : h0.size ≤ b898 := Nat.le_trans le936 (Nat.le_of_eq g898.symm)
    have K937 : Keep h0 T921.heap [] := K932.trans K921q (allS (Or.inr gh933) all0)
    refine endP X921 hlk (fun h => by rw [hret] at h; cases h) (lastA X921 hx hret rfl rfl rfl (hb hby e52_28)) ?_ (by decide) (by decide)
    refine ⟨b898, t_921, kb_921, (1 : Int32), (4 : Int32), (flat ([(chA x), (chB x)] : List Int32)), rfl, N921, K937, q921_1, q921_3, q921_2, q921_4, ?_⟩
    · exact (Or.inr ⟨hW, rfl, rfl, rfl⟩)
theorem e51_0 : decode kC51 0 = .ok (.aload_n 0, 1) := by decide +kernel
theorem e51_1 : decode kC51 1 = .ok (.getfield 31, 3) := by decide +kernel
theorem wd226 (hw : HW a0 Z) : BW a0 Z (.fieldLink sT3 (31 : Nat) sT3 "detailMessage" "Ljava/lang/String;") := wat hw 226 rfl
theorem e51_4 : decode kC51 4 = .ok (.areturn, 1) := by decide +kernel
def Q_gmsg (Z : State) (zC : Int32) (vF : Value) (a1 : Addr) (a2 : Addr) (h0 : Heap) (v : Option Value) (h : Heap) (L : List Loc) : Prop := v = some (.ref a2) ∧ Fr Z.heap.size L ∧ h = h0
theorem pn11 : plainName "java/lang/Throwable" = true := by first | (simp [plainName, overriddenIn]; done) | decide +kernel
theorem rm_gmsg (l : Launch) (Z : State) (a0 : Array Value) (hw : HW a0 Z) (zC : Int32) (vF : Value) (G : GB l a0 Z zC vF) (a1 : Addr) (a2 : Addr) (h0 : Heap) (O0 : Old Z Z.heap.size h0) (P1 : Fld Z h0 a1 sT3 "detailMessage" "Ljava/lang/String;" (.ref a2)) :
    Con l Z (⟨sT3, "getMessage", "()Ljava/lang/String;"⟩ : MethodName) kC51 1 (some (.object sT1)) ({ frames := 0, cells := 0, slots := 0, locals := 0 } : Room) #[(.ref a1)] h0 (Q_gmsg Z zC vF a1 a2 h0) := by
  refine Con.intro (plainFor_of_name pn11) ?_
  intro p e s m below meth c T0 X0 hx hby hml hown0 hnm hret hlk hZ0 e0
  have N0 := Fr.nil Z.heap.size
  refine castGo (g' := mkF m 0 #[.val (.ref a1)] []) (by first | rfl | (simp [entryFrame, mkF, argsToLocals, Value.category]; done)) ?_
  show Go _ _ _ _ (T0.setTop (mkF m 0 #[.val (.ref a1)] []))
  refine aL X0 hx (hb hby e51_0) (q := 1) rfl rfl rfl ?_
  refine g_getF X0 hx hZ0 hown0 (host := "") (Or.inl (wd226 hw)) Via.refl P1 e0 (hb hby e51_1) (q := 4) rfl ?_
  intro T938 X938 e938
  refine endP X938 hlk (fun h => by rw [hret] at h; cases h) (lastA X938 hx hret rfl rfl rfl (hb hby e51_4)) ?_ (by decide) (by decide)
  rw [e938]
  exact ⟨rfl, N0, rfl⟩
theorem e50_0 : decode kC38 0 = .ok (.aload_n 0, 1) := by decide +kernel
theorem e50_1 : decode kC38 1 = .ok (.invokespecial 1, 3) := by decide +kernel
theorem wd190 (hw : HW a0 Z) : BW a0 Z (.methodLink sT3 (1 : Nat) ⟨"java/lang/Object", "<init>", "()V"⟩) := wat hw 190 rfl
theorem e50_4 : decode kC38 4 = .ok (.aload_n 0, 1) := by decide +kernel
theorem e50_5 : decode kC38 5 = .ok (.aload_n 0, 1) := by decide +kernel
theorem e50_6 : decode kC38 6 = .ok (.putfield 7, 3) := by decide +kernel
theorem wd191 (hw : HW a0 Z) : BW a0 Z (.fieldLink sT3 (7 : Nat) sT3 "cause" "Ljava/lang/Throwable;") := wat hw 191 rfl
theorem wd192 (hw : HW a0 Z) : BW a0 Z (.lays sT4 sT3 "cause" "Ljava/lang/Throwable;") := wat hw 192 rfl
theorem wd40 (hw : HW a0 Z) : BW a0 Z (.instantiable sT4 (6 : Nat)) := wat hw 40 rfl
theorem e50_9 : decode kC38 9 = .ok (.aload_n 0, 1) := by decide +kernel
theorem e50_10 : decode kC38 10 = .ok (.getstatic 13, 3) := by decide +kernel
theorem wd193 (hw : HW a0 Z) : BW a0 Z (.fieldLink sT3 (13 : Nat) sT3 "UNASSIGNED_STACK" "[Ljava/lang/StackTraceElement;") := wat hw 193 rfl
theorem e50_13 : decode kC38 13 = .ok (.putfield 17, 3) := by decide +kernel
theorem wd194 (hw : HW a0 Z) : BW a0 Z (.fieldLink sT3 (17 : Nat) sT3 "stackTrace" "[Ljava/lang/StackTraceElement;") := wat hw 194 rfl
theorem wd195 (hw : HW a0 Z) : BW a0 Z (.lays sT4 sT3 "stackTrace" "[Ljava/lang/StackTraceElement;") := wat hw 195 rfl
theorem e50_16 : decode kC38 16 = .ok (.aload_n 0, 1) := by decide +kernel
theorem e50_17 : decode kC38 17 = .ok (.getstatic 20, 3) := by decide +kernel
theorem wd196 (hw : HW a0 Z) : BW a0 Z (.fieldLink sT3 (20 : Nat) sT3 "SUPPRESSED_SENTINEL" "Ljava/util/List;") := wat hw 196 rfl
theorem e50_20 : decode kC38 20 = .ok (.putfield 24, 3) := by decide +kernel
theorem wd197 (hw : HW a0 Z) : BW a0 Z (.fieldLink sT3 (24 : Nat) sT3 "suppressedExceptions" "Ljava/util/List;") := wat hw 197 rfl
theorem wd198 (hw : HW a0 Z) : BW a0 Z (.lays sT4 sT3 "suppressedExceptions" "Ljava/util/List;") := wat hw 198 rfl
theorem e50_23 : decode kC38 23 = .ok (.aload_n 0, 1) := by decide +kernel
theorem e50_24 : decode kC38 24 = .ok (.invokevirtual 27, 3) := by decide +kernel
theorem wd223 (hw : HW a0 Z) : BW a0 Z (.lays sT4 sT3 "backtrace" "Ljava/lang/Object;") := wat hw 223 rfl
theorem wd222 (hw : HW a0 Z) : BW a0 Z (.lays sT4 sT3 "detailMessage" "Ljava/lang/String;") := wat hw 222 rfl
theorem e50_27 : decode kC38 27 = .ok (.pop, 1) := by decide +kernel
theorem e50_28 : decode kC38 28 = .ok (.aload_n 0, 1) := by decide +kernel
theorem e50_29 : decode kC38 29 = .ok (.aload_n 1, 1) := by decide +kernel
theorem e50_30 : decode kC38 30 = .ok (.putfield 31, 3) := by decide +kernel
theorem e50_33 : decode kC38 33 = .ok (.return_, 1) := by decide +kernel
def Q_thr0 (Z : State) (zC : Int32) (vF : Value) (a1 : Addr) (a2 : Addr) (h0 : Heap) (v : Option Value) (h : Heap) (L : List Loc) : Prop := v = none ∧ Fr Z.heap.size L ∧ Keep h0 h [a1] ∧ Fld Z h a1 sT3 "detailMessage" "Ljava/lang/String;" (.ref a2)
theorem rm_thr0 (l : Launch) (Z : State) (a0 : Array Value) (hw : HW a0 Z) (zC : Int32) (vF : Value) (G : GB l a0 Z zC vF) (a1 : Addr) (a2 : Addr) (h0 : Heap) (O0 : Old Z Z.heap.size h0) (Th : ThS Z h0) (Pe : Exa Z h0 a1 sT4) (Pu : Unt h0 a1) (Pg : Z.heap.size ≤ a1) (P0 : Fld Z h0 a1 sT3 "cause" "Ljava/lang/Throwable;" .null) (P1 : Fld Z h0 a1 sT3 "stackTrace" "[Ljava/lang/StackTraceElement;" .null) (P2 : Fld Z h0 a1 sT3 "suppressedExceptions" "Ljava/util/List;" .null) (P3 : Fld Z h0 a1 sT3 "backtrace" "Ljava/lang/Object;" .null) (P4 : Fld Z h0 a1 sT3 "detailMessage" "Ljava/lang/String;" .null) :
    ConK l Z EL (⟨sT3, "<init>", "(Ljava/lang/String;)V"⟩ : MethodName) kC38 2 none ({ frames := 3, cells := 1, slots := 2752, locals := 42 } : Room) #[(.ref a1), (.ref a2)] h0 [a1] (Q_thr0 Z zC vF a1 a2 h0) := by
  obtain ⟨hl, SC, PC, rF, SF, SA, SH, SL, hX⟩ := id G
  refine ConK.intro (plainFor_of_name pn11) ?_
  intro p e s m below meth c T0 v0 X0 hx hby hml hown0 hnm hret hlk hZ0 e0 hS0 C0 hsl0 hs0 hTK0 hBF0
  have hTh0 : ThS Z s.heap := hs0 ▸ Th
  have Ps := hsl0 a1 (by simp)
  have N0 := Fr.nil Z.heap.size
  refine castGo (g' := mkF m 0 #[.val (.ref a1), .val (.ref a2)] []) (by first | rfl | (simp [entryFrame, mkF, argsToLocals, Value.category]; done)) ?_
  obtain ⟨⟨vU, hvU, SU⟩, vS, hvS, SS⟩ := hX.2
  show Go _ _ _ _ (T0.setTop (mkF m 0 #[.val (.ref a1), .val (.ref a2)] []))
  refine aL X0 hx (hb hby e50_0) (q := 1) rfl rfl rfl ?_
  refine g_init0 X0 hx hZ0 hown0 (wd190 hw) (wd17 hw) (wd18 hw) (by rw [hml]; rfl) (by decide) (W := 0) (Nat.le_of_eq rfl) (by decide) e0 (hb hby e50_1) (q := 4) rfl ?_
  intro T939 X939 e939
  refine aL X939 hx (hb hby e50_4) (q := 5) rfl rfl rfl ?_
  refine aL X939 hx (hb hby e50_5) (q := 6) rfl rfl rfl ?_
  refine g_putF X939 hx hZ0 hown0 (host := "") (Or.inl (wd191 hw)) Via.refl P0 Pe (Or.inl (wd192 hw)) (wd40 hw) (ty := (.object sT3)) (by decide) rfl rfl e939 (hb hby e50_6) (q := 9) rfl ?_
  intro T940 h940 X940 e940 W940
  have N940 := Fr.snoc X940 N0 Pg
  have Fw940 : Fld Z h940 a1 sT3 "cause" "Ljava/lang/Throwable;" (.ref a1) := P0.same W940
  refine aL X940 hx (hb hby e50_9) (q := 10) rfl rfl rfl ?_
  have f942 := O0.wr W940 Pg
  refine g_getS X940 hx hZ0 hown0 (host := "") (Or.inl (wd193 hw)) Via.refl (SU.ext f942.2) e940 (hb hby e50_10) (q := 13) rfl ?_
  intro T941 X941 e941
  have f943 := P1.other W940 (Or.inr (slot_ne (Or.inl (wd195 hw)) (Or.inl (wd192 hw)) (by decide) (t := (.array (.object "java/lang/StackTraceElement"))) (t' := (.object sT3)) (by decide) (by decide)))
  have f944 := Pe.wr W940
  have f946 := C0.trans (CHr.wr W940 Ps C0.1)
  have f947 := Safe.wr W940 Ps C0.1 Ps
  refine g_putF X941 hx hZ0 hown0 (host := "") (Or.inl (wd194 hw)) Via.refl f943 f944 (Or.inl (wd195 hw)) (wd40 hw) (ty := (.array (.object "java/lang/StackTraceElement"))) (by decide) (own_nrefA hvU) (own_frefA hvU) e941 (hb hby e50_13) (q := 16) rfl ?_
  intro T945 h945 X945 e945 W945
  have N945 := Fr.snoc X945 N940 Pg
  have Fw945 : Fld Z h945 a1 sT3 "stackTrace" "[Ljava/lang/StackTraceElement;" vU := f943.same W945
  refine aL X945 hx (hb hby e50_16) (q := 17) rfl rfl rfl ?_
  have f949 := f942.wr W945 Pg
  refine g_getS X945 hx hZ0 hown0 (host := "") (Or.inl (wd196 hw)) Via.refl (SS.ext f949.2) e945 (hb hby e50_17) (q := 20) rfl ?_
  intro T948 X948 e948
  have f950 := P2.other W940 (Or.inr (slot_ne (Or.inl (wd198 hw)) (Or.inl (wd192 hw)) (by decide) (t := (.object "java/util/List")) (t' := (.object sT3)) (by decide) (by decide)))
  have f951 := f950.other W945 (Or.inr (slot_ne (Or.inl (wd198 hw)) (Or.inl (wd195 hw)) (by decide) (t := (.object "java/util/List")) (t' := (.array (.object "java/lang/StackTraceElement"))) (by decide) (by decide)))
  have f952 := f944.wr W945
  have f954 := f946.trans (CHr.wr W945 f947 f946.1)
  have f955 := Safe.wr W945 f947 f946.1 f947
  refine g_putF X948 hx hZ0 hown0 (host := "") (Or.inl (wd197 hw)) Via.refl f951 f952 (Or.inl (wd198 hw)) (wd40 hw) (ty := (.object "java/util/List")) (by decide) (own_nref hvS) (own_fref hvS) e948 (hb hby e50_20) (q := 23) rfl ?_
  intro T953 h953 X953 e953 W953
  have N953 := Fr.snoc X953 N945 Pg
  have Fw953 : Fld Z h953 a1 sT3 "suppressedExceptions" "Ljava/util/List;" vS := f951.same W953
  refine aL X953 hx (hb hby e50_23) (q := 24) rfl rfl rfl ?_
  have f957 := ThS.wr W940 Th
  have f958 := ThS.wr W945 f957
  have f959 := ThS.wr W953 f958
  have f960 := f952.wr W953
  have f961 := Unt.wr W940 Pu
  have f962 := Unt.wr W945 f961
  have f963 := Unt.wr W953 f962
  have f964 := P3.other W940 (Or.inr (slot_ne (Or.inl (wd223 hw)) (Or.inl (wd192 hw)) (by decide) (t := (.object "java/lang/Object")) (t' := (.object sT3)) (by decide) (by decide)))
  have f965 := f964.other W945 (Or.inr (slot_ne (Or.inl (wd223 hw)) (Or.inl (wd195 hw)) (by decide) (t := (.object "java/lang/Object")) (t' := (.array (.object "java/lang/StackTraceElement"))) (by decide) (by decide)))
  have f966 := f965.other W953 (Or.inr (slot_ne (Or.inl (wd223 hw)) (Or.inl (wd198 hw)) (by decide) (t := (.object "java/lang/Object")) (t' := (.object "java/util/List")) (by decide) (by decide)))
  have f967 := P4.other W940 (Or.inr (slot_ne (Or.inl (wd222 hw)) (Or.inl (wd192 hw)) (by decide) (t := (.object sT1)) (t' := (.object sT3)) (by decide) (by decide)))
  have f968 := f967.other W945 (Or.inr (slot_ne (Or.inl (wd222 hw)) (Or.inl (wd195 hw)) (by decide) (t := (.object sT1)) (t' := (.array (.object "java/lang/StackTraceElement"))) (by decide) (by decide)))
  have f969 := f968.other W953 (Or.inr (slot_ne (Or.inl (wd222 hw)) (Or.inl (wd198 hw)) (by decide) (t := (.object sT1)) (t' := (.object "java/util/List")) (by decide) (by decide)))
  have f970 := Fw945.other W953 (Or.inr (slot_ne (Or.inl (wd195 hw)) (Or.inl (wd198 hw)) (by decide) (t := (.array (.object "java/lang/StackTraceElement"))) (t' := (.object "java/util/List")) (by decide) (by decide)))
  have f971 := f954.trans (CHr.wr W953 f955 f954.1)
  have f972 := Safe.wr W953 f955 f954.1 f955
  have f973 := f949.wr W953 Pg
  refine g_fill X953 hx hl hZ0 hown0 hX.1 (wd40 hw) hTh0 (Vm.MethodsKnown.alikeC (hZ0.alike.symm.trans hZ0.alike) hTK0) (Vm.FramesKnown.alikeC (hZ0.alike.symm.trans hZ0.alike) hBF0) e953 f960 f963 f966 f969 hvU f970 (SU.ext f973.2) (based (based (based (fun _ q => nomatch q) X940) X945) X953) (Only.wr (Only.wr (Only.wr (Only.same hs0) W940) W945) W953) (by rw [hml]; rfl) (hb hby e50_24) (q := 27) rfl (by decide) (W := 0) (Nat.le_of_eq rfl) (by decide) (by decide) (by decide) ?_
  intro T956 h956 L956 X956 e956 B956 K956q M956
  have N956 := Fr.app N953 (fun y hy => (B956 y hy).symm ▸ Pg)
  show Go _ _ _ _ (T956.setTop (mkF m 27 #[.val (.ref a1), .val (.ref a2)] [(.ref a1)]))
  refine g_pop X956 hx (hb hby e50_27) (q := 28) rfl rfl ?_
  refine aL X956 hx (hb hby e50_28) (q := 29) rfl rfl rfl ?_
  refine aL X956 hx (hb hby e50_29) (q := 30) rfl rfl rfl ?_
  have f974 := f960.keep K956q
  have f976 := f971.trans (CHr.keep K956q (sfS f972 sf0) f971.1)
  have f977 := Safe.keep K956q (sfS f972 sf0) f971.1 f972
  refine g_putF X956 hx hZ0 hown0 (host := "") (Or.inl (wd226 hw)) Via.refl M956 f974 (Or.inl (wd222 hw)) (wd40 hw) (ty := (.object sT1)) (by decide) rfl rfl e956 (hb hby e50_30) (q := 33) rfl ?_
  intro T975 h975 X975 e975 W975
  have N975 := Fr.snoc X975 N956 Pg
  have Fw975 : Fld Z h975 a1 sT3 "detailMessage" "Ljava/lang/String;" (.ref a2) := M956.same W975
  have K978 : Keep h0 h940 [a1] := (Keep.refl h0 [a1]).wr W940 (Or.inl (by simp))
  have K979 : Keep h0 h945 [a1] := K978.wr W945 (Or.inl (by simp))
  have K980 : Keep h0 h953 [a1] := K979.wr W953 (Or.inl (by simp))
  have K981 : Keep h0 h956 [a1] := K980.trans K956q (allS (Or.inl (by simp)) all0)
  have K982 : Keep h0 h975 [a1] := K981.wr W975 (Or.inl (by simp))
  have f983 := f976.trans (CHr.wr W975 f977 f976.1)
  refine endC X975 hlk hS0 (by rw [e975]; exact (Nat.zero_le _)) hZ0 (own_EW hw) (by rw [e975]; exact f983) (fun _ => rfl) (lastV X975 hx hret (hb hby e50_33)) ?_ (by decide) (by decide)
  rw [e975]
  exact ⟨rfl, N975, K982, Fw975⟩
theorem e33_0 : decode kC46 0 = .ok (.aload_n 0, 1) := by decide +kernel
theorem e33_1 : decode kC46 1 = .ok (.aload_n 1, 1) := by decide +kernel
theorem e33_2 : decode kC46 2 = .ok (.invokespecial 7, 3) := by decide +kernel
theorem wd189 (hw : HW a0 Z) : BW a0 Z (.code ⟨sT3, "<init>", sT8⟩ kC38 (2 : Nat) (Option.none : Option Jvm.ClassFile.FieldType)) := wat hw 189 rfl
theorem wd188 (hw : HW a0 Z) : BW a0 Z (.initialized sT3) := wat hw 188 rfl
theorem wd184 (hw : HW a0 Z) : BW a0 Z (.methodLink "java/lang/Exception" (7 : Nat) ⟨sT3, "<init>", sT8⟩) := wat hw 184 rfl
theorem wd185 (hw : HW a0 Z) : BW a0 Z (.instanceMethod ⟨sT3, "<init>", sT8⟩) := wat hw 185 rfl
theorem e33_5 : decode kC46 5 = .ok (.return_, 1) := by decide +kernel
def Q_thr1 (Z : State) (zC : Int32) (vF : Value) (a1 : Addr) (a2 : Addr) (h0 : Heap) (v : Option Value) (h : Heap) (L : List Loc) : Prop := v = none ∧ Fr Z.heap.size L ∧ Keep h0 h [a1] ∧ Fld Z h a1 sT3 "detailMessage" "Ljava/lang/String;" (.ref a2)
theorem pn12 : plainName "java/lang/Exception" = true := by first | (simp [plainName, overriddenIn]; done) | decide +kernel
theorem rm_thr1 (l : Launch) (Z : State) (a0 : Array Value) (hw : HW a0 Z) (zC : Int32) (vF : Value) (G : GB l a0 Z zC vF) (a1 : Addr) (a2 : Addr) (h0 : Heap) (O0 : Old Z Z.heap.size h0) (Th : ThS Z h0) (Pe : Exa Z h0 a1 sT4) (Pu : Unt h0 a1) (Pg : Z.heap.size ≤ a1) (P0 : Fld Z h0 a1 sT3 "cause" "Ljava/lang/Throwable;" .null) (P1 : Fld Z h0 a1 sT3 "stackTrace" "[Ljava/lang/StackTraceElement;" .null) (P2 : Fld Z h0 a1 sT3 "suppressedExceptions" "Ljava/util/List;" .null) (P3 : Fld Z h0 a1 sT3 "backtrace" "Ljava/lang/Object;" .null) (P4 : Fld Z h0 a1 sT3 "detailMessage" "Ljava/lang/String;" .null) :
    ConK l Z EL (⟨"java/lang/Exception", "<init>", "(Ljava/lang/String;)V"⟩ : MethodName) kC46 2 none ({ frames := 4, cells := 1, slots := 2752, locals := 55 } : Room) #[(.ref a1), (.ref a2)] h0 [a1] (Q_thr1 Z zC vF a1 a2 h0) := by
  refine ConK.intro (plainFor_of_name pn12) ?_
  intro p e s m below meth c T0 v0 X0 hx hby hml hown0 hnm hret hlk hZ0 e0 hS0 C0 hsl0 hs0 hTK0 hBF0
  have hTh0 : ThS Z s.heap := hs0 ▸ Th
  have Ps := hsl0 a1 (by simp)
  have N0 := Fr.nil Z.heap.size
  refine castGo (g' := mkF m 0 #[.val (.ref a1), .val (.ref a2)] []) (by first | rfl | (simp [entryFrame, mkF, argsToLocals, Value.category]; done)) ?_
  show Go _ _ _ _ (T0.setTop (mkF m 0 #[.val (.ref a1), .val (.ref a2)] []))
  refine aL X0 hx (hb hby e33_0) (q := 1) rfl rfl rfl ?_
  refine aL X0 hx (hb hby e33_1) (q := 2) rfl rfl rfl ?_
  refine g_spS X0 hx hZ0 hown0 hS0 (Nat.zero_le _) (wd184 hw) (wd185 hw) (wd189 hw) rfl (by decide) e0 (ConK.back (W := 0) (rm_thr0 l Z a0 hw zC vF G a1 a2 h0 O0 Th Pe Pu Pg P0 P1 P2 P3 P4) hZ0 (wd189 hw) (wd188 hw) (by decide) (by decide) (own_EW hw) C0.1 (sfS Ps sf0) (allS (Nat.lt_of_lt_of_le Pe.lt (Nat.le_refl _)) all0) (Vm.MethodsKnown.alikeC (hZ0.alike.symm.trans hZ0.alike) hTK0) (Vm.FramesKnown.alikeC (hZ0.alike.symm.trans hZ0.alike) hBF0)) (by rw [hml]; rfl) (lenOf pd15 rfl) rfl (Nat.le_of_eq rfl) (hb hby e33_2) (q := 5) rfl (by decide) (by decide) ?_
  rintro v984 T984 L984 ⟨X984, hS984, hZ984, hown984, R984⟩ Q984
  obtain ⟨rfl, Nq984, K984q, q984_0⟩ := Q984
  have N984 := Fr.app N0 Nq984
  show Go _ _ _ _ (T984.setTop (mkF m 5 #[.val (.ref a1), .val (.ref a2)] []))
  have K985 : Keep h0 T984.heap [a1] := (Keep.refl h0 [a1]).trans K984q (allS (Or.inl (by simp)) all0)
  have f986 := C0.trans R984
  refine endC X984 hlk hS984 (Nat.le_trans (Nat.le_refl _) (Nat.le_refl _)) hZ984 (own_EW hw) f986 (fun _ => rfl) (lastV X984 hx hret (hb hby e33_5)) ?_ (by decide) (by decide)
  exact ⟨rfl, N984, K985, q984_0⟩
theorem e54_0 : decode kC50 0 = .ok (.aload_n 0, 1) := by decide +kernel
theorem e54_1 : decode kC50 1 = .ok (.aload_n 1, 1) := by decide +kernel
theorem e54_2 : decode kC50 2 = .ok (.invokespecial 1, 3) := by decide +kernel
theorem wd183 (hw : HW a0 Z) : BW a0 Z (.code ⟨"java/lang/Exception", "<init>", sT8⟩ kC46 (2 : Nat) (Option.none : Option Jvm.ClassFile.FieldType)) := wat hw 183 rfl
theorem wd182 (hw : HW a0 Z) : BW a0 Z (.initialized "java/lang/Exception") := wat hw 182 rfl
theorem wd179 (hw : HW a0 Z) : BW a0 Z (.methodLink sT4 (1 : Nat) ⟨"java/lang/Exception", "<init>", sT8⟩) := wat hw 179 rfl
theorem wd180 (hw : HW a0 Z) : BW a0 Z (.instanceMethod ⟨"java/lang/Exception", "<init>", sT8⟩) := wat hw 180 rfl
theorem e54_5 : decode kC50 5 = .ok (.return_, 1) := by decide +kernel
def Q_thr2 (Z : State) (zC : Int32) (vF : Value) (a1 : Addr) (a2 : Addr) (h0 : Heap) (v : Option Value) (h : Heap) (L : List Loc) : Prop := v = none ∧ Fr Z.heap.size L ∧ Keep h0 h [a1] ∧ Fld Z h a1 sT3 "detailMessage" "Ljava/lang/String;" (.ref a2)
theorem pn13 : plainName "com/example/anteriorita/anteriorita/InputException" = true := by first | (simp [plainName, overriddenIn]; done) | decide +kernel
theorem rm_thr2 (l : Launch) (Z : State) (a0 : Array Value) (hw : HW a0 Z) (zC : Int32) (vF : Value) (G : GB l a0 Z zC vF) (a1 : Addr) (a2 : Addr) (h0 : Heap) (O0 : Old Z Z.heap.size h0) (Th : ThS Z h0) (Pe : Exa Z h0 a1 sT4) (Pu : Unt h0 a1) (Pg : Z.heap.size ≤ a1) (P0 : Fld Z h0 a1 sT3 "cause" "Ljava/lang/Throwable;" .null) (P1 : Fld Z h0 a1 sT3 "stackTrace" "[Ljava/lang/StackTraceElement;" .null) (P2 : Fld Z h0 a1 sT3 "suppressedExceptions" "Ljava/util/List;" .null) (P3 : Fld Z h0 a1 sT3 "backtrace" "Ljava/lang/Object;" .null) (P4 : Fld Z h0 a1 sT3 "detailMessage" "Ljava/lang/String;" .null) :
    ConK l Z EL (⟨sT4, "<init>", "(Ljava/lang/String;)V"⟩ : MethodName) kC50 2 none ({ frames := 5, cells := 1, slots := 2752, locals := 68 } : Room) #[(.ref a1), (.ref a2)] h0 [a1] (Q_thr2 Z zC vF a1 a2 h0) := by
  refine ConK.intro (plainFor_of_name pn13) ?_
  intro p e s m below meth c T0 v0 X0 hx hby hml hown0 hnm hret hlk hZ0 e0 hS0 C0 hsl0 hs0 hTK0 hBF0
  have hTh0 : ThS Z s.heap := hs0 ▸ Th
  have Ps := hsl0 a1 (by simp)
  have N0 := Fr.nil Z.heap.size
  refine castGo (g' := mkF m 0 #[.val (.ref a1), .val (.ref a2)] []) (by first | rfl | (simp [entryFrame, mkF, argsToLocals, Value.category]; done)) ?_
  show Go _ _ _ _ (T0.setTop (mkF m 0 #[.val (.ref a1), .val (.ref a2)] []))
  refine aL X0 hx (hb hby e54_0) (q := 1) rfl rfl rfl ?_
  refine aL X0 hx (hb hby e54_1) (q := 2) rfl rfl rfl ?_
  refine g_spS X0 hx hZ0 hown0 hS0 (Nat.zero_le _) (wd179 hw) (wd180 hw) (wd183 hw) rfl (by decide) e0 (ConK.back (W := 0) (rm_thr1 l Z a0 hw zC vF G a1 a2 h0 O0 Th Pe Pu Pg P0 P1 P2 P3 P4) hZ0 (wd183 hw) (wd182 hw) (by decide) (by decide) (own_EW hw) C0.1 (sfS Ps sf0) (allS (Nat.lt_of_lt_of_le Pe.lt (Nat.le_refl _)) all0) (Vm.MethodsKnown.alikeC (hZ0.alike.symm.trans hZ0.alike) hTK0) (Vm.FramesKnown.alikeC (hZ0.alike.symm.trans hZ0.alike) hBF0)) (by rw [hml]; rfl) (lenOf pd15 rfl) rfl (Nat.le_of_eq rfl) (hb hby e54_2) (q := 5) rfl (by decide) (by decide) ?_
  rintro v987 T987 L987 ⟨X987, hS987, hZ987, hown987, R987⟩ Q987
  obtain ⟨rfl, Nq987, K987q, q987_0⟩ := Q987
  have N987 := Fr.app N0 Nq987
  show Go _ _ _ _ (T987.setTop (mkF m 5 #[.val (.ref a1), .val (.ref a2)] []))
  have K988 : Keep h0 T987.heap [a1] := (Keep.refl h0 [a1]).trans K987q (allS (Or.inl (by simp)) all0)
  have f989 := C0.trans R987
  refine endC X987 hlk hS987 (Nat.le_trans (Nat.le_refl _) (Nat.le_refl _)) hZ987 (own_EW hw) f989 (fun _ => rfl) (lastV X987 hx hret (hb hby e54_5)) ?_ (by decide) (by decide)
  exact ⟨rfl, N987, K988, q987_0⟩
def K1L : List Int32 := [58, 32, 100, 117, 112, 108, 105, 99, 97, 116, 101, 32, 105, 100, 32, 34]
def K2L : List Int32 := [34, 44, 32, 102, 105, 114, 115, 116, 32, 97, 116, 32]
theorem k1sb : SB K1L 0 16 [(iv 58), (iv 32), (iv 100), (iv 117), (iv 112), (iv 108), (iv 105), (iv 99), (iv 97), (iv 116), (iv 101), (iv 32), (iv 105), (iv 100), (iv 32), (iv 34)] := Or.inl ⟨by unfold ALL K1L; decide, rfl, rfl, rfl⟩
theorem k2sb : SB K2L 0 12 [(iv 34), (iv 44), (iv 32), (iv 102), (iv 105), (iv 114), (iv 115), (iv 116), (iv 32), (iv 97), (iv 116), (iv 32)] := Or.inl ⟨by unfold ALL K2L; decide, rfl, rfl, rfl⟩
theorem bu0 : BU [] 16 0 16 (List.replicate 16 (iv 0)) := Or.inl ⟨(fun _ q => nomatch q), rfl, rfl, rfl⟩
theorem e53_0 : decode kC11 0 = .ok (.new 34, 3) := by decide +kernel
theorem wd39 (hw : HW a0 Z) : BW a0 Z (.classLink sT7 (34 : Nat) sT4) := wat hw 39 rfl
theorem wd41 (hw : HW a0 Z) : BW a0 Z (.initialized sT4) := wat hw 41 rfl
theorem wd224 (hw : HW a0 Z) : BW a0 Z (.lays sT4 sT3 "depth" "I") := wat hw 224 rfl
theorem e53_3 : decode kC11 3 = .ok (.dup, 1) := by decide +kernel
theorem e53_4 : decode kC11 4 = .ok (.new 36, 3) := by decide +kernel
theorem wd42 (hw : HW a0 Z) : BW a0 Z (.classLink sT7 (36 : Nat) sT2) := wat hw 42 rfl
theorem e53_7 : decode kC11 7 = .ok (.dup, 1) := by decide +kernel
theorem e53_8 : decode kC11 8 = .ok (.invokespecial 38, 3) := by decide +kernel
theorem wd47 (hw : HW a0 Z) : BW a0 Z (.code ⟨sT2, "<init>", "()V"⟩ kC48 (1 : Nat) (Option.none : Option Jvm.ClassFile.FieldType)) := wat hw 47 rfl
theorem wd45 (hw : HW a0 Z) : BW a0 Z (.methodLink sT7 (38 : Nat) ⟨sT2, "<init>", "()V"⟩) := wat hw 45 rfl
theorem wd46 (hw : HW a0 Z) : BW a0 Z (.instanceMethod ⟨sT2, "<init>", "()V"⟩) := wat hw 46 rfl
theorem e53_11 : decode kC11 11 = .ok (.aload_n 1, 1) := by decide +kernel
theorem e53_12 : decode kC11 12 = .ok (.invokevirtual 39, 3) := by decide +kernel
theorem wd64 (hw : HW a0 Z) : BW a0 Z (.code ⟨sT2, "append", sT12⟩ kC53 (2 : Nat) (Option.some (Jvm.ClassFile.FieldType.object sT2))) := wat hw 64 rfl
theorem pd33 : parseMethodDescriptor "(Ljava/lang/String;)Ljava/lang/StringBuilder;" = some ⟨[(.object "java/lang/String")], some (.object "java/lang/StringBuilder")⟩ := by decide +kernel
theorem wd63 (hw : HW a0 Z) : BW a0 Z (.selects sT2 ⟨sT2, "append", sT12⟩ ⟨sT2, "append", sT12⟩) := wat hw 63 rfl
theorem wd60 (hw : HW a0 Z) : BW a0 Z (.methodLink sT7 (39 : Nat) ⟨sT2, "append", sT12⟩) := wat hw 60 rfl
theorem wd61 (hw : HW a0 Z) : BW a0 Z (.declares ⟨sT2, "append", sT12⟩) := wat hw 61 rfl
theorem wd62 (hw : HW a0 Z) : BW a0 Z (.instanceMethod ⟨sT2, "append", sT12⟩) := wat hw 62 rfl
theorem e53_15 : decode kC11 15 = .ok (.ldc 43, 2) := by decide +kernel
theorem e53_17 : decode kC11 17 = .ok (.invokevirtual 39, 3) := by decide +kernel
theorem e53_20 : decode kC11 20 = .ok (.aload_n 0, 1) := by decide +kernel
theorem e53_21 : decode kC11 21 = .ok (.invokevirtual 39, 3) := by decide +kernel
theorem e53_24 : decode kC11 24 = .ok (.ldc 45, 2) := by decide +kernel
theorem e53_26 : decode kC11 26 = .ok (.invokevirtual 39, 3) := by decide +kernel
theorem e53_29 : decode kC11 29 = .ok (.aload_n 2, 1) := by decide +kernel
theorem e53_30 : decode kC11 30 = .ok (.invokevirtual 39, 3) := by decide +kernel
theorem e53_33 : decode kC11 33 = .ok (.invokevirtual 47, 3) := by decide +kernel
theorem wd138 (hw : HW a0 Z) : BW a0 Z (.code ⟨sT2, "toString", sT11⟩ kC34 (1 : Nat) (Option.some (Jvm.ClassFile.FieldType.object sT1))) := wat hw 138 rfl
theorem pd34 : parseMethodDescriptor "()Ljava/lang/String;" = some ⟨[], some (.object "java/lang/String")⟩ := by decide +kernel
theorem wd137 (hw : HW a0 Z) : BW a0 Z (.selects sT2 ⟨sT2, "toString", sT11⟩ ⟨sT2, "toString", sT11⟩) := wat hw 137 rfl
theorem wd134 (hw : HW a0 Z) : BW a0 Z (.methodLink sT7 (47 : Nat) ⟨sT2, "toString", sT11⟩) := wat hw 134 rfl
theorem wd135 (hw : HW a0 Z) : BW a0 Z (.declares ⟨sT2, "toString", sT11⟩) := wat hw 135 rfl
theorem wd136 (hw : HW a0 Z) : BW a0 Z (.instanceMethod ⟨sT2, "toString", sT11⟩) := wat hw 136 rfl
theorem e53_36 : decode kC11 36 = .ok (.invokespecial 50, 3) := by decide +kernel
theorem wd178 (hw : HW a0 Z) : BW a0 Z (.code ⟨sT4, "<init>", sT8⟩ kC50 (2 : Nat) (Option.none : Option Jvm.ClassFile.FieldType)) := wat hw 178 rfl
theorem wd176 (hw : HW a0 Z) : BW a0 Z (.methodLink sT7 (50 : Nat) ⟨sT4, "<init>", sT8⟩) := wat hw 176 rfl
theorem wd177 (hw : HW a0 Z) : BW a0 Z (.instanceMethod ⟨sT4, "<init>", sT8⟩) := wat hw 177 rfl
theorem e53_39 : decode kC11 39 = .ok (.areturn, 1) := by decide +kernel
def Q_dup (Z : State) (zC : Int32) (vF : Value) (ai : Addr) (ti : Addr) (ki : ClassId) (cdi : Int32) (zi : Int32) (vi : List Value) (li : List Int32) (ap : Addr) (tp : Addr) (kp : ClassId) (cdp : Int32) (zp : Int32) (vp : List Value) (lp : List Int32) (af : Addr) (tf : Addr) (kf : ClassId) (cdf : Int32) (zf : Int32) (vf : List Value) (lf : List Int32) (h0 : Heap) (v : Option Value) (h : Heap) (L : List Loc) : Prop := ∃ (r : Addr), ∃ (ms : Addr), ∃ (c : Addr), ∃ (kc : ClassId), ∃ (cdM : Int32), ∃ (zM : Int32), ∃ (vM : List Value), v = some (.ref r) ∧ Fr Z.heap.size L ∧ Keep h0 h [] ∧ h0.size ≤ r ∧ Exa Z h r sT4 ∧ Fld Z h r sT3 "detailMessage" "Ljava/lang/String;" (.ref ms) ∧ Exa Z h ms sT1 ∧ Fld Z h ms sT1 "coder" "B" (.int cdM) ∧ Fld Z h ms sT1 "value" "[B" (.ref c) ∧ Arv Z h c kc .byte zM vM (.int 0) ∧ (SB ((((([] ++ lp) ++ K1L) ++ li) ++ K2L) ++ lf) cdM zM vM)
theorem pn14 : plainName "com/example/anteriorita/anteriorita/RecordIds" = true := by first | (simp [plainName, overriddenIn]; done) | decide +kernel
theorem rm_dup (l : Launch) (Z : State) (a0 : Array Value) (hw : HW a0 Z) (zC : Int32) (vF : Value) (G : GB l a0 Z zC vF) (ai : Addr) (ti : Addr) (ki : ClassId) (cdi : Int32) (zi : Int32) (vi : List Value) (li : List Int32) (ap : Addr) (tp : Addr) (kp : ClassId) (cdp : Int32) (zp : Int32) (vp : List Value) (lp : List Int32) (af : Addr) (tf : Addr) (kf : ClassId) (cdf : Int32) (zf : Int32) (vf : List Value) (lf : List Int32) (h0 : Heap) (O0 : Old Z Z.heap.size h0) (Th : ThS Z h0) (Ei : Exa Z h0 ai sT1) (Ci : Fld Z h0 ai sT1 "coder" "B" (.int cdi)) (Vi : Fld Z h0 ai sT1 "value" "[B" (.ref ti)) (Ai : Arv Z h0 ti ki .byte zi vi (.int 0)) (Si : (SB li cdi zi vi)) (Ni : (li.length = 2)) (Ep : Exa Z h0 ap sT1) (Cp : Fld Z h0 ap sT1 "coder" "B" (.int cdp)) (Vp : Fld Z h0 ap sT1 "value" "[B" (.ref tp)) (Ap : Arv Z h0 tp kp .byte zp vp (.int 0)) (Sp : (SB lp cdp zp vp)) (Np : (lp.length = 2)) (Ef : Exa Z h0 af sT1) (Cf : Fld Z h0 af sT1 "coder" "B" (.int cdf)) (Vf : Fld Z h0 af sT1 "value" "[B" (.ref tf)) (Af : Arv Z h0 tf kf .byte zf vf (.int 0)) (Sf : (SB lf cdf zf vf)) (Nf : (lf.length = 2)) :
    ConK l Z EL (⟨"com/example/anteriorita/anteriorita/RecordIds", "duplicate", "(Ljava/lang/String;Ljava/lang/String;Ljava/lang/String;)Lcom/example/anteriorita/anteriorita/InputException;"⟩ : MethodName) kC11 3 (some (.object sT4)) ({ frames := 10, cells := 15, slots := 3310, locals := 145 } : Room) #[(.ref ai), (.ref ap), (.ref af)] h0 [] (Q_dup Z zC vF ai ti ki cdi zi vi li ap tp kp cdp zp vp lp af tf kf cdf zf vf lf h0) := by
  refine ConK.intro (plainFor_of_name pn14) ?_
  intro p e s m below meth c T0 v0 X0 hx hby hml hown0 hnm hret hlk hZ0 e0 hS0 C0 hsl0 hs0 hTK0 hBF0
  have hTh0 : ThS Z s.heap := hs0 ▸ Th
  have N0 := Fr.nil Z.heap.size
  refine castGo (g' := mkF m 0 #[.val (.ref ai), .val (.ref ap), .val (.ref af)] []) (by first | rfl | (simp [entryFrame, mkF, argsToLocals, Value.category]; done)) ?_
  show Go _ _ _ _ (T0.setTop (mkF m 0 #[.val (.ref ai), .val (.ref ap), .val (.ref af)] []))
  refine g_newU X0 hx hZ0 hown0 (wd39 hw) (wd40 hw) (wd41 hw) (by decide) (by decide) e0 (hb hby e53_0) (q := 3) rfl ?_
  intro T990 h990 b990 g990 X990 e990 E990 A990 D990 U990
  have sf991 : Safe Z EL v0 h0 b990 := Safe.new (Nat.le_of_eq g990.symm)
  have F990_192 := D990 (Or.inl (wd192 hw)) (ty := (.object sT3)) (by decide)
  have F990_195 := D990 (Or.inl (wd195 hw)) (ty := (.array (.object "java/lang/StackTraceElement"))) (by decide)
  have F990_198 := D990 (Or.inl (wd198 hw)) (ty := (.object "java/util/List")) (by decide)
  have F990_222 := D990 (Or.inl (wd222 hw)) (ty := (.object sT1)) (by decide)
  have F990_223 := D990 (Or.inl (wd223 hw)) (ty := (.object "java/lang/Object")) (by decide)
  have F990_224 := D990 (Or.inl (wd224 hw)) (ty := .int) (by decide)
  refine g_dup X990 hx (hb hby e53_3) (q := 4) rfl rfl ?_
  refine g_new X990 hx hZ0 hown0 (wd42 hw) (wd43 hw) (wd44 hw) (by decide) (by decide) e990 (hb hby e53_4) (q := 7) rfl ?_
  intro T992 h992 b992 g992 X992 e992 E992 A992 D992
  have sf993 : Safe Z EL v0 h990 b992 := Safe.new (Nat.le_of_eq g992.symm)
  have F992_57 := D992 (Or.inl (wd57 hw)) (ty := (.array .byte)) (by decide)
  have F992_59 := D992 (Or.inl (wd59 hw)) (ty := .byte) (by decide)
  have F992_81 := D992 (Or.inl (wd81 hw)) (ty := .int) (by decide)
  have F992_310 := D992 (Or.inl (wd310 hw)) (ty := .boolean) (by decide)
  refine g_dup X992 hx (hb hby e53_7) (q := 8) rfl rfl ?_
  have f998 := O0.ext E990
  have gz997 : Z.heap.size ≤ b992 := Nat.le_trans f998.2.1 (Nat.le_of_eq g992.symm)
  have f999 := f998.ext E992
  have f1000 := C0.trans (CHr.ext E990 C0.1)
  have f1001 := Safe.ext E992 f1000.1 sf993
  refine g_sp X992 hx hZ0 hown0 (wd45 hw) (wd46 hw) (wd47 hw) rfl (by decide) e992 (Con.back (W := 3) (rm_sbinit l Z a0 hw zC vF G b992 h992 f999 A992 F992_57 F992_59 F992_81 F992_310 gz997) hZ0 (wd47 hw) (wd44 hw) (by decide) (by decide)) (by rw [hml]; rfl) (lenOf pd20 rfl) rfl (Nat.le_of_eq rfl) (hb hby e53_8) (q := 11) rfl (by decide) (by decide) ?_
  intro v996 T996 L996 X996 Q996
  obtain ⟨vv_996, kv_996, rfl, Nq996, K996q, q996_0, q996_1, q996_2, q996_3, q996_4, q996_5, q996_6, q996_7⟩ := Q996
  have N996 := Fr.app N0 Nq996
  show Go _ _ _ _ (T996.setTop (mkF m 11 #[.val (.ref ai), .val (.ref ap), .val (.ref af)] [(.ref b992), (.ref b990), (.ref b990)]))
  refine aL X996 hx (hb hby e53_11) (q := 12) rfl rfl rfl ?_
  have gz1021 : Z.heap.size ≤ vv_996 := Nat.le_trans f999.2.1 q996_5
  have f1022 := Ep.ext E990
  have f1023 := f1022.ext E992
  have f1024 := f1023.keep K996q
  have f1025 := Cp.ext E990
  have f1026 := f1025.ext E992
  have le1027 := E990.1
  have ne1028 : ap ≠ b992 := (Nat.ne_of_lt (Nat.lt_of_lt_of_le (Nat.lt_of_lt_of_le Ep.lt le1027) (Nat.le_of_eq g992.symm)))
  have f1029 := f1026.keep K996q (ninS ne1028 nin0)
  have f1030 := Vp.ext E990
  have f1031 := f1030.ext E992
  have f1032 := f1031.keep K996q (ninS ne1028 nin0)
  have f1033 := Ap.ext E990
  have f1034 := f1033.ext E992
  have ne1035 : tp ≠ b992 := (Nat.ne_of_lt (Nat.lt_of_lt_of_le (Nat.lt_of_lt_of_le Ap.lt le1027) (Nat.le_of_eq g992.symm)))
  have f1036 := f1034.keep K996q (ninS ne1035 nin0)
  have le1037 := (Nat.le_trans le1027 E992.1)
  have ne1038 : tp ≠ vv_996 := (Nat.ne_of_lt (Nat.lt_of_lt_of_le (Nat.lt_of_lt_of_le Ap.lt le1037) q996_5))
  have f1039 := f999.keep K996q (allS gz997 all0)
  have f1040 := f1000.trans (CHr.ext E992 f1000.1)
  have f1041 := Safe.keep K996q (sfS f1001 sf0) f1040.1 f1001
  have sf1042 : Safe Z EL v0 h992 vv_996 := Safe.new q996_5
  have f1043 := Safe.keep K996q (sfS f1001 sf0) f1040.1 sf1042
  refine g_vi X996 hx hZ0 hown0 (wd60 hw) (wd61 hw) (notFace_of_selects (args := #[]) (mvT hZ0 (wd63 hw))) (wd63 hw) (wd62 hw) (by decide) q996_0 rfl (Con.back (W := 2) (rm_sap0 l Z a0 hw zC vF G b992 vv_996 kv_996 (0 : Int32) (16 : Int32) (List.replicate 16 (iv 0)) ap tp kp cdp zp vp [] lp T996.heap f1039 q996_0 q996_2 q996_3 q996_4 q996_1 q996_6 q996_7 gz997 gz1021 bu0 rfl f1024 f1029 f1032 f1036 Sp Np ne1038 (by decide : ¬ ((0 : Int32) = (1 : Int32)))) hZ0 (wd64 hw) (wd44 hw) (by decide) (by decide)) (by rw [hml]; rfl) (lenOf pd33 rfl) rfl (Nat.le_of_eq rfl) (hb hby e53_12) (q := 15) rfl (by decide) (by decide) ?_
  intro v1020 T1020 L1020 X1020 Q1020
  have le1044 := K996q.1
  obtain ⟨v2_1020, k2_1020, cd2_1020, z2_1020, vd2_1020, rfl, Nq1020, K1020q, q1020_0, q1020_1, q1020_2, q1020_3, q1020_4, q1020_5, q1020_6, q1020_7, q1020_8, q1020_9⟩ := Q1020
  have N1020 := Fr.app N996 Nq1020
  have gv1020 : (h992).size ≤ v2_1020 := q1020_9.elim (fun q => q ▸ q996_5) (fun q => Nat.le_trans le1044 q)
  have sfz1020 : Safe Z EL v0 T996.heap v2_1020 := q1020_9.elim (fun q => q ▸ f1043) Safe.new
  show Go _ _ _ _ (T1020.setTop (mkF m 15 #[.val (.ref ai), .val (.ref ap), .val (.ref af)] [(.ref b992), (.ref b990), (.ref b990)]))
  have f1046 := f1040.trans (CHr.keep K996q (sfS f1001 sf0) f1040.1)
  have f1047 := f1046.trans (CHr.keep K1020q (sfS f1041 (sfS f1043 sf0)) f1046.1)
  refine g_ldc X1020 hx hZ0 hown0 (wd107 hw) (own_wS hw) hS0 (Nat.zero_le _) (own_EW hw) (by simp [EL]) f1047.1 (vs := [(iv 58), (iv 32), (iv 100), (iv 117), (iv 112), (iv 108), (iv 105), (iv 99), (iv 97), (iv 116), (iv 101), (iv 32), (iv 105), (iv 100), (iv 32), (iv 34)]) (z := (16 : Int32)) ⟨by decide, by decide⟩ (by decide) (by decide) (n := 64) (by decide) (by decide) (by decide) (by decide) rfl (hb hby e53_15) (q := 17) rfl ?_
  intro b1045 T1045 h1045 kk1045 d1045 k1045 X1045 e1045 E1045 hS1045 hk1045 hZ1045 hown1045 A1045 Fc1045 Fv1045 V1045 lta1045 ltb1045 R1045 sn1045
  have f1048 := Safe.keep K1020q (sfS f1041 (sfS f1043 sf0)) f1046.1 sfz1020
  have f1049 := R1045.safe (Nat.lt_of_lt_of_le q1020_5.lt (Nat.le_refl _)) f1048
  have f1062 := q1020_0.ext E1045
  have f1063 := q1020_1.ext E1045
  have f1064 := q1020_2.ext E1045
  have f1065 := q1020_3.ext E1045
  have f1066 := q1020_4.ext E1045
  have f1067 := q1020_5.ext E1045
  have f1068 := q1020_6.ext E1045
  have gz1069 : Z.heap.size ≤ v2_1020 := Nat.le_trans f999.2.1 gv1020
  have ne1070 : d1045 ≠ v2_1020 := (Ne.symm (sn1045 _ f1049).2)
  have f1071 := f1039.keep K1020q (allS gz997 (allS gz1021 all0))
  have f1072 := f1071.ext E1045
  have f1073 := Safe.keep K1020q (sfS f1041 (sfS f1043 sf0)) f1046.1 f1041
  have le1074 := (Nat.le_trans le1044 K1020q.1)
  have f1075 := R1045.safe (Nat.lt_of_lt_of_le A992.lt le1074) f1073
  refine g_vi X1045 hx hZ1045 hown1045 (wd60 hw) (wd61 hw) (notFace_of_selects (args := #[]) (mvT hZ1045 (wd63 hw))) (wd63 hw) (wd62 hw) (by decide) f1062 e1045 (Con.back (W := 2) (rm_sap2 l Z a0 hw zC vF G b992 v2_1020 k2_1020 cd2_1020 z2_1020 vd2_1020 b1045 d1045 k1045 (0 : Int32) (16 : Int32) [(iv 58), (iv 32), (iv 100), (iv 117), (iv 112), (iv 108), (iv 105), (iv 99), (iv 97), (iv 116), (iv 101), (iv 32), (iv 105), (iv 100), (iv 32), (iv 34)] ([] ++ lp) K1L h1045 f1072 f1062 f1063 f1064 f1065 f1066 f1067 f1068 gz997 gz1069 q1020_7 q1020_8 A1045 Fc1045 Fv1045 V1045 k1sb rfl ne1070 (by decide : ¬ ((0 : Int32) = (1 : Int32)))) hZ1045 (wd64 hw) (wd44 hw) (by decide) (by decide)) (by rw [hml]; rfl) (lenOf pd33 rfl) rfl (Nat.le_of_eq rfl) (hb hby e53_17) (q := 20) rfl (by decide) (by decide) ?_
  intro v1061 T1061 L1061 X1061 Q1061
  have le1076 := (Nat.le_trans le1074 E1045.1)
  obtain ⟨v2_1061, k2_1061, cd2_1061, z2_1061, vd2_1061, rfl, Nq1061, K1061q, q1061_0, q1061_1, q1061_2, q1061_3, q1061_4, q1061_5, q1061_6, q1061_7, q1061_8, q1061_9⟩ := Q1061
  have N1061 := Fr.app N1020 Nq1061
  have gv1061 : (h992).size ≤ v2_1061 := q1061_9.elim (fun q => q ▸ gv1020) (fun q => Nat.le_trans le1076 q)
  have sfz1061 : Safe Z EL T1045.vm h1045 v2_1061 := q1061_9.elim (fun q => q ▸ f1049) Safe.new
  show Go _ _ _ _ (T1061.setTop (mkF m 20 #[.val (.ref ai), .val (.ref ap), .val (.ref af)] [(.ref b992), (.ref b990), (.ref b990)]))
  refine aL X1061 hx (hb hby e53_20) (q := 21) rfl rfl rfl ?_
  have gz1090 : Z.heap.size ≤ v2_1061 := Nat.le_trans f999.2.1 gv1061
  have K1091 := (Keep.refl h0 []).ext E990
  have K1092 := K1091.ext E992
  have K1093 := K1092.trans K996q (allS (Or.inr (Nat.le_trans le1027 (Nat.le_of_eq g992.symm))) all0)
  have K1094 := K1093.trans K1020q (allS (Or.inr (Nat.le_trans le1027 (Nat.le_of_eq g992.symm))) (allS (Or.inr (Nat.le_trans le1037 q996_5)) all0))
  have K1095 := K1094.ext E1045
  have K1096 := K1095.trans K1061q (allS (Or.inr (Nat.le_trans le1027 (Nat.le_of_eq g992.symm))) (allS (Or.inr (Nat.le_trans le1037 gv1020)) all0))
  have f1097 := Ei.keep K1096
  have f1098 := Ci.keep K1096 nin0
  have f1099 := Vi.keep K1096 nin0
  have f1100 := Ai.keep K1096 nin0
  have ne1101 : ti ≠ v2_1061 := (Nat.ne_of_lt (Nat.lt_of_lt_of_le (Nat.lt_of_lt_of_le Ai.lt le1037) gv1061))
  have f1102 := f1072.keep K1061q (allS gz997 (allS gz1069 all0))
  have f1103 := f1047.trans R1045
  have f1104 := Safe.keep K1061q (sfS f1075 (sfS f1049 sf0)) f1103.1 f1075
  have f1105 := Safe.keep K1061q (sfS f1075 (sfS f1049 sf0)) f1103.1 sfz1061
  refine g_vi X1061 hx hZ1045 hown1045 (wd60 hw) (wd61 hw) (notFace_of_selects (args := #[]) (mvT hZ1045 (wd63 hw))) (wd63 hw) (wd62 hw) (by decide) q1061_0 rfl (Con.back (W := 2) (rm_sapn l Z a0 hw zC vF G b992 v2_1061 k2_1061 cd2_1061 z2_1061 vd2_1061 ai ti ki cdi zi vi (([] ++ lp) ++ K1L) li 18 2 T1061.heap f1102 q1061_0 q1061_1 q1061_2 q1061_3 q1061_4 q1061_5 q1061_6 gz997 gz1090 q1061_7 q1061_8 f1097 f1098 f1099 f1100 Si Ni ne1101 (show 18 + 2 ≤ 34 from by omega)) hZ1045 (wd64 hw) (wd44 hw) (by decide) (by decide)) (by rw [hml]; rfl) (lenOf pd33 rfl) rfl (Nat.le_of_eq rfl) (hb hby e53_21) (q := 24) rfl (by decide) (by decide) ?_
  intro v1089 T1089 L1089 X1089 Q1089
  have le1106 := (Nat.le_trans le1076 K1061q.1)
  obtain ⟨v2_1089, k2_1089, cd2_1089, z2_1089, vd2_1089, rfl, Nq1089, K1089q, q1089_0, q1089_1, q1089_2, q1089_3, q1089_4, q1089_5, q1089_6, q1089_7, q1089_8, q1089_9⟩ := Q1089
  have N1089 := Fr.app N1061 Nq1089
  have gv1089 : (h992).size ≤ v2_1089 := q1089_9.elim (fun q => q ▸ gv1061) (fun q => Nat.le_trans le1106 q)
  have sfz1089 : Safe Z EL T1045.vm T1061.heap v2_1089 := q1089_9.elim (fun q => q ▸ f1105) Safe.new
  have cn1089 : Fld Z T1089.heap b992 sT0 "count" "I" (iv 20) := q1089_2
  show Go _ _ _ _ (T1089.setTop (mkF m 24 #[.val (.ref ai), .val (.ref ap), .val (.ref af)] [(.ref b992), (.ref b990), (.ref b990)]))
  have f1108 := f1103.trans (CHr.keep K1061q (sfS f1075 (sfS f1049 sf0)) f1103.1)
  have f1109 := f1108.trans (CHr.keep K1089q (sfS f1104 (sfS f1105 sf0)) f1108.1)
  have le1110 := K1061q.1
  have le1111 := (Nat.le_trans le1110 K1089q.1)
  refine g_ldc X1089 hx hZ1045 hown1045 (wd133 hw) (own_wS hw) hS1045 (Nat.le_trans hk1045 le1111) (own_EW hw) (by simp [EL]) f1109.1 (vs := [(iv 34), (iv 44), (iv 32), (iv 102), (iv 105), (iv 114), (iv 115), (iv 116), (iv 32), (iv 97), (iv 116), (iv 32)]) (z := (12 : Int32)) ⟨by decide, by decide⟩ (by decide) (by decide) (n := 48) (by decide) (by decide) (by decide) (by decide) rfl (hb hby e53_24) (q := 26) rfl ?_
  intro b1107 T1107 h1107 kk1107 d1107 k1107 X1107 e1107 E1107 hS1107 hk1107 hZ1107 hown1107 A1107 Fc1107 Fv1107 V1107 lta1107 ltb1107 R1107 sn1107
  have f1112 := Safe.keep K1089q (sfS f1104 (sfS f1105 sf0)) f1108.1 sfz1089
  have f1113 := R1107.safe (Nat.lt_of_lt_of_le q1089_5.lt (Nat.le_refl _)) f1112
  have f1128 := q1089_0.ext E1107
  have f1129 := q1089_1.ext E1107
  have f1130 := cn1089.ext E1107
  have f1131 := q1089_3.ext E1107
  have f1132 := q1089_4.ext E1107
  have f1133 := q1089_5.ext E1107
  have f1134 := q1089_6.ext E1107
  have gz1135 : Z.heap.size ≤ v2_1089 := Nat.le_trans f999.2.1 gv1089
  have ne1136 : d1107 ≠ v2_1089 := (Ne.symm (sn1107 _ f1113).2)
  have f1137 := f1102.keep K1089q (allS gz997 (allS gz1090 all0))
  have f1138 := f1137.ext E1107
  have f1139 := Safe.keep K1089q (sfS f1104 (sfS f1105 sf0)) f1108.1 f1104
  have le1140 := (Nat.le_trans le1106 K1089q.1)
  have f1141 := R1107.safe (Nat.lt_of_lt_of_le A992.lt le1140) f1139
  refine g_vi X1107 hx hZ1107 hown1107 (wd60 hw) (wd61 hw) (notFace_of_selects (args := #[]) (mvT hZ1107 (wd63 hw))) (wd63 hw) (wd62 hw) (by decide) f1128 e1107 (Con.back (W := 2) (rm_sapn l Z a0 hw zC vF G b992 v2_1089 k2_1089 cd2_1089 z2_1089 vd2_1089 b1107 d1107 k1107 (0 : Int32) (12 : Int32) [(iv 34), (iv 44), (iv 32), (iv 102), (iv 105), (iv 114), (iv 115), (iv 116), (iv 32), (iv 97), (iv 116), (iv 32)] ((([] ++ lp) ++ K1L) ++ li) K2L 20 12 h1107 f1138 f1128 f1129 f1130 f1131 f1132 f1133 f1134 gz997 gz1135 q1089_7 q1089_8 A1107 Fc1107 Fv1107 V1107 k2sb rfl ne1136 (show 20 + 12 ≤ 34 from by omega)) hZ1107 (wd64 hw) (wd44 hw) (by decide) (by decide)) (by rw [hml]; rfl) (lenOf pd33 rfl) rfl (Nat.le_of_eq rfl) (hb hby e53_26) (q := 29) rfl (by decide) (by decide) ?_
  intro v1127 T1127 L1127 X1127 Q1127
  have le1142 := (Nat.le_trans le1140 E1107.1)
  obtain ⟨v2_1127, k2_1127, cd2_1127, z2_1127, vd2_1127, rfl, Nq1127, K1127q, q1127_0, q1127_1, q1127_2, q1127_3, q1127_4, q1127_5, q1127_6, q1127_7, q1127_8, q1127_9⟩ := Q1127
  have N1127 := Fr.app N1089 Nq1127
  have gv1127 : (h992).size ≤ v2_1127 := q1127_9.elim (fun q => q ▸ gv1089) (fun q => Nat.le_trans le1142 q)
  have sfz1127 : Safe Z EL T1107.vm h1107 v2_1127 := q1127_9.elim (fun q => q ▸ f1113) Safe.new
  have cn1127 : Fld Z T1127.heap b992 sT0 "count" "I" (iv 32) := q1127_2
  show Go _ _ _ _ (T1127.setTop (mkF m 29 #[.val (.ref ai), .val (.ref ap), .val (.ref af)] [(.ref b992), (.ref b990), (.ref b990)]))
  refine aL X1127 hx (hb hby e53_29) (q := 30) rfl rfl rfl ?_
  have gz1153 : Z.heap.size ≤ v2_1127 := Nat.le_trans f999.2.1 gv1127
  have K1154 := K1096.trans K1089q (allS (Or.inr (Nat.le_trans le1027 (Nat.le_of_eq g992.symm))) (allS (Or.inr (Nat.le_trans le1037 gv1061)) all0))
  have K1155 := K1154.ext E1107
  have K1156 := K1155.trans K1127q (allS (Or.inr (Nat.le_trans le1027 (Nat.le_of_eq g992.symm))) (allS (Or.inr (Nat.le_trans le1037 gv1089)) all0))
  have f1157 := Ef.keep K1156
  have f1158 := Cf.keep K1156 nin0
  have f1159 := Vf.keep K1156 nin0
  have f1160 := Af.keep K1156 nin0
  have ne1161 : tf ≠ v2_1127 := (Nat.ne_of_lt (Nat.lt_of_lt_of_le (Nat.lt_of_lt_of_le Af.lt le1037) gv1127))
  have f1162 := f1138.keep K1127q (allS gz997 (allS gz1135 all0))
  have f1163 := f1109.trans R1107
  have f1164 := Safe.keep K1127q (sfS f1141 (sfS f1113 sf0)) f1163.1 f1141
  have f1165 := Safe.keep K1127q (sfS f1141 (sfS f1113 sf0)) f1163.1 sfz1127
  refine g_vi X1127 hx hZ1107 hown1107 (wd60 hw) (wd61 hw) (notFace_of_selects (args := #[]) (mvT hZ1107 (wd63 hw))) (wd63 hw) (wd62 hw) (by decide) q1127_0 rfl (Con.back (W := 2) (rm_sapn l Z a0 hw zC vF G b992 v2_1127 k2_1127 cd2_1127 z2_1127 vd2_1127 af tf kf cdf zf vf (((([] ++ lp) ++ K1L) ++ li) ++ K2L) lf 32 2 T1127.heap f1162 q1127_0 q1127_1 cn1127 q1127_3 q1127_4 q1127_5 q1127_6 gz997 gz1153 q1127_7 q1127_8 f1157 f1158 f1159 f1160 Sf Nf ne1161 (show 32 + 2 ≤ 34 from by omega)) hZ1107 (wd64 hw) (wd44 hw) (by decide) (by decide)) (by rw [hml]; rfl) (lenOf pd33 rfl) rfl (Nat.le_of_eq rfl) (hb hby e53_30) (q := 33) rfl (by decide) (by decide) ?_
  intro v1152 T1152 L1152 X1152 Q1152
  have le1166 := (Nat.le_trans le1142 K1127q.1)
  obtain ⟨v2_1152, k2_1152, cd2_1152, z2_1152, vd2_1152, rfl, Nq1152, K1152q, q1152_0, q1152_1, q1152_2, q1152_3, q1152_4, q1152_5, q1152_6, q1152_7, q1152_8, q1152_9⟩ := Q1152
  have N1152 := Fr.app N1127 Nq1152
  have gv1152 : (h992).size ≤ v2_1152 := q1152_9.elim (fun q => q ▸ gv1127) (fun q => Nat.le_trans le1166 q)
  have sfz1152 : Safe Z EL T1107.vm T1127.heap v2_1152 := q1152_9.elim (fun q => q ▸ f1165) Safe.new
  have cn1152 : Fld Z T1152.heap b992 sT0 "count" "I" (iv 34) := q1152_2
  show Go _ _ _ _ (T1152.setTop (mkF m 33 #[.val (.ref ai), .val (.ref ap), .val (.ref af)] [(.ref b992), (.ref b990), (.ref b990)]))
  have f1168 := f1162.keep K1152q (allS gz997 (allS gz1153 all0))
  refine g_vi X1152 hx hZ1107 hown1107 (wd134 hw) (wd135 hw) (notFace_of_selects (args := #[]) (mvT hZ1107 (wd137 hw))) (wd137 hw) (wd136 hw) (by decide) q1152_0 rfl (Con.back (W := 2) (rm_tos l Z a0 hw zC vF G b992 v2_1152 k2_1152 vd2_1152 cd2_1152 z2_1152 ((((([] ++ lp) ++ K1L) ++ li) ++ K2L) ++ lf) T1152.heap f1168 q1152_0 q1152_1 cn1152 q1152_3 q1152_4 q1152_5 q1152_6 q1152_7 q1152_8) hZ1107 (wd138 hw) (wd44 hw) (by decide) (by decide)) (by rw [hml]; rfl) (lenOf pd34 rfl) rfl (Nat.le_of_eq rfl) (hb hby e53_33) (q := 36) rfl (by decide) (by decide) ?_
  intro v1167 T1167 L1167 X1167 Q1167
  obtain ⟨r_1167, c_1167, kc_1167, cdM_1167, zM_1167, vM_1167, rfl, Nq1167, K1167q, q1167_0, q1167_1, q1167_2, q1167_3, q1167_4, q1167_5⟩ := Q1167
  have N1167 := Fr.app N1152 Nq1167
  show Go _ _ _ _ (T1167.setTop (mkF m 36 #[.val (.ref ai), .val (.ref ap), .val (.ref af)] [(.ref r_1167), (.ref b990), (.ref b990)]))
  have f1233 := ThS.ext E990 Th
  have f1234 := ThS.ext E992 f1233
  have f1235 := ThS.keep K996q (nsS (Exa.nostat A992) ns0) f1234
  have f1236 := ThS.keep K1020q (nsS (Exa.nostat q996_0) (nsS (Exa.nostat q996_7) ns0)) f1235
  have f1237 := ThS.ext E1045 f1236
  have f1238 := ThS.keep K1061q (nsS (Exa.nostat f1062) (nsS (Exa.nostat f1068) ns0)) f1237
  have f1239 := ThS.keep K1089q (nsS (Exa.nostat q1061_0) (nsS (Exa.nostat q1061_6) ns0)) f1238
  have f1240 := ThS.ext E1107 f1239
  have f1241 := ThS.keep K1127q (nsS (Exa.nostat f1128) (nsS (Exa.nostat f1134) ns0)) f1240
  have f1242 := ThS.keep K1152q (nsS (Exa.nostat q1127_0) (nsS (Exa.nostat q1127_6) ns0)) f1241
  have f1243 := ThS.keep K1167q ns0 f1242
  have K1244 := (Keep.refl h990 []).ext E992
  have K1245 := K1244.trans K996q (allS (Or.inr (Nat.le_trans (Nat.le_refl _) (Nat.le_of_eq g992.symm))) all0)
  have le1246 := E992.1
  have K1247 := K1245.trans K1020q (allS (Or.inr (Nat.le_trans (Nat.le_refl _) (Nat.le_of_eq g992.symm))) (allS (Or.inr (Nat.le_trans le1246 q996_5)) all0))
  have K1248 := K1247.ext E1045
  have K1249 := K1248.trans K1061q (allS (Or.inr (Nat.le_trans (Nat.le_refl _) (Nat.le_of_eq g992.symm))) (allS (Or.inr (Nat.le_trans le1246 gv1020)) all0))
  have K1250 := K1249.trans K1089q (allS (Or.inr (Nat.le_trans (Nat.le_refl _) (Nat.le_of_eq g992.symm))) (allS (Or.inr (Nat.le_trans le1246 gv1061)) all0))
  have K1251 := K1250.ext E1107
  have K1252 := K1251.trans K1127q (allS (Or.inr (Nat.le_trans (Nat.le_refl _) (Nat.le_of_eq g992.symm))) (allS (Or.inr (Nat.le_trans le1246 gv1089)) all0))
  have K1253 := K1252.trans K1152q (allS (Or.inr (Nat.le_trans (Nat.le_refl _) (Nat.le_of_eq g992.symm))) (allS (Or.inr (Nat.le_trans le1246 gv1127)) all0))
  have K1254 := K1253.trans K1167q all0
  have f1255 := A990.keep K1254
  have f1256 := Unt.ext E992 U990
  have ne1257 : b990 ≠ b992 := (Nat.ne_of_lt (Nat.lt_of_lt_of_le (Nat.lt_of_lt_of_le A990.lt (Nat.le_refl _)) (Nat.le_of_eq g992.symm)))
  have f1258 := Unt.keep K996q (ninS ne1257 nin0) f1256
  have ne1259 : b990 ≠ vv_996 := (Nat.ne_of_lt (Nat.lt_of_lt_of_le (Nat.lt_of_lt_of_le A990.lt le1246) q996_5))
  have f1260 := Unt.keep K1020q (ninS ne1257 (ninS ne1259 nin0)) f1258
  have f1261 := Unt.ext E1045 f1260
  have ne1262 : b990 ≠ v2_1020 := (Nat.ne_of_lt (Nat.lt_of_lt_of_le (Nat.lt_of_lt_of_le A990.lt le1246) gv1020))
  have f1263 := Unt.keep K1061q (ninS ne1257 (ninS ne1262 nin0)) f1261
  have ne1264 : b990 ≠ v2_1061 := (Nat.ne_of_lt (Nat.lt_of_lt_of_le (Nat.lt_of_lt_of_le A990.lt le1246) gv1061))
  have f1265 := Unt.keep K1089q (ninS ne1257 (ninS ne1264 nin0)) f1263
  have f1266 := Unt.ext E1107 f1265
  have ne1267 : b990 ≠ v2_1089 := (Nat.ne_of_lt (Nat.lt_of_lt_of_le (Nat.lt_of_lt_of_le A990.lt le1246) gv1089))
  have f1268 := Unt.keep K1127q (ninS ne1257 (ninS ne1267 nin0)) f1266
  have ne1269 : b990 ≠ v2_1127 := (Nat.ne_of_lt (Nat.lt_of_lt_of_le (Nat.lt_of_lt_of_le A990.lt le1246) gv1127))
  have f1270 := Unt.keep K1152q (ninS ne1257 (ninS ne1269 nin0)) f1268
  have f1271 := Unt.keep K1167q nin0 f1270
  have gz1272 : Z.heap.size ≤ b990 := Nat.le_trans O0.2.1 (Nat.le_of_eq g990.symm)
  have f1273 := Safe.ext E990 C0.1 sf991
  have f1274 := Safe.ext E992 f1000.1 f1273
  have f1275 := Safe.keep K996q (sfS f1001 sf0) f1040.1 f1274
  have f1276 := Safe.keep K1020q (sfS f1041 (sfS f1043 sf0)) f1046.1 f1275
  have le1277 := (Nat.le_trans le1246 K996q.1)
  have le1278 := (Nat.le_trans le1277 K1020q.1)
  have f1279 := R1045.safe (Nat.lt_of_lt_of_le A990.lt le1278) f1276
  have f1280 := Safe.keep K1061q (sfS f1075 (sfS f1049 sf0)) f1103.1 f1279
  have f1281 := Safe.keep K1089q (sfS f1104 (sfS f1105 sf0)) f1108.1 f1280
  have le1282 := (Nat.le_trans le1278 E1045.1)
  have le1283 := (Nat.le_trans le1282 K1061q.1)
  have le1284 := (Nat.le_trans le1283 K1089q.1)
  have f1285 := R1107.safe (Nat.lt_of_lt_of_le A990.lt le1284) f1281
  have f1286 := Safe.keep K1127q (sfS f1141 (sfS f1113 sf0)) f1163.1 f1285
  have f1287 := f1163.trans (CHr.keep K1127q (sfS f1141 (sfS f1113 sf0)) f1163.1)
  have f1288 := Safe.keep K1152q (sfS f1164 (sfS f1165 sf0)) f1287.1 f1286
  have f1289 := f1287.trans (CHr.keep K1152q (sfS f1164 (sfS f1165 sf0)) f1287.1)
  have f1290 := Safe.keep K1167q sf0 f1289.1 f1288
  have f1291 := F990_192.keep K1254 nin0
  have f1292 := F990_195.keep K1254 nin0
  have f1293 := F990_198.keep K1254 nin0
  have f1294 := F990_223.keep K1254 nin0
  have f1295 := F990_222.keep K1254 nin0
  have f1296 := f1168.keep K1167q all0
  have f1297 := f1289.trans (CHr.keep K1167q sf0 f1289.1)
  have le1298 := (Nat.le_trans le1284 E1107.1)
  have le1299 := (Nat.le_trans le1298 K1127q.1)
  have le1300 := (Nat.le_trans le1299 K1152q.1)
  have le1301 := (Nat.le_trans le1300 K1167q.1)
  have le1302 := K1127q.1
  have le1303 := (Nat.le_trans le1302 K1152q.1)
  have le1304 := (Nat.le_trans le1303 K1167q.1)
  refine g_spS X1167 hx hZ1107 hown1107 hS1107 (Nat.le_trans hk1107 le1304) (wd176 hw) (wd177 hw) (wd178 hw) rfl (by decide) rfl (ConK.back (W := 1) (rm_thr2 l Z a0 hw zC vF G b990 r_1167 T1167.heap f1296 f1243 f1255 f1271 gz1272 f1291 f1292 f1293 f1294 f1295) hZ1107 (wd178 hw) (wd41 hw) (by decide) (by decide) (own_EW hw) f1297.1 (sfS f1290 sf0) (allS (Nat.lt_of_lt_of_le A990.lt le1301) all0) (Vm.MethodsKnown.alikeC (hZ0.alike.symm.trans hZ1107.alike) hTK0) (Vm.FramesKnown.alikeC (hZ0.alike.symm.trans hZ1107.alike) hBF0)) (by rw [hml]; rfl) (lenOf pd15 rfl) rfl (Nat.le_of_eq rfl) (hb hby e53_36) (q := 39) rfl (by decide) (by decide) ?_
  rintro v1232 T1232 L1232 ⟨X1232, hS1232, hZ1232, hown1232, R1232⟩ Q1232
  obtain ⟨rfl, Nq1232, K1232q, q1232_0⟩ := Q1232
  have N1232 := Fr.app N1167 Nq1232
  show Go _ _ _ _ (T1232.setTop (mkF m 39 #[.val (.ref ai), .val (.ref ap), .val (.ref af)] [(.ref b990)]))
  have K1305 : Keep h0 h990 [] := (Keep.refl h0 []).ext E990
  have K1306 : Keep h0 h992 [] := K1305.ext E992
  have gh1307 : h0.size ≤ b992 := Nat.le_trans le1027 (Nat.le_of_eq g992.symm)
  have K1308 : Keep h0 T996.heap [] := K1306.trans K996q (allS (Or.inr gh1307) all0)
  have gh1309 : h0.size ≤ vv_996 := Nat.le_trans le1037 q996_5
  have K1310 : Keep h0 T1020.heap [] := K1308.trans K1020q (allS (Or.inr gh1307) (allS (Or.inr gh1309) all0))
  have K1311 : Keep h0 h1045 [] := K1310.ext E1045
  have gh1312 : h0.size ≤ v2_1020 := Nat.le_trans le1037 gv1020
  have K1313 : Keep h0 T1061.heap [] := K1311.trans K1061q (allS (Or.inr gh1307) (allS (Or.inr gh1312) all0))
  have gh1314 : h0.size ≤ v2_1061 := Nat.le_trans le1037 gv1061
  have K1315 : Keep h0 T1089.heap [] := K1313.trans K1089q (allS (Or.inr gh1307) (allS (Or.inr gh1314) all0))
  have K1316 : Keep h0 h1107 [] := K1315.ext E1107
  have gh1317 : h0.size ≤ v2_1089 := Nat.le_trans le1037 gv1089
  have K1318 : Keep h0 T1127.heap [] := K1316.trans K1127q (allS (Or.inr gh1307) (allS (Or.inr gh1317) all0))
  have gh1319 : h0.size ≤ v2_1127 := Nat.le_trans le1037 gv1127
  have K1320 : Keep h0 T1152.heap [] := K1318.trans K1152q (allS (Or.inr gh1307) (allS (Or.inr gh1319) all0))
  have K1321 : Keep h0 T1167.heap [] := K1320.trans K1167q all0
  have gh1322 : h0.size ≤ b990 := Nat.le_trans (Nat.le_refl _) (Nat.le_of_eq g990.symm)
  have K1323 : Keep h0 T1232.heap [] := K1321.trans K1232q (allS (Or.inr gh1322) all0)
  have f1324 := f1255.keep K1232q
  have f1325 := q1167_1.keep K1232q
  have ne1326 : r_1167 ≠ b990 := (Nat.ne_of_gt (Nat.lt_of_lt_of_le (Nat.lt_of_lt_of_le A990.lt le1300) q1167_0))
  have f1327 := q1167_2.keep K1232q (ninS ne1326 nin0)
  have f1328 := q1167_3.keep K1232q (ninS ne1326 nin0)
  have ne1329 : c_1167 ≠ b990 := (Ne.symm (Exa.neArv f1255 q1167_4 (wd40 hw)))
  have f1330 := q1167_4.keep K1232q (ninS ne1329 nin0)
  have f1331 := f1297.trans R1232
  refine endC X1232 hlk hS1232 (Nat.le_trans (Nat.le_refl _) (Nat.le_refl _)) hZ1232 (own_EW hw) f1331 (fun h => by rw [hret] at h; cases h) (lastA X1232 hx hret rfl rfl rfl (hb hby e53_39)) ?_ (by decide) (by decide)
  refine ⟨b990, r_1167, c_1167, kc_1167, cdM_1167, zM_1167, vM_1167, ?_, ?_, ?_, ?_, ?_, ?_, ?_, ?_, ?_, ?_, ?_⟩
  · exact rfl
  · exact N1232
  · exact K1323
  · exact gh1322
  · exact f1324
  · exact q1232_0
  · exact f1325
  · exact f1327
  · exact f1328
  · exact f1330
  · exact q1167_5
theorem wd3 (hw : HW a0 Z) : BW a0 Z (.code ⟨sT6, "two", "(I)Ljava/lang/String;"⟩ kC55 (2 : Nat) (Option.some (Jvm.ClassFile.FieldType.object sT1))) := wat hw 3 rfl
theorem wd2 (hw : HW a0 Z) : BW a0 Z (.initialized sT6) := wat hw 2 rfl
theorem pd35 : parseMethodDescriptor "(I)Ljava/lang/String;" = some ⟨[.int], some (.object "java/lang/String")⟩ := by decide +kernel
theorem wd0 (hw : HW a0 Z) : BW a0 Z (.methodLink sT6 (7 : Nat) ⟨sT6, "two", "(I)Ljava/lang/String;"⟩) := wat hw 0 rfl
theorem wd1 (hw : HW a0 Z) : BW a0 Z (.static ⟨sT6, "two", "(I)Ljava/lang/String;"⟩) := wat hw 1 rfl
theorem wd38 (hw : HW a0 Z) : BW a0 Z (.code ⟨sT7, "duplicate", sT9⟩ kC11 (3 : Nat) (Option.some (Jvm.ClassFile.FieldType.object sT4))) := wat hw 38 rfl
theorem wd37 (hw : HW a0 Z) : BW a0 Z (.initialized sT7) := wat hw 37 rfl
theorem pd36 : parseMethodDescriptor "(Ljava/lang/String;Ljava/lang/String;Ljava/lang/String;)Lcom/example/anteriorita/anteriorita/InputException;" = some ⟨[(.object "java/lang/String"), (.object "java/lang/String"), (.object "java/lang/String")], some (.object "com/example/anteriorita/anteriorita/InputException")⟩ := by decide +kernel
theorem wd35 (hw : HW a0 Z) : BW a0 Z (.methodLink sT6 (13 : Nat) ⟨sT7, "duplicate", sT9⟩) := wat hw 35 rfl
theorem wd36 (hw : HW a0 Z) : BW a0 Z (.static ⟨sT7, "duplicate", sT9⟩) := wat hw 36 rfl
theorem wd232 (hw : HW a0 Z) : BW a0 Z (.code ⟨sT3, "getMessage", sT11⟩ kC51 (1 : Nat) (Option.some (Jvm.ClassFile.FieldType.object sT1))) := wat hw 232 rfl
theorem wd231 (hw : HW a0 Z) : BW a0 Z (.selects sT4 ⟨sT4, "getMessage", sT11⟩ ⟨sT3, "getMessage", sT11⟩) := wat hw 231 rfl
theorem wd227 (hw : HW a0 Z) : BW a0 Z (.methodLink sT6 (19 : Nat) ⟨sT4, "getMessage", sT11⟩) := wat hw 227 rfl
theorem wd228 (hw : HW a0 Z) : BW a0 Z (.sameMethod sT4 sT3 "getMessage" sT11) := wat hw 228 rfl
theorem wd229 (hw : HW a0 Z) : BW a0 Z (.declares ⟨sT3, "getMessage", sT11⟩) := wat hw 229 rfl
theorem wd230 (hw : HW a0 Z) : BW a0 Z (.instanceMethod ⟨sT3, "getMessage", sT11⟩) := wat hw 230 rfl
theorem wd237 (hw : HW a0 Z) : BW a0 Z (.code ⟨sT1, "charAt", "(I)C"⟩ kC13 (2 : Nat) (Option.some Jvm.ClassFile.FieldType.char)) := wat hw 237 rfl
theorem pd37 : parseMethodDescriptor "(I)C" = some ⟨[.int], some .char⟩ := by decide +kernel
theorem wd236 (hw : HW a0 Z) : BW a0 Z (.selects sT1 ⟨sT1, "charAt", "(I)C"⟩ ⟨sT1, "charAt", "(I)C"⟩) := wat hw 236 rfl
theorem wd233 (hw : HW a0 Z) : BW a0 Z (.methodLink sT6 (25 : Nat) ⟨sT1, "charAt", "(I)C"⟩) := wat hw 233 rfl
theorem wd234 (hw : HW a0 Z) : BW a0 Z (.declares ⟨sT1, "charAt", "(I)C"⟩) := wat hw 234 rfl
theorem wd235 (hw : HW a0 Z) : BW a0 Z (.instanceMethod ⟨sT1, "charAt", "(I)C"⟩) := wat hw 235 rfl
theorem wd259 (hw : HW a0 Z) : BW a0 Z (.code ⟨sT1, "equals", "(Ljava/lang/Object;)Z"⟩ kC16 (3 : Nat) (Option.some Jvm.ClassFile.FieldType.boolean)) := wat hw 259 rfl
theorem pd38 : parseMethodDescriptor "(Ljava/lang/Object;)Z" = some ⟨[(.object "java/lang/Object")], some .boolean⟩ := by decide +kernel
theorem wd258 (hw : HW a0 Z) : BW a0 Z (.selects sT1 ⟨sT1, "equals", "(Ljava/lang/Object;)Z"⟩ ⟨sT1, "equals", "(Ljava/lang/Object;)Z"⟩) := wat hw 258 rfl
theorem wd255 (hw : HW a0 Z) : BW a0 Z (.methodLink sT6 (34 : Nat) ⟨sT1, "equals", "(Ljava/lang/Object;)Z"⟩) := wat hw 255 rfl
theorem wd256 (hw : HW a0 Z) : BW a0 Z (.declares ⟨sT1, "equals", "(Ljava/lang/Object;)Z"⟩) := wat hw 256 rfl
theorem wd257 (hw : HW a0 Z) : BW a0 Z (.instanceMethod ⟨sT1, "equals", "(Ljava/lang/Object;)Z"⟩) := wat hw 257 rfl
def Q_law (Z : State) (zC : Int32) (vF : Value) (p0 : Int32) (p1 : Int32) (p2 : Int32) (h0 : Heap) (v : Option Value) (h : Heap) (L : List Loc) : Prop := v = some (iv 1) ∧ Fr Z.heap.size L ∧ True
theorem rm_law (l : Launch) (Z : State) (a0 : Array Value) (hw : HW a0 Z) (zC : Int32) (vF : Value) (G : GB l a0 Z zC vF) (p0 : Int32) (p1 : Int32) (p2 : Int32) (h0 : Heap) (O0 : Old Z Z.heap.size h0) (Th : ThS Z h0) :
    ConK l Z EL (⟨"com/example/anteriorita/anteriorita/RecordIdsDuplicatePinLaw", "law", "(III)Z"⟩ : MethodName) code 9 (some .boolean) room_1 #[(.int p0), (.int p1), (.int p2)] h0 [] (Q_law Z zC vF p0 p1 p2 h0) := by
  obtain ⟨hl, SC, PC, rF, SF, SA, SH, SL, hX⟩ := id G
  refine ConK.intro (plainFor_of_name pn10) ?_
  intro p e s m below meth c T0 v0 X0 hx hby hml hown0 hnm hret hlk hZ0 e0 hS0 C0 hsl0 hs0 hTK0 hBF0
  have hTh0 : ThS Z s.heap := hs0 ▸ Th
  have N0 := Fr.nil Z.heap.size
  refine castGo (g' := mkF m 0 #[.val (.int p0), .val (.int p1), .val (.int p2), .unset, .unset, .unset, .unset, .unset, .unset] []) (by first | rfl | (simp [entryFrame, mkF, argsToLocals, Value.category]; done)) ?_
  show Go _ _ _ _ (T0.setTop (mkF m 0 #[.val (.int p0), .val (.int p1), .val (.int p2), .unset, .unset, .unset, .unset, .unset, .unset] []))
  refine iL X0 hx (hb hby at_0) (q := 1) rfl rfl ?_
  refine g_st X0 hx hZ0 hown0 (wd0 hw) (wd1 hw) (wd2 hw) (wd3 hw) (by decide) e0 (Con.back (W := 0) (rm_two l Z a0 hw zC vF G p0 h0 O0 ) hZ0 (wd3 hw) (wd2 hw) (by decide) (by decide)) (by rw [hml]; rfl) (lenOf pd35 rfl) rfl (Nat.le_of_eq rfl) (hb hby at_1) (q := 4) rfl (by decide) (by decide) ?_
  intro v1332 T1332 L1332 X1332 Q1332
  obtain ⟨r_1332, t_1332, kt_1332, cd_1332, z_1332, vs_1332, rfl, Nq1332, K1332q, q1332_0, q1332_1, q1332_2, q1332_3, q1332_4⟩ := Q1332
  have N1332 := Fr.app N0 Nq1332
  show Go _ _ _ _ (T1332.setTop (mkF m 4 #[.val (.int p0), .val (.int p1), .val (.int p2), .unset, .unset, .unset, .unset, .unset, .unset] [(.ref r_1332)]))
  refine sA X1332 hx (hb hby at_4) (q := 5) rfl rfl (Ls' := #[.val (.int p0), .val (.int p1), .val (.int p2), .val (.ref r_1332), .unset, .unset, .unset, .unset, .unset]) rfl ?_
  refine iL X1332 hx (hb hby at_5) (q := 6) rfl rfl ?_
  have f1334 := O0.keep K1332q all0
  refine g_st X1332 hx hZ0 hown0 (wd0 hw) (wd1 hw) (wd2 hw) (wd3 hw) (by decide) rfl (Con.back (W := 0) (rm_two l Z a0 hw zC vF G p1 T1332.heap f1334 ) hZ0 (wd3 hw) (wd2 hw) (by decide) (by decide)) (by rw [hml]; rfl) (lenOf pd35 rfl) rfl (Nat.le_of_eq rfl) (hb hby at_6) (q := 9) rfl (by decide) (by decide) ?_
  intro v1333 T1333 L1333 X1333 Q1333
  obtain ⟨r_1333, t_1333, kt_1333, cd_1333, z_1333, vs_1333, rfl, Nq1333, K1333q, q1333_0, q1333_1, q1333_2, q1333_3, q1333_4⟩ := Q1333
  have N1333 := Fr.app N1332 Nq1333
  show Go _ _ _ _ (T1333.setTop (mkF m 9 #[.val (.int p0), .val (.int p1), .val (.int p2), .val (.ref r_1332), .unset, .unset, .unset, .unset, .unset] [(.ref r_1333)]))
  refine sAw X1333 hx (hb hby at_9) (q := 11) rfl rfl (Ls' := #[.val (.int p0), .val (.int p1), .val (.int p2), .val (.ref r_1332), .val (.ref r_1333), .unset, .unset, .unset, .unset]) rfl ?_
  refine iL X1333 hx (hb hby at_11) (q := 12) rfl rfl ?_
  have f1336 := f1334.keep K1333q all0
  refine g_st X1333 hx hZ0 hown0 (wd0 hw) (wd1 hw) (wd2 hw) (wd3 hw) (by decide) rfl (Con.back (W := 0) (rm_two l Z a0 hw zC vF G p2 T1333.heap f1336 ) hZ0 (wd3 hw) (wd2 hw) (by decide) (by decide)) (by rw [hml]; rfl) (lenOf pd35 rfl) rfl (Nat.le_of_eq rfl) (hb hby at_12) (q := 15) rfl (by decide) (by decide) ?_
  intro v1335 T1335 L1335 X1335 Q1335
  obtain ⟨r_1335, t_1335, kt_1335, cd_1335, z_1335, vs_1335, rfl, Nq1335, K1335q, q1335_0, q1335_1, q1335_2, q1335_3, q1335_4⟩ := Q1335
  have N1335 := Fr.app N1333 Nq1335
  show Go _ _ _ _ (T1335.setTop (mkF m 15 #[.val (.int p0), .val (.int p1), .val (.int p2), .val (.ref r_1332), .val (.ref r_1333), .unset, .unset, .unset, .unset] [(.ref r_1335)]))
  refine sAw X1335 hx (hb hby at_15) (q := 17) rfl rfl (Ls' := #[.val (.int p0), .val (.int p1), .val (.int p2), .val (.ref r_1332), .val (.ref r_1333), .val (.ref r_1335), .unset, .unset, .unset]) rfl ?_
  refine aL X1335 hx (hb hby at_17) (q := 18) rfl rfl rfl ?_
  refine aLw X1335 hx (hb hby at_18) (q := 20) rfl rfl rfl ?_
  refine aLw X1335 hx (hb hby at_20) (q := 22) rfl rfl rfl ?_
  have f1353 := ThS.keep K1332q ns0 Th
  have f1354 := ThS.keep K1333q ns0 f1353
  have f1355 := ThS.keep K1335q ns0 f1354
  have f1356 := q1332_0.keep K1333q
  have f1357 := f1356.keep K1335q
  have f1358 := q1332_1.keep K1333q nin0
  have f1359 := f1358.keep K1335q nin0
  have f1360 := q1332_2.keep K1333q nin0
  have f1361 := f1360.keep K1335q nin0
  have f1362 := q1332_3.keep K1333q nin0
  have f1363 := f1362.keep K1335q nin0
  have f1364 := q1333_0.keep K1335q
  have f1365 := q1333_1.keep K1335q nin0
  have f1366 := q1333_2.keep K1335q nin0
  have f1367 := q1333_3.keep K1335q nin0
  have f1368 := f1336.keep K1335q all0
  have f1369 := C0.trans (CHr.keep K1332q sf0 C0.1)
  have f1370 := f1369.trans (CHr.keep K1333q sf0 f1369.1)
  have f1371 := f1370.trans (CHr.keep K1335q sf0 f1370.1)
  refine g_stS X1335 hx hZ0 hown0 hS0 (Nat.zero_le _) (wd35 hw) (wd36 hw) (wd37 hw) (wd38 hw) (by decide) rfl (ConK.back (W := 0) (rm_dup l Z a0 hw zC vF G r_1332 t_1332 kt_1332 cd_1332 z_1332 vs_1332 ([(chA p0), (chB p0)] : List Int32) r_1333 t_1333 kt_1333 cd_1333 z_1333 vs_1333 ([(chA p1), (chB p1)] : List Int32) r_1335 t_1335 kt_1335 cd_1335 z_1335 vs_1335 ([(chA p2), (chB p2)] : List Int32) T1335.heap f1368 f1355 f1357 f1359 f1361 f1363 q1332_4 rfl f1364 f1365 f1366 f1367 q1333_4 rfl q1335_0 q1335_1 q1335_2 q1335_3 q1335_4 rfl) hZ0 (wd38 hw) (wd37 hw) (by decide) (by decide) (own_EW hw) f1371.1 sf0 all0 (Vm.MethodsKnown.alikeC (hZ0.alike.symm.trans hZ0.alike) hTK0) (Vm.FramesKnown.alikeC (hZ0.alike.symm.trans hZ0.alike) hBF0)) (by rw [hml]; rfl) (lenOf pd36 rfl) rfl (Nat.le_of_eq rfl) (hb hby at_22) (q := 25) rfl (by decide) (by decide) ?_
  rintro v1352 T1352 L1352 ⟨X1352, hS1352, hZ1352, hown1352, R1352⟩ Q1352
  obtain ⟨r_1352, ms_1352, c_1352, kc_1352, cdM_1352, zM_1352, vM_1352, rfl, Nq1352, K1352q, q1352_0, q1352_1, q1352_2, q1352_3, q1352_4, q1352_5, q1352_6, q1352_7⟩ := Q1352
  have N1352 := Fr.app N1335 Nq1352
  show Go _ _ _ _ (T1352.setTop (mkF m 25 #[.val (.int p0), .val (.int p1), .val (.int p2), .val (.ref r_1332), .val (.ref r_1333), .val (.ref r_1335), .unset, .unset, .unset] [(.ref r_1352)]))
  refine sAw X1352 hx (hb hby at_25) (q := 27) rfl rfl (Ls' := #[.val (.int p0), .val (.int p1), .val (.int p2), .val (.ref r_1332), .val (.ref r_1333), .val (.ref r_1335), .val (.ref r_1352), .unset, .unset]) rfl ?_
  refine aLw X1352 hx (hb hby at_27) (q := 29) rfl rfl rfl ?_
  refine nnY X1352 hx (hb hby at_29) (q := 34) (by decide) (by decide) ?_
  refine aLw X1352 hx (hb hby at_34) (q := 36) rfl rfl rfl ?_
  have f1373 := f1368.keep K1352q all0
  refine g_vu X1352 hx hZ1352 hown1352 (wd227 hw) (wd228 hw) (wd229 hw) (by decide) (wd231 hw) (wd230 hw) q1352_1 rfl (Con.back (W := 0) (rm_gmsg l Z a0 hw zC vF G r_1352 ms_1352 T1352.heap f1373 q1352_2) hZ1352 (wd232 hw) (wd188 hw) (by decide) (by decide)) (by rw [hml]; rfl) (lenOf pd34 rfl) rfl (Nat.le_of_eq rfl) (hb hby at_36) (q := 39) rfl (by decide) (by decide) ?_
  intro v1372 T1372 L1372 X1372 Q1372
  obtain ⟨rfl, Nq1372, e1372⟩ := Q1372
  have N1372 := Fr.app N1352 Nq1372
  show Go _ _ _ _ (T1372.setTop (mkF m 39 #[.val (.int p0), .val (.int p1), .val (.int p2), .val (.ref r_1332), .val (.ref r_1333), .val (.ref r_1335), .val (.ref r_1352), .unset, .unset] [(.ref ms_1352)]))
  refine sAw X1372 hx (hb hby at_39) (q := 41) rfl rfl (Ls' := #[.val (.int p0), .val (.int p1), .val (.int p2), .val (.ref r_1332), .val (.ref r_1333), .val (.ref r_1335), .val (.ref r_1352), .val (.ref ms_1352), .unset]) rfl ?_
  refine bI X1372 hx (hb hby at_41) (q := 43) rfl (z := (34 : Int32)) rfl ?_
  refine g_newA X1372 hx hZ1352 (aty := .char) (wd4 hw) (by decide) (n := 34) (by decide) (by decide) (by decide) (by decide) e1372 (hb hby at_43) (q := 45) rfl ?_
  intro T1374 h1374 k1374 b1374 g1374 X1374 e1374 E1374 V1374
  have Va1374 : Arv Z h1374 b1374 k1374 .char (34 : Int32) [(iv 0), (iv 0), (iv 0), (iv 0), (iv 0), (iv 0), (iv 0), (iv 0), (iv 0), (iv 0), (iv 0), (iv 0), (iv 0), (iv 0), (iv 0), (iv 0), (iv 0), (iv 0), (iv 0), (iv 0), (iv 0), (iv 0), (iv 0), (iv 0), (iv 0), (iv 0), (iv 0), (iv 0), (iv 0), (iv 0), (iv 0), (iv 0), (iv 0), (iv 0)] (.int 0) := V1374
  refine sAw X1374 hx (hb hby at_45) (q := 47) rfl rfl (Ls' := #[.val (.int p0), .val (.int p1), .val (.int p2), .val (.ref r_1332), .val (.ref r_1333), .val (.ref r_1335), .val (.ref r_1352), .val (.ref ms_1352), .val (.ref b1374)]) rfl ?_
  refine aLw X1374 hx (hb hby at_47) (q := 49) rfl rfl rfl ?_
  refine cI X1374 hx (hb hby at_49) (q := 50) rfl (z := (0 : Int32)) rfl ?_
  refine aLw X1374 hx (hb hby at_50) (q := 52) rfl rfl rfl ?_
  refine cI X1374 hx (hb hby at_52) (q := 53) rfl (z := (0 : Int32)) rfl ?_
  have f1384 := f1364.keep K1352q
  have f1385 := f1384.ext E1374
  have f1386 := f1365.keep K1352q nin0
  have f1387 := f1386.ext E1374
  have f1388 := f1366.keep K1352q nin0
  have f1389 := f1388.ext E1374
  have f1390 := f1367.keep K1352q nin0
  have f1391 := f1390.ext E1374
  have f1392 := f1373.ext E1374
  refine g_vi X1374 hx hZ1352 hown1352 (wd233 hw) (wd234 hw) (notFace_of_selects (args := #[]) (mvT hZ1352 (wd236 hw))) (wd236 hw) (wd235 hw) (by decide) f1385 e1374 (Con.back (W := 2) (rm_sca0 l Z a0 hw zC vF G r_1333 t_1333 kt_1333 cd_1333 z_1333 vs_1333 (chA p1) (chB p1) h1374 f1392 f1385 f1387 f1389 f1391 q1333_4) hZ1352 (wd237 hw) (wd8 hw) (by decide) (by decide)) (by rw [hml]; rfl) (lenOf pd37 rfl) rfl (Nat.le_of_eq rfl) (hb hby at_53) (q := 56) rfl (by decide) (by decide) ?_
  intro v1383 T1383 L1383 X1383 Q1383
  obtain ⟨rfl, Nq1383, e1383⟩ := Q1383
  have N1383 := Fr.app N1372 Nq1383
  show Go _ _ _ _ (T1383.setTop (mkF m 56 #[.val (.int p0), .val (.int p1), .val (.int p2), .val (.ref r_1332), .val (.ref r_1333), .val (.ref r_1335), .val (.ref r_1352), .val (.ref ms_1352), .val (.ref b1374)] [(.int (chA p1)), (iv 0), (.ref b1374)]))
  have gz1394 : Z.heap.size ≤ b1374 := Nat.le_trans f1373.2.1 (Nat.le_of_eq g1374.symm)
  have f1395 := f1371.trans R1352
  have f1396 := f1395.trans (CHr.ext E1374 f1395.1)
  refine g_stC X1383 hx hZ1352 Va1374 (i := 0) (by decide) (by decide) (by decide) (Nat.le_of_ble_eq_true rfl) (y := (chA p1)) (nar_of (chA_rng _).1 (chA_rng _).2) e1383 (hb hby at_56) (q := 57) rfl ?_
  intro T1393 h1393 X1393 e1393 W1393 V1393
  have N1393 := Fr.snoc X1393 N1383 gz1394
  refine aLw X1393 hx (hb hby at_57) (q := 59) rfl rfl rfl ?_
  refine cI X1393 hx (hb hby at_59) (q := 60) rfl (z := (1 : Int32)) rfl ?_
  refine aLw X1393 hx (hb hby at_60) (q := 62) rfl rfl rfl ?_
  refine cI X1393 hx (hb hby at_62) (q := 63) rfl (z := (1 : Int32)) rfl ?_
  have f1406 := f1385.wr W1393
  have le1407 := K1335q.1
  have le1408 := (Nat.le_trans le1407 K1352q.1)
  have ne1409 : r_1333 ≠ b1374 := (Nat.ne_of_lt (Nat.lt_of_lt_of_le (Nat.lt_of_lt_of_le q1333_0.lt le1408) (Nat.le_of_eq g1374.symm)))
  have f1410 := f1387.other W1393 (Or.inl ne1409)
  have f1411 := f1389.other W1393 (Or.inl ne1409)
  have ne1412 : t_1333 ≠ b1374 := (Nat.ne_of_lt (Nat.lt_of_lt_of_le (Nat.lt_of_lt_of_le q1333_3.lt le1408) (Nat.le_of_eq g1374.symm)))
  have f1413 := f1391.other W1393 ne1412
  have f1414 := f1392.wr W1393 gz1394
  refine g_vi X1393 hx hZ1352 hown1352 (wd233 hw) (wd234 hw) (notFace_of_selects (args := #[]) (mvT hZ1352 (wd236 hw))) (wd236 hw) (wd235 hw) (by decide) f1406 e1393 (Con.back (W := 2) (rm_sca1 l Z a0 hw zC vF G r_1333 t_1333 kt_1333 cd_1333 z_1333 vs_1333 (chA p1) (chB p1) h1393 f1414 f1406 f1410 f1411 f1413 q1333_4) hZ1352 (wd237 hw) (wd8 hw) (by decide) (by decide)) (by rw [hml]; rfl) (lenOf pd37 rfl) rfl (Nat.le_of_eq rfl) (hb hby at_63) (q := 66) rfl (by decide) (by decide) ?_
  intro v1405 T1405 L1405 X1405 Q1405
  obtain ⟨rfl, Nq1405, e1405⟩ := Q1405
  have N1405 := Fr.app N1393 Nq1405
  show Go _ _ _ _ (T1405.setTop (mkF m 66 #[.val (.int p0), .val (.int p1), .val (.int p2), .val (.ref r_1332), .val (.ref r_1333), .val (.ref r_1335), .val (.ref r_1352), .val (.ref ms_1352), .val (.ref b1374)] [(.int (chB p1)), (iv 1), (.ref b1374)]))
  have f1416 := f1396.trans (CHr.wr W1393 (Safe.arv hZ1352.alike Va1374 (by decide)) f1396.1)
  refine g_stC X1405 hx hZ1352 V1393 (i := 1) (by decide) (by decide) (by decide) (Nat.le_of_ble_eq_true rfl) (y := (chB p1)) (nar_of (chB_rng _).1 (chB_rng _).2) e1405 (hb hby at_66) (q := 67) rfl ?_
  intro T1415 h1415 X1415 e1415 W1415 V1415
  have N1415 := Fr.snoc X1415 N1405 gz1394
  refine aLw X1415 hx (hb hby at_67) (q := 69) rfl rfl rfl ?_
  refine cI X1415 hx (hb hby at_69) (q := 70) rfl (z := (2 : Int32)) rfl ?_
  refine bI X1415 hx (hb hby at_70) (q := 72) rfl (z := (58 : Int32)) rfl ?_
  have f1418 := f1416.trans (CHr.wr W1415 (Safe.arv hZ1352.alike V1393 (by decide)) f1416.1)
  refine g_stC X1415 hx hZ1352 V1415 (i := 2) (by decide) (by decide) (by decide) (Nat.le_of_ble_eq_true rfl) (y := (58 : Int32)) (by decide) e1415 (hb hby at_72) (q := 73) rfl ?_
  intro T1417 h1417 X1417 e1417 W1417 V1417
  have N1417 := Fr.snoc X1417 N1415 gz1394
  refine aLw X1417 hx (hb hby at_73) (q := 75) rfl rfl rfl ?_
  refine cI X1417 hx (hb hby at_75) (q := 76) rfl (z := (3 : Int32)) rfl ?_
  refine bI X1417 hx (hb hby at_76) (q := 78) rfl (z := (32 : Int32)) rfl ?_
  have f1420 := f1418.trans (CHr.wr W1417 (Safe.arv hZ1352.alike V1415 (by decide)) f1418.1)
  refine g_stC X1417 hx hZ1352 V1417 (i := 3) (by decide) (by decide) (by decide) (Nat.le_of_ble_eq_true rfl) (y := (32 : Int32)) (by decide) e1417 (hb hby at_78) (q := 79) rfl ?_
  intro T1419 h1419 X1419 e1419 W1419 V1419
  have N1419 := Fr.snoc X1419 N1417 gz1394
  refine aLw X1419 hx (hb hby at_79) (q := 81) rfl rfl rfl ?_
  refine cI X1419 hx (hb hby at_81) (q := 82) rfl (z := (4 : Int32)) rfl ?_
  refine bI X1419 hx (hb hby at_82) (q := 84) rfl (z := (100 : Int32)) rfl ?_
  have f1422 := f1420.trans (CHr.wr W1419 (Safe.arv hZ1352.alike V1417 (by decide)) f1420.1)
  refine g_stC X1419 hx hZ1352 V1419 (i := 4) (by decide) (by decide) (by decide) (Nat.le_of_ble_eq_true rfl) (y := (100 : Int32)) (by decide) e1419 (hb hby at_84) (q := 85) rfl ?_
  intro T1421 h1421 X1421 e1421 W1421 V1421
  have N1421 := Fr.snoc X1421 N1419 gz1394
  have Va1421 : Arv Z h1421 b1374 k1374 .char (34 : Int32) [(.int (chA p1)), (.int (chB p1)), (iv 58), (iv 32), (iv 100), (iv 0), (iv 0), (iv 0), (iv 0), (iv 0), (iv 0), (iv 0), (iv 0), (iv 0), (iv 0), (iv 0), (iv 0), (iv 0), (iv 0), (iv 0), (iv 0), (iv 0), (iv 0), (iv 0), (iv 0), (iv 0), (iv 0), (iv 0), (iv 0), (iv 0), (iv 0), (iv 0), (iv 0), (iv 0)] (.int 0) := V1421
  refine aLw X1421 hx (hb hby at_85) (q := 87) rfl rfl rfl ?_
  refine cI X1421 hx (hb hby at_87) (q := 88) rfl (z := (5 : Int32)) rfl ?_
  refine bI X1421 hx (hb hby at_88) (q := 90) rfl (z := (117 : Int32)) rfl ?_
  have f1424 := f1422.trans (CHr.wr W1421 (Safe.arv hZ1352.alike V1419 (by decide)) f1422.1)
  refine g_stC X1421 hx hZ1352 Va1421 (i := 5) (by decide) (by decide) (by decide) (Nat.le_of_ble_eq_true rfl) (y := (117 : Int32)) (by decide) e1421 (hb hby at_90) (q := 91) rfl ?_
  intro T1423 h1423 X1423 e1423 W1423 V1423
  have N1423 := Fr.snoc X1423 N1421 gz1394
  refine aLw X1423 hx (hb hby at_91) (q := 93) rfl rfl rfl ?_
  refine bI X1423 hx (hb hby at_93) (q := 95) rfl (z := (6 : Int32)) rfl ?_
  refine bI X1423 hx (hb hby at_95) (q := 97) rfl (z := (112 : Int32)) rfl ?_
  have f1426 := f1424.trans (CHr.wr W1423 (Safe.arv hZ1352.alike Va1421 (by decide)) f1424.1)
  refine g_stC X1423 hx hZ1352 V1423 (i := 6) (by decide) (by decide) (by decide) (Nat.le_of_ble_eq_true rfl) (y := (112 : Int32)) (by decide) e1423 (hb hby at_97) (q := 98) rfl ?_
  intro T1425 h1425 X1425 e1425 W1425 V1425
  have N1425 := Fr.snoc X1425 N1423 gz1394
  refine aLw X1425 hx (hb hby at_98) (q := 100) rfl rfl rfl ?_
  refine bI X1425 hx (hb hby at_100) (q := 102) rfl (z := (7 : Int32)) rfl ?_
  refine bI X1425 hx (hb hby at_102) (q := 104) rfl (z := (108 : Int32)) rfl ?_
  have f1428 := f1426.trans (CHr.wr W1425 (Safe.arv hZ1352.alike V1423 (by decide)) f1426.1)
  refine g_stC X1425 hx hZ1352 V1425 (i := 7) (by decide) (by decide) (by decide) (Nat.le_of_ble_eq_true rfl) (y := (108 : Int32)) (by decide) e1425 (hb hby at_104) (q := 105) rfl ?_
  intro T1427 h1427 X1427 e1427 W1427 V1427
  have N1427 := Fr.snoc X1427 N1425 gz1394
  refine aLw X1427 hx (hb hby at_105) (q := 107) rfl rfl rfl ?_
  refine bI X1427 hx (hb hby at_107) (q := 109) rfl (z := (8 : Int32)) rfl ?_
  refine bI X1427 hx (hb hby at_109) (q := 111) rfl (z := (105 : Int32)) rfl ?_
  have f1430 := f1428.trans (CHr.wr W1427 (Safe.arv hZ1352.alike V1425 (by decide)) f1428.1)
  refine g_stC X1427 hx hZ1352 V1427 (i := 8) (by decide) (by decide) (by decide) (Nat.le_of_ble_eq_true rfl) (y := (105 : Int32)) (by decide) e1427 (hb hby at_111) (q := 112) rfl ?_
  intro T1429 h1429 X1429 e1429 W1429 V1429
  have N1429 := Fr.snoc X1429 N1427 gz1394
  refine aLw X1429 hx (hb hby at_112) (q := 114) rfl rfl rfl ?_
  refine bI X1429 hx (hb hby at_114) (q := 116) rfl (z := (9 : Int32)) rfl ?_
  refine bI X1429 hx (hb hby at_116) (q := 118) rfl (z := (99 : Int32)) rfl ?_
  have f1432 := f1430.trans (CHr.wr W1429 (Safe.arv hZ1352.alike V1427 (by decide)) f1430.1)
  refine g_stC X1429 hx hZ1352 V1429 (i := 9) (by decide) (by decide) (by decide) (Nat.le_of_ble_eq_true rfl) (y := (99 : Int32)) (by decide) e1429 (hb hby at_118) (q := 119) rfl ?_
  intro T1431 h1431 X1431 e1431 W1431 V1431
  have N1431 := Fr.snoc X1431 N1429 gz1394
  have Va1431 : Arv Z h1431 b1374 k1374 .char (34 : Int32) [(.int (chA p1)), (.int (chB p1)), (iv 58), (iv 32), (iv 100), (iv 117), (iv 112), (iv 108), (iv 105), (iv 99), (iv 0), (iv 0), (iv 0), (iv 0), (iv 0), (iv 0), (iv 0), (iv 0), (iv 0), (iv 0), (iv 0), (iv 0), (iv 0), (iv 0), (iv 0), (iv 0), (iv 0), (iv 0), (iv 0), (iv 0), (iv 0), (iv 0), (iv 0), (iv 0)] (.int 0) := V1431
  refine aLw X1431 hx (hb hby at_119) (q := 121) rfl rfl rfl ?_
  refine bI X1431 hx (hb hby at_121) (q := 123) rfl (z := (10 : Int32)) rfl ?_
  refine bI X1431 hx (hb hby at_123) (q := 125) rfl (z := (97 : Int32)) rfl ?_
  have f1434 := f1432.trans (CHr.wr W1431 (Safe.arv hZ1352.alike V1429 (by decide)) f1432.1)
  refine g_stC X1431 hx hZ1352 Va1431 (i := 10) (by decide) (by decide) (by decide) (Nat.le_of_ble_eq_true rfl) (y := (97 : Int32)) (by decide) e1431 (hb hby at_125) (q := 126) rfl ?_
  intro T1433 h1433 X1433 e1433 W1433 V1433
  have N1433 := Fr.snoc X1433 N1431 gz1394
  refine aLw X1433 hx (hb hby at_126) (q := 128) rfl rfl rfl ?_
  refine bI X1433 hx (hb hby at_128) (q := 130) rfl (z := (11 : Int32)) rfl ?_
  refine bI X1433 hx (hb hby at_130) (q := 132) rfl (z := (116 : Int32)) rfl ?_
  have f1436 := f1434.trans (CHr.wr W1433 (Safe.arv hZ1352.alike Va1431 (by decide)) f1434.1)
  refine g_stC X1433 hx hZ1352 V1433 (i := 11) (by decide) (by decide) (by decide) (Nat.le_of_ble_eq_true rfl) (y := (116 : Int32)) (by decide) e1433 (hb hby at_132) (q := 133) rfl ?_
  intro T1435 h1435 X1435 e1435 W1435 V1435
  have N1435 := Fr.snoc X1435 N1433 gz1394
  refine aLw X1435 hx (hb hby at_133) (q := 135) rfl rfl rfl ?_
  refine bI X1435 hx (hb hby at_135) (q := 137) rfl (z := (12 : Int32)) rfl ?_
  refine bI X1435 hx (hb hby at_137) (q := 139) rfl (z := (101 : Int32)) rfl ?_
  have f1438 := f1436.trans (CHr.wr W1435 (Safe.arv hZ1352.alike V1433 (by decide)) f1436.1)
  refine g_stC X1435 hx hZ1352 V1435 (i := 12) (by decide) (by decide) (by decide) (Nat.le_of_ble_eq_true rfl) (y := (101 : Int32)) (by decide) e1435 (hb hby at_139) (q := 140) rfl ?_
  intro T1437 h1437 X1437 e1437 W1437 V1437
  have N1437 := Fr.snoc X1437 N1435 gz1394
  refine aLw X1437 hx (hb hby at_140) (q := 142) rfl rfl rfl ?_
  refine bI X1437 hx (hb hby at_142) (q := 144) rfl (z := (13 : Int32)) rfl ?_
  refine bI X1437 hx (hb hby at_144) (q := 146) rfl (z := (32 : Int32)) rfl ?_
  have f1440 := f1438.trans (CHr.wr W1437 (Safe.arv hZ1352.alike V1435 (by decide)) f1438.1)
  refine g_stC X1437 hx hZ1352 V1437 (i := 13) (by decide) (by decide) (by decide) (Nat.le_of_ble_eq_true rfl) (y := (32 : Int32)) (by decide) e1437 (hb hby at_146) (q := 147) rfl ?_
  intro T1439 h1439 X1439 e1439 W1439 V1439
  have N1439 := Fr.snoc X1439 N1437 gz1394
  refine aLw X1439 hx (hb hby at_147) (q := 149) rfl rfl rfl ?_
  refine bI X1439 hx (hb hby at_149) (q := 151) rfl (z := (14 : Int32)) rfl ?_
  refine bI X1439 hx (hb hby at_151) (q := 153) rfl (z := (105 : Int32)) rfl ?_
  have f1442 := f1440.trans (CHr.wr W1439 (Safe.arv hZ1352.alike V1437 (by decide)) f1440.1)
  refine g_stC X1439 hx hZ1352 V1439 (i := 14) (by decide) (by decide) (by decide) (Nat.le_of_ble_eq_true rfl) (y := (105 : Int32)) (by decide) e1439 (hb hby at_153) (q := 154) rfl ?_
  intro T1441 h1441 X1441 e1441 W1441 V1441
  have N1441 := Fr.snoc X1441 N1439 gz1394
  have Va1441 : Arv Z h1441 b1374 k1374 .char (34 : Int32) [(.int (chA p1)), (.int (chB p1)), (iv 58), (iv 32), (iv 100), (iv 117), (iv 112), (iv 108), (iv 105), (iv 99), (iv 97), (iv 116), (iv 101), (iv 32), (iv 105), (iv 0), (iv 0), (iv 0), (iv 0), (iv 0), (iv 0), (iv 0), (iv 0), (iv 0), (iv 0), (iv 0), (iv 0), (iv 0), (iv 0), (iv 0), (iv 0), (iv 0), (iv 0), (iv 0)] (.int 0) := V1441
  refine aLw X1441 hx (hb hby at_154) (q := 156) rfl rfl rfl ?_
  refine bI X1441 hx (hb hby at_156) (q := 158) rfl (z := (15 : Int32)) rfl ?_
  refine bI X1441 hx (hb hby at_158) (q := 160) rfl (z := (100 : Int32)) rfl ?_
  have f1444 := f1442.trans (CHr.wr W1441 (Safe.arv hZ1352.alike V1439 (by decide)) f1442.1)
  refine g_stC X1441 hx hZ1352 Va1441 (i := 15) (by decide) (by decide) (by decide) (Nat.le_of_ble_eq_true rfl) (y := (100 : Int32)) (by decide) e1441 (hb hby at_160) (q := 161) rfl ?_
  intro T1443 h1443 X1443 e1443 W1443 V1443
  have N1443 := Fr.snoc X1443 N1441 gz1394
  refine aLw X1443 hx (hb hby at_161) (q := 163) rfl rfl rfl ?_
  refine bI X1443 hx (hb hby at_163) (q := 165) rfl (z := (16 : Int32)) rfl ?_
  refine bI X1443 hx (hb hby at_165) (q := 167) rfl (z := (32 : Int32)) rfl ?_
  have f1446 := f1444.trans (CHr.wr W1443 (Safe.arv hZ1352.alike Va1441 (by decide)) f1444.1)
  refine g_stC X1443 hx hZ1352 V1443 (i := 16) (by decide) (by decide) (by decide) (Nat.le_of_ble_eq_true rfl) (y := (32 : Int32)) (by decide) e1443 (hb hby at_167) (q := 168) rfl ?_
  intro T1445 h1445 X1445 e1445 W1445 V1445
  have N1445 := Fr.snoc X1445 N1443 gz1394
  refine aLw X1445 hx (hb hby at_168) (q := 170) rfl rfl rfl ?_
  refine bI X1445 hx (hb hby at_170) (q := 172) rfl (z := (17 : Int32)) rfl ?_
  refine bI X1445 hx (hb hby at_172) (q := 174) rfl (z := (34 : Int32)) rfl ?_
  have f1448 := f1446.trans (CHr.wr W1445 (Safe.arv hZ1352.alike V1443 (by decide)) f1446.1)
  refine g_stC X1445 hx hZ1352 V1445 (i := 17) (by decide) (by decide) (by decide) (Nat.le_of_ble_eq_true rfl) (y := (34 : Int32)) (by decide) e1445 (hb hby at_174) (q := 175) rfl ?_
  intro T1447 h1447 X1447 e1447 W1447 V1447
  have N1447 := Fr.snoc X1447 N1445 gz1394
  refine aLw X1447 hx (hb hby at_175) (q := 177) rfl rfl rfl ?_
  refine bI X1447 hx (hb hby at_177) (q := 179) rfl (z := (18 : Int32)) rfl ?_
  refine aL X1447 hx (hb hby at_179) (q := 180) rfl rfl rfl ?_
  refine cI X1447 hx (hb hby at_180) (q := 181) rfl (z := (0 : Int32)) rfl ?_
  have K1475 := (Keep.refl T1335.heap []).trans K1352q all0
  have K1476 := K1475.ext E1374
  have le1477 := K1352q.1
  have K1478 := K1476.wr W1393 (Or.inr (Nat.le_trans le1477 (Nat.le_of_eq g1374.symm)))
  have K1479 := K1478.wr W1415 (Or.inr (Nat.le_trans le1477 (Nat.le_of_eq g1374.symm)))
  have K1480 := K1479.wr W1417 (Or.inr (Nat.le_trans le1477 (Nat.le_of_eq g1374.symm)))
  have K1481 := K1480.wr W1419 (Or.inr (Nat.le_trans le1477 (Nat.le_of_eq g1374.symm)))
  have K1482 := K1481.wr W1421 (Or.inr (Nat.le_trans le1477 (Nat.le_of_eq g1374.symm)))
  have K1483 := K1482.wr W1423 (Or.inr (Nat.le_trans le1477 (Nat.le_of_eq g1374.symm)))
  have K1484 := K1483.wr W1425 (Or.inr (Nat.le_trans le1477 (Nat.le_of_eq g1374.symm)))
  have K1485 := K1484.wr W1427 (Or.inr (Nat.le_trans le1477 (Nat.le_of_eq g1374.symm)))
  have K1486 := K1485.wr W1429 (Or.inr (Nat.le_trans le1477 (Nat.le_of_eq g1374.symm)))
  have K1487 := K1486.wr W1431 (Or.inr (Nat.le_trans le1477 (Nat.le_of_eq g1374.symm)))
  have K1488 := K1487.wr W1433 (Or.inr (Nat.le_trans le1477 (Nat.le_of_eq g1374.symm)))
  have K1489 := K1488.wr W1435 (Or.inr (Nat.le_trans le1477 (Nat.le_of_eq g1374.symm)))
  have K1490 := K1489.wr W1437 (Or.inr (Nat.le_trans le1477 (Nat.le_of_eq g1374.symm)))
  have K1491 := K1490.wr W1439 (Or.inr (Nat.le_trans le1477 (Nat.le_of_eq g1374.symm)))
  have K1492 := K1491.wr W1441 (Or.inr (Nat.le_trans le1477 (Nat.le_of_eq g1374.symm)))
  have K1493 := K1492.wr W1443 (Or.inr (Nat.le_trans le1477 (Nat.le_of_eq g1374.symm)))
  have K1494 := K1493.wr W1445 (Or.inr (Nat.le_trans le1477 (Nat.le_of_eq g1374.symm)))
  have K1495 := K1494.wr W1447 (Or.inr (Nat.le_trans le1477 (Nat.le_of_eq g1374.symm)))
  have f1496 := f1357.keep K1495
  have f1497 := f1359.keep K1495 nin0
  have f1498 := f1361.keep K1495 nin0
  have f1499 := f1363.keep K1495 nin0
  have f1500 := f1414.wr W1415 gz1394
  have f1501 := f1500.wr W1417 gz1394
  have f1502 := f1501.wr W1419 gz1394
  have f1503 := f1502.wr W1421 gz1394
  have f1504 := f1503.wr W1423 gz1394
  have f1505 := f1504.wr W1425 gz1394
  have f1506 := f1505.wr W1427 gz1394
  have f1507 := f1506.wr W1429 gz1394
  have f1508 := f1507.wr W1431 gz1394
  have f1509 := f1508.wr W1433 gz1394
  have f1510 := f1509.wr W1435 gz1394
  have f1511 := f1510.wr W1437 gz1394
  have f1512 := f1511.wr W1439 gz1394
  have f1513 := f1512.wr W1441 gz1394
  have f1514 := f1513.wr W1443 gz1394
  have f1515 := f1514.wr W1445 gz1394
  have f1516 := f1515.wr W1447 gz1394
  refine g_vi X1447 hx hZ1352 hown1352 (wd233 hw) (wd234 hw) (notFace_of_selects (args := #[]) (mvT hZ1352 (wd236 hw))) (wd236 hw) (wd235 hw) (by decide) f1496 e1447 (Con.back (W := 2) (rm_sca0 l Z a0 hw zC vF G r_1332 t_1332 kt_1332 cd_1332 z_1332 vs_1332 (chA p0) (chB p0) h1447 f1516 f1496 f1497 f1498 f1499 q1332_4) hZ1352 (wd237 hw) (wd8 hw) (by decide) (by decide)) (by rw [hml]; rfl) (lenOf pd37 rfl) rfl (Nat.le_of_eq rfl) (hb hby at_181) (q := 184) rfl (by decide) (by decide) ?_
  intro v1474 T1474 L1474 X1474 Q1474
  obtain ⟨rfl, Nq1474, e1474⟩ := Q1474
  have N1474 := Fr.app N1447 Nq1474
  show Go _ _ _ _ (T1474.setTop (mkF m 184 #[.val (.int p0), .val (.int p1), .val (.int p2), .val (.ref r_1332), .val (.ref r_1333), .val (.ref r_1335), .val (.ref r_1352), .val (.ref ms_1352), .val (.ref b1374)] [(.int (chA p0)), (iv 18), (.ref b1374)]))
  have f1518 := f1448.trans (CHr.wr W1447 (Safe.arv hZ1352.alike V1445 (by decide)) f1448.1)
  refine g_stC X1474 hx hZ1352 V1447 (i := 18) (by decide) (by decide) (by decide) (Nat.le_of_ble_eq_true rfl) (y := (chA p0)) (nar_of (chA_rng _).1 (chA_rng _).2) e1474 (hb hby at_184) (q := 185) rfl ?_
  intro T1517 h1517 X1517 e1517 W1517 V1517
  have N1517 := Fr.snoc X1517 N1474 gz1394
  refine aLw X1517 hx (hb hby at_185) (q := 187) rfl rfl rfl ?_
  refine bI X1517 hx (hb hby at_187) (q := 189) rfl (z := (19 : Int32)) rfl ?_
  refine aL X1517 hx (hb hby at_189) (q := 190) rfl rfl rfl ?_
  refine cI X1517 hx (hb hby at_190) (q := 191) rfl (z := (1 : Int32)) rfl ?_
  have f1529 := f1496.wr W1517
  have le1530 := K1333q.1
  have le1531 := (Nat.le_trans le1530 K1335q.1)
  have le1532 := (Nat.le_trans le1531 K1352q.1)
  have ne1533 : r_1332 ≠ b1374 := (Nat.ne_of_lt (Nat.lt_of_lt_of_le (Nat.lt_of_lt_of_le q1332_0.lt le1532) (Nat.le_of_eq g1374.symm)))
  have f1534 := f1497.other W1517 (Or.inl ne1533)
  have f1535 := f1498.other W1517 (Or.inl ne1533)
  have ne1536 : t_1332 ≠ b1374 := (Nat.ne_of_lt (Nat.lt_of_lt_of_le (Nat.lt_of_lt_of_le q1332_3.lt le1532) (Nat.le_of_eq g1374.symm)))
  have f1537 := f1499.other W1517 ne1536
  have f1538 := f1516.wr W1517 gz1394
  refine g_vi X1517 hx hZ1352 hown1352 (wd233 hw) (wd234 hw) (notFace_of_selects (args := #[]) (mvT hZ1352 (wd236 hw))) (wd236 hw) (wd235 hw) (by decide) f1529 e1517 (Con.back (W := 2) (rm_sca1 l Z a0 hw zC vF G r_1332 t_1332 kt_1332 cd_1332 z_1332 vs_1332 (chA p0) (chB p0) h1517 f1538 f1529 f1534 f1535 f1537 q1332_4) hZ1352 (wd237 hw) (wd8 hw) (by decide) (by decide)) (by rw [hml]; rfl) (lenOf pd37 rfl) rfl (Nat.le_of_eq rfl) (hb hby at_191) (q := 194) rfl (by decide) (by decide) ?_
  intro v1528 T1528 L1528 X1528 Q1528
  obtain ⟨rfl, Nq1528, e1528⟩ := Q1528
  have N1528 := Fr.app N1517 Nq1528
  show Go _ _ _ _ (T1528.setTop (mkF m 194 #[.val (.int p0), .val (.int p1), .val (.int p2), .val (.ref r_1332), .val (.ref r_1333), .val (.ref r_1335), .val (.ref r_1352), .val (.ref ms_1352), .val (.ref b1374)] [(.int (chB p0)), (iv 19), (.ref b1374)]))
  have f1540 := f1518.trans (CHr.wr W1517 (Safe.arv hZ1352.alike V1447 (by decide)) f1518.1)
  refine g_stC X1528 hx hZ1352 V1517 (i := 19) (by decide) (by decide) (by decide) (Nat.le_of_ble_eq_true rfl) (y := (chB p0)) (nar_of (chB_rng _).1 (chB_rng _).2) e1528 (hb hby at_194) (q := 195) rfl ?_
  intro T1539 h1539 X1539 e1539 W1539 V1539
  have N1539 := Fr.snoc X1539 N1528 gz1394
  have Va1539 : Arv Z h1539 b1374 k1374 .char (34 : Int32) [(.int (chA p1)), (.int (chB p1)), (iv 58), (iv 32), (iv 100), (iv 117), (iv 112), (iv 108), (iv 105), (iv 99), (iv 97), (iv 116), (iv 101), (iv 32), (iv 105), (iv 100), (iv 32), (iv 34), (.int (chA p0)), (.int (chB p0)), (iv 0), (iv 0), (iv 0), (iv 0), (iv 0), (iv 0), (iv 0), (iv 0), (iv 0), (iv 0), (iv 0), (iv 0), (iv 0), (iv 0)] (.int 0) := V1539
  refine aLw X1539 hx (hb hby at_195) (q := 197) rfl rfl rfl ?_
  refine bI X1539 hx (hb hby at_197) (q := 199) rfl (z := (20 : Int32)) rfl ?_
  refine bI X1539 hx (hb hby at_199) (q := 201) rfl (z := (34 : Int32)) rfl ?_
  have f1542 := f1540.trans (CHr.wr W1539 (Safe.arv hZ1352.alike V1517 (by decide)) f1540.1)
  refine g_stC X1539 hx hZ1352 Va1539 (i := 20) (by decide) (by decide) (by decide) (Nat.le_of_ble_eq_true rfl) (y := (34 : Int32)) (by decide) e1539 (hb hby at_201) (q := 202) rfl ?_
  intro T1541 h1541 X1541 e1541 W1541 V1541
  have N1541 := Fr.snoc X1541 N1539 gz1394
  refine aLw X1541 hx (hb hby at_202) (q := 204) rfl rfl rfl ?_
  refine bI X1541 hx (hb hby at_204) (q := 206) rfl (z := (21 : Int32)) rfl ?_
  refine bI X1541 hx (hb hby at_206) (q := 208) rfl (z := (44 : Int32)) rfl ?_
  have f1544 := f1542.trans (CHr.wr W1541 (Safe.arv hZ1352.alike Va1539 (by decide)) f1542.1)
  refine g_stC X1541 hx hZ1352 V1541 (i := 21) (by decide) (by decide) (by decide) (Nat.le_of_ble_eq_true rfl) (y := (44 : Int32)) (by decide) e1541 (hb hby at_208) (q := 209) rfl ?_
  intro T1543 h1543 X1543 e1543 W1543 V1543
  have N1543 := Fr.snoc X1543 N1541 gz1394
  refine aLw X1543 hx (hb hby at_209) (q := 211) rfl rfl rfl ?_
  refine bI X1543 hx (hb hby at_211) (q := 213) rfl (z := (22 : Int32)) rfl ?_
  refine bI X1543 hx (hb hby at_213) (q := 215) rfl (z := (32 : Int32)) rfl ?_
  have f1546 := f1544.trans (CHr.wr W1543 (Safe.arv hZ1352.alike V1541 (by decide)) f1544.1)
  refine g_stC X1543 hx hZ1352 V1543 (i := 22) (by decide) (by decide) (by decide) (Nat.le_of_ble_eq_true rfl) (y := (32 : Int32)) (by decide) e1543 (hb hby at_215) (q := 216) rfl ?_
  intro T1545 h1545 X1545 e1545 W1545 V1545
  have N1545 := Fr.snoc X1545 N1543 gz1394
  refine aLw X1545 hx (hb hby at_216) (q := 218) rfl rfl rfl ?_
  refine bI X1545 hx (hb hby at_218) (q := 220) rfl (z := (23 : Int32)) rfl ?_
  refine bI X1545 hx (hb hby at_220) (q := 222) rfl (z := (102 : Int32)) rfl ?_
  have f1548 := f1546.trans (CHr.wr W1545 (Safe.arv hZ1352.alike V1543 (by decide)) f1546.1)
  refine g_stC X1545 hx hZ1352 V1545 (i := 23) (by decide) (by decide) (by decide) (Nat.le_of_ble_eq_true rfl) (y := (102 : Int32)) (by decide) e1545 (hb hby at_222) (q := 223) rfl ?_
  intro T1547 h1547 X1547 e1547 W1547 V1547
  have N1547 := Fr.snoc X1547 N1545 gz1394
  refine aLw X1547 hx (hb hby at_223) (q := 225) rfl rfl rfl ?_
  refine bI X1547 hx (hb hby at_225) (q := 227) rfl (z := (24 : Int32)) rfl ?_
  refine bI X1547 hx (hb hby at_227) (q := 229) rfl (z := (105 : Int32)) rfl ?_
  have f1550 := f1548.trans (CHr.wr W1547 (Safe.arv hZ1352.alike V1545 (by decide)) f1548.1)
  refine g_stC X1547 hx hZ1352 V1547 (i := 24) (by decide) (by decide) (by decide) (Nat.le_of_ble_eq_true rfl) (y := (105 : Int32)) (by decide) e1547 (hb hby at_229) (q := 230) rfl ?_
  intro T1549 h1549 X1549 e1549 W1549 V1549
  have N1549 := Fr.snoc X1549 N1547 gz1394
  have Va1549 : Arv Z h1549 b1374 k1374 .char (34 : Int32) [(.int (chA p1)), (.int (chB p1)), (iv 58), (iv 32), (iv 100), (iv 117), (iv 112), (iv 108), (iv 105), (iv 99), (iv 97), (iv 116), (iv 101), (iv 32), (iv 105), (iv 100), (iv 32), (iv 34), (.int (chA p0)), (.int (chB p0)), (iv 34), (iv 44), (iv 32), (iv 102), (iv 105), (iv 0), (iv 0), (iv 0), (iv 0), (iv 0), (iv 0), (iv 0), (iv 0), (iv 0)] (.int 0) := V1549
  refine aLw X1549 hx (hb hby at_230) (q := 232) rfl rfl rfl ?_
  refine bI X1549 hx (hb hby at_232) (q := 234) rfl (z := (25 : Int32)) rfl ?_
  refine bI X1549 hx (hb hby at_234) (q := 236) rfl (z := (114 : Int32)) rfl ?_
  have f1552 := f1550.trans (CHr.wr W1549 (Safe.arv hZ1352.alike V1547 (by decide)) f1550.1)
  refine g_stC X1549 hx hZ1352 Va1549 (i := 25) (by decide) (by decide) (by decide) (Nat.le_of_ble_eq_true rfl) (y := (114 : Int32)) (by decide) e1549 (hb hby at_236) (q := 237) rfl ?_
  intro T1551 h1551 X1551 e1551 W1551 V1551
  have N1551 := Fr.snoc X1551 N1549 gz1394
  refine aLw X1551 hx (hb hby at_237) (q := 239) rfl rfl rfl ?_
  refine bI X1551 hx (hb hby at_239) (q := 241) rfl (z := (26 : Int32)) rfl ?_
  refine bI X1551 hx (hb hby at_241) (q := 243) rfl (z := (115 : Int32)) rfl ?_
  have f1554 := f1552.trans (CHr.wr W1551 (Safe.arv hZ1352.alike Va1549 (by decide)) f1552.1)
  refine g_stC X1551 hx hZ1352 V1551 (i := 26) (by decide) (by decide) (by decide) (Nat.le_of_ble_eq_true rfl) (y := (115 : Int32)) (by decide) e1551 (hb hby at_243) (q := 244) rfl ?_
  intro T1553 h1553 X1553 e1553 W1553 V1553
  have N1553 := Fr.snoc X1553 N1551 gz1394
  refine aLw X1553 hx (hb hby at_244) (q := 246) rfl rfl rfl ?_
  refine bI X1553 hx (hb hby at_246) (q := 248) rfl (z := (27 : Int32)) rfl ?_
  refine bI X1553 hx (hb hby at_248) (q := 250) rfl (z := (116 : Int32)) rfl ?_
  have f1556 := f1554.trans (CHr.wr W1553 (Safe.arv hZ1352.alike V1551 (by decide)) f1554.1)
  refine g_stC X1553 hx hZ1352 V1553 (i := 27) (by decide) (by decide) (by decide) (Nat.le_of_ble_eq_true rfl) (y := (116 : Int32)) (by decide) e1553 (hb hby at_250) (q := 251) rfl ?_
  intro T1555 h1555 X1555 e1555 W1555 V1555
  have N1555 := Fr.snoc X1555 N1553 gz1394
  refine aLw X1555 hx (hb hby at_251) (q := 253) rfl rfl rfl ?_
  refine bI X1555 hx (hb hby at_253) (q := 255) rfl (z := (28 : Int32)) rfl ?_
  refine bI X1555 hx (hb hby at_255) (q := 257) rfl (z := (32 : Int32)) rfl ?_
  have f1558 := f1556.trans (CHr.wr W1555 (Safe.arv hZ1352.alike V1553 (by decide)) f1556.1)
  refine g_stC X1555 hx hZ1352 V1555 (i := 28) (by decide) (by decide) (by decide) (Nat.le_of_ble_eq_true rfl) (y := (32 : Int32)) (by decide) e1555 (hb hby at_257) (q := 258) rfl ?_
  intro T1557 h1557 X1557 e1557 W1557 V1557
  have N1557 := Fr.snoc X1557 N1555 gz1394
  refine aLw X1557 hx (hb hby at_258) (q := 260) rfl rfl rfl ?_
  refine bI X1557 hx (hb hby at_260) (q := 262) rfl (z := (29 : Int32)) rfl ?_
  refine bI X1557 hx (hb hby at_262) (q := 264) rfl (z := (97 : Int32)) rfl ?_
  have f1560 := f1558.trans (CHr.wr W1557 (Safe.arv hZ1352.alike V1555 (by decide)) f1558.1)
  refine g_stC X1557 hx hZ1352 V1557 (i := 29) (by decide) (by decide) (by decide) (Nat.le_of_ble_eq_true rfl) (y := (97 : Int32)) (by decide) e1557 (hb hby at_264) (q := 265) rfl ?_
  intro T1559 h1559 X1559 e1559 W1559 V1559
  have N1559 := Fr.snoc X1559 N1557 gz1394
  have Va1559 : Arv Z h1559 b1374 k1374 .char (34 : Int32) [(.int (chA p1)), (.int (chB p1)), (iv 58), (iv 32), (iv 100), (iv 117), (iv 112), (iv 108), (iv 105), (iv 99), (iv 97), (iv 116), (iv 101), (iv 32), (iv 105), (iv 100), (iv 32), (iv 34), (.int (chA p0)), (.int (chB p0)), (iv 34), (iv 44), (iv 32), (iv 102), (iv 105), (iv 114), (iv 115), (iv 116), (iv 32), (iv 97), (iv 0), (iv 0), (iv 0), (iv 0)] (.int 0) := V1559
  refine aLw X1559 hx (hb hby at_265) (q := 267) rfl rfl rfl ?_
  refine bI X1559 hx (hb hby at_267) (q := 269) rfl (z := (30 : Int32)) rfl ?_
  refine bI X1559 hx (hb hby at_269) (q := 271) rfl (z := (116 : Int32)) rfl ?_
  have f1562 := f1560.trans (CHr.wr W1559 (Safe.arv hZ1352.alike V1557 (by decide)) f1560.1)
  refine g_stC X1559 hx hZ1352 Va1559 (i := 30) (by decide) (by decide) (by decide) (Nat.le_of_ble_eq_true rfl) (y := (116 : Int32)) (by decide) e1559 (hb hby at_271) (q := 272) rfl ?_
  intro T1561 h1561 X1561 e1561 W1561 V1561
  have N1561 := Fr.snoc X1561 N1559 gz1394
  refine aLw X1561 hx (hb hby at_272) (q := 274) rfl rfl rfl ?_
  refine bI X1561 hx (hb hby at_274) (q := 276) rfl (z := (31 : Int32)) rfl ?_
  refine bI X1561 hx (hb hby at_276) (q := 278) rfl (z := (32 : Int32)) rfl ?_
  have f1564 := f1562.trans (CHr.wr W1561 (Safe.arv hZ1352.alike Va1559 (by decide)) f1562.1)
  refine g_stC X1561 hx hZ1352 V1561 (i := 31) (by decide) (by decide) (by decide) (Nat.le_of_ble_eq_true rfl) (y := (32 : Int32)) (by decide) e1561 (hb hby at_278) (q := 279) rfl ?_
  intro T1563 h1563 X1563 e1563 W1563 V1563
  have N1563 := Fr.snoc X1563 N1561 gz1394
  refine aLw X1563 hx (hb hby at_279) (q := 281) rfl rfl rfl ?_
  refine bI X1563 hx (hb hby at_281) (q := 283) rfl (z := (32 : Int32)) rfl ?_
  refine aLw X1563 hx (hb hby at_283) (q := 285) rfl rfl rfl ?_
  refine cI X1563 hx (hb hby at_285) (q := 286) rfl (z := (0 : Int32)) rfl ?_
  have K1584 := K1495.wr W1517 (Or.inr (Nat.le_trans le1477 (Nat.le_of_eq g1374.symm)))
  have K1585 := K1584.wr W1539 (Or.inr (Nat.le_trans le1477 (Nat.le_of_eq g1374.symm)))
  have K1586 := K1585.wr W1541 (Or.inr (Nat.le_trans le1477 (Nat.le_of_eq g1374.symm)))
  have K1587 := K1586.wr W1543 (Or.inr (Nat.le_trans le1477 (Nat.le_of_eq g1374.symm)))
  have K1588 := K1587.wr W1545 (Or.inr (Nat.le_trans le1477 (Nat.le_of_eq g1374.symm)))
  have K1589 := K1588.wr W1547 (Or.inr (Nat.le_trans le1477 (Nat.le_of_eq g1374.symm)))
  have K1590 := K1589.wr W1549 (Or.inr (Nat.le_trans le1477 (Nat.le_of_eq g1374.symm)))
  have K1591 := K1590.wr W1551 (Or.inr (Nat.le_trans le1477 (Nat.le_of_eq g1374.symm)))
  have K1592 := K1591.wr W1553 (Or.inr (Nat.le_trans le1477 (Nat.le_of_eq g1374.symm)))
  have K1593 := K1592.wr W1555 (Or.inr (Nat.le_trans le1477 (Nat.le_of_eq g1374.symm)))
  have K1594 := K1593.wr W1557 (Or.inr (Nat.le_trans le1477 (Nat.le_of_eq g1374.symm)))
  have K1595 := K1594.wr W1559 (Or.inr (Nat.le_trans le1477 (Nat.le_of_eq g1374.symm)))
  have K1596 := K1595.wr W1561 (Or.inr (Nat.le_trans le1477 (Nat.le_of_eq g1374.symm)))
  have K1597 := K1596.wr W1563 (Or.inr (Nat.le_trans le1477 (Nat.le_of_eq g1374.symm)))
  have f1598 := q1335_0.keep K1597
  have f1599 := q1335_1.keep K1597 nin0
  have f1600 := q1335_2.keep K1597 nin0
  have f1601 := q1335_3.keep K1597 nin0
  have f1602 := f1538.wr W1539 gz1394
  have f1603 := f1602.wr W1541 gz1394
  have f1604 := f1603.wr W1543 gz1394
  have f1605 := f1604.wr W1545 gz1394
  have f1606 := f1605.wr W1547 gz1394
  have f1607 := f1606.wr W1549 gz1394
  have f1608 := f1607.wr W1551 gz1394
  have f1609 := f1608.wr W1553 gz1394
  have f1610 := f1609.wr W1555 gz1394
  have f1611 := f1610.wr W1557 gz1394
  have f1612 := f1611.wr W1559 gz1394
  have f1613 := f1612.wr W1561 gz1394
  have f1614 := f1613.wr W1563 gz1394
  refine g_vi X1563 hx hZ1352 hown1352 (wd233 hw) (wd234 hw) (notFace_of_selects (args := #[]) (mvT hZ1352 (wd236 hw))) (wd236 hw) (wd235 hw) (by decide) f1598 e1563 (Con.back (W := 2) (rm_sca0 l Z a0 hw zC vF G r_1335 t_1335 kt_1335 cd_1335 z_1335 vs_1335 (chA p2) (chB p2) h1563 f1614 f1598 f1599 f1600 f1601 q1335_4) hZ1352 (wd237 hw) (wd8 hw) (by decide) (by decide)) (by rw [hml]; rfl) (lenOf pd37 rfl) rfl (Nat.le_of_eq rfl) (hb hby at_286) (q := 289) rfl (by decide) (by decide) ?_
  intro v1583 T1583 L1583 X1583 Q1583
  obtain ⟨rfl, Nq1583, e1583⟩ := Q1583
  have N1583 := Fr.app N1563 Nq1583
  show Go _ _ _ _ (T1583.setTop (mkF m 289 #[.val (.int p0), .val (.int p1), .val (.int p2), .val (.ref r_1332), .val (.ref r_1333), .val (.ref r_1335), .val (.ref r_1352), .val (.ref ms_1352), .val (.ref b1374)] [(.int (chA p2)), (iv 32), (.ref b1374)]))
  have f1616 := f1564.trans (CHr.wr W1563 (Safe.arv hZ1352.alike V1561 (by decide)) f1564.1)
  refine g_stC X1583 hx hZ1352 V1563 (i := 32) (by decide) (by decide) (by decide) (Nat.le_of_ble_eq_true rfl) (y := (chA p2)) (nar_of (chA_rng _).1 (chA_rng _).2) e1583 (hb hby at_289) (q := 290) rfl ?_
  intro T1615 h1615 X1615 e1615 W1615 V1615
  have N1615 := Fr.snoc X1615 N1583 gz1394
  refine aLw X1615 hx (hb hby at_290) (q := 292) rfl rfl rfl ?_
  refine bI X1615 hx (hb hby at_292) (q := 294) rfl (z := (33 : Int32)) rfl ?_
  refine aLw X1615 hx (hb hby at_294) (q := 296) rfl rfl rfl ?_
  refine cI X1615 hx (hb hby at_296) (q := 297) rfl (z := (1 : Int32)) rfl ?_
  have f1624 := f1598.wr W1615
  have ne1625 : r_1335 ≠ b1374 := (Nat.ne_of_lt (Nat.lt_of_lt_of_le (Nat.lt_of_lt_of_le q1335_0.lt le1477) (Nat.le_of_eq g1374.symm)))
  have f1626 := f1599.other W1615 (Or.inl ne1625)
  have f1627 := f1600.other W1615 (Or.inl ne1625)
  have ne1628 : t_1335 ≠ b1374 := (Nat.ne_of_lt (Nat.lt_of_lt_of_le (Nat.lt_of_lt_of_le q1335_3.lt le1477) (Nat.le_of_eq g1374.symm)))
  have f1629 := f1601.other W1615 ne1628
  have f1630 := f1614.wr W1615 gz1394
  refine g_vi X1615 hx hZ1352 hown1352 (wd233 hw) (wd234 hw) (notFace_of_selects (args := #[]) (mvT hZ1352 (wd236 hw))) (wd236 hw) (wd235 hw) (by decide) f1624 e1615 (Con.back (W := 2) (rm_sca1 l Z a0 hw zC vF G r_1335 t_1335 kt_1335 cd_1335 z_1335 vs_1335 (chA p2) (chB p2) h1615 f1630 f1624 f1626 f1627 f1629 q1335_4) hZ1352 (wd237 hw) (wd8 hw) (by decide) (by decide)) (by rw [hml]; rfl) (lenOf pd37 rfl) rfl (Nat.le_of_eq rfl) (hb hby at_297) (q := 300) rfl (by decide) (by decide) ?_
  intro v1623 T1623 L1623 X1623 Q1623
  obtain ⟨rfl, Nq1623, e1623⟩ := Q1623
  have N1623 := Fr.app N1615 Nq1623
  show Go _ _ _ _ (T1623.setTop (mkF m 300 #[.val (.int p0), .val (.int p1), .val (.int p2), .val (.ref r_1332), .val (.ref r_1333), .val (.ref r_1335), .val (.ref r_1352), .val (.ref ms_1352), .val (.ref b1374)] [(.int (chB p2)), (iv 33), (.ref b1374)]))
  have f1632 := f1616.trans (CHr.wr W1615 (Safe.arv hZ1352.alike V1563 (by decide)) f1616.1)
  refine g_stC X1623 hx hZ1352 V1615 (i := 33) (by decide) (by decide) (by decide) (Nat.le_of_ble_eq_true rfl) (y := (chB p2)) (nar_of (chB_rng _).1 (chB_rng _).2) e1623 (hb hby at_300) (q := 301) rfl ?_
  intro T1631 h1631 X1631 e1631 W1631 V1631
  have N1631 := Fr.snoc X1631 N1623 gz1394
  refine g_new X1631 hx hZ1352 hown1352 (wd6 hw) (wd7 hw) (wd8 hw) (by decide) (by decide) e1631 (hb hby at_301) (q := 304) rfl ?_
  intro T1633 h1633 b1633 g1633 X1633 e1633 E1633 A1633 D1633
  have sf1634 : Safe Z EL T1352.vm h1631 b1633 := Safe.new (Nat.le_of_eq g1633.symm)
  have F1633_32 := D1633 (Or.inr (wd32 hw)) (ty := .byte) (by decide)
  have F1633_34 := D1633 (Or.inr (wd34 hw)) (ty := (.array .byte)) (by decide)
  refine g_dup X1633 hx (hb hby at_304) (q := 305) rfl rfl ?_
  refine aLw X1633 hx (hb hby at_305) (q := 307) rfl rfl rfl ?_
  rcases q1352_7 with ⟨hS, rfl, rfl, rfl⟩ | ⟨hS, rfl, rfl, rfl⟩
  · have hA : ALL ([(chA p1), (chB p1), (58 : Int32), (32 : Int32), (100 : Int32), (117 : Int32), (112 : Int32), (108 : Int32), (105 : Int32), (99 : Int32), (97 : Int32), (116 : Int32), (101 : Int32), (32 : Int32), (105 : Int32), (100 : Int32), (32 : Int32), (34 : Int32), (chA p0), (chB p0), (34 : Int32), (44 : Int32), (32 : Int32), (102 : Int32), (105 : Int32), (114 : Int32), (115 : Int32), (116 : Int32), (32 : Int32), (97 : Int32), (116 : Int32), (32 : Int32), (chA p2), (chB p2)] : List Int32) := hS
    have K1635 := (Keep.refl T1352.heap []).ext E1374
    have K1636 := K1635.wr W1393 (Or.inr (Nat.le_trans (Nat.le_refl _) (Nat.le_of_eq g1374.symm)))
    have K1637 := K1636.wr W1415 (Or.inr (Nat.le_trans (Nat.le_refl _) (Nat.le_of_eq g1374.symm)))
    have K1638 := K1637.wr W1417 (Or.inr (Nat.le_trans (Nat.le_refl _) (Nat.le_of_eq g1374.symm)))
    have K1639 := K1638.wr W1419 (Or.inr (Nat.le_trans (Nat.le_refl _) (Nat.le_of_eq g1374.symm)))
    have K1640 := K1639.wr W1421 (Or.inr (Nat.le_trans (Nat.le_refl _) (Nat.le_of_eq g1374.symm)))
    have K1641 := K1640.wr W1423 (Or.inr (Nat.le_trans (Nat.le_refl _) (Nat.le_of_eq g1374.symm)))
    have K1642 := K1641.wr W1425 (Or.inr (Nat.le_trans (Nat.le_refl _) (Nat.le_of_eq g1374.symm)))
    have K1643 := K1642.wr W1427 (Or.inr (Nat.le_trans (Nat.le_refl _) (Nat.le_of_eq g1374.symm)))
    have K1644 := K1643.wr W1429 (Or.inr (Nat.le_trans (Nat.le_refl _) (Nat.le_of_eq g1374.symm)))
    have K1645 := K1644.wr W1431 (Or.inr (Nat.le_trans (Nat.le_refl _) (Nat.le_of_eq g1374.symm)))
    have K1646 := K1645.wr W1433 (Or.inr (Nat.le_trans (Nat.le_refl _) (Nat.le_of_eq g1374.symm)))
    have K1647 := K1646.wr W1435 (Or.inr (Nat.le_trans (Nat.le_refl _) (Nat.le_of_eq g1374.symm)))
    have K1648 := K1647.wr W1437 (Or.inr (Nat.le_trans (Nat.le_refl _) (Nat.le_of_eq g1374.symm)))
    have K1649 := K1648.wr W1439 (Or.inr (Nat.le_trans (Nat.le_refl _) (Nat.le_of_eq g1374.symm)))
    have K1650 := K1649.wr W1441 (Or.inr (Nat.le_trans (Nat.le_refl _) (Nat.le_of_eq g1374.symm)))
    have K1651 := K1650.wr W1443 (Or.inr (Nat.le_trans (Nat.le_refl _) (Nat.le_of_eq g1374.symm)))
    have K1652 := K1651.wr W1445 (Or.inr (Nat.le_trans (Nat.le_refl _) (Nat.le_of_eq g1374.symm)))
    have K1653 := K1652.wr W1447 (Or.inr (Nat.le_trans (Nat.le_refl _) (Nat.le_of_eq g1374.symm)))
    have K1654 := K1653.wr W1517 (Or.inr (Nat.le_trans (Nat.le_refl _) (Nat.le_of_eq g1374.symm)))
    have K1655 := K1654.wr W1539 (Or.inr (Nat.le_trans (Nat.le_refl _) (Nat.le_of_eq g1374.symm)))
    have K1656 := K1655.wr W1541 (Or.inr (Nat.le_trans (Nat.le_refl _) (Nat.le_of_eq g1374.symm)))
    have K1657 := K1656.wr W1543 (Or.inr (Nat.le_trans (Nat.le_refl _) (Nat.le_of_eq g1374.symm)))
    have K1658 := K1657.wr W1545 (Or.inr (Nat.le_trans (Nat.le_refl _) (Nat.le_of_eq g1374.symm)))
    have K1659 := K1658.wr W1547 (Or.inr (Nat.le_trans (Nat.le_refl _) (Nat.le_of_eq g1374.symm)))
    have K1660 := K1659.wr W1549 (Or.inr (Nat.le_trans (Nat.le_refl _) (Nat.le_of_eq g1374.symm)))
    have K1661 := K1660.wr W1551 (Or.inr (Nat.le_trans (Nat.le_refl _) (Nat.le_of_eq g1374.symm)))
    have K1662 := K1661.wr W1553 (Or.inr (Nat.le_trans (Nat.le_refl _) (Nat.le_of_eq g1374.symm)))
    have K1663 := K1662.wr W1555 (Or.inr (Nat.le_trans (Nat.le_refl _) (Nat.le_of_eq g1374.symm)))
    have K1664 := K1663.wr W1557 (Or.inr (Nat.le_trans (Nat.le_refl _) (Nat.le_of_eq g1374.symm)))
    have K1665 := K1664.wr W1559 (Or.inr (Nat.le_trans (Nat.le_refl _) (Nat.le_of_eq g1374.symm)))
    have K1666 := K1665.wr W1561 (Or.inr (Nat.le_trans (Nat.le_refl _) (Nat.le_of_eq g1374.symm)))
    have K1667 := K1666.wr W1563 (Or.inr (Nat.le_trans (Nat.le_refl _) (Nat.le_of_eq g1374.symm)))
    have K1668 := K1667.wr W1615 (Or.inr (Nat.le_trans (Nat.le_refl _) (Nat.le_of_eq g1374.symm)))
    have K1669 := K1668.wr W1631 (Or.inr (Nat.le_trans (Nat.le_refl _) (Nat.le_of_eq g1374.symm)))
    have K1670 := K1669.ext E1633
    have f1671 := q1352_6.keep K1670 nin0
    have Vm : Arv Z h1633 c_1352 kc_1352 .byte (34 : Int32) [(.int (StrChars.lo8 (chA p1))), (.int (StrChars.lo8 (chB p1))), (iv 58), (iv 32), (iv 100), (iv 117), (iv 112), (iv 108), (iv 105), (iv 99), (iv 97), (iv 116), (iv 101), (iv 32), (iv 105), (iv 100), (iv 32), (iv 34), (.int (StrChars.lo8 (chA p0))), (.int (StrChars.lo8 (chB p0))), (iv 34), (iv 44), (iv 32), (iv 102), (iv 105), (iv 114), (iv 115), (iv 116), (iv 32), (iv 97), (iv 116), (iv 32), (.int (StrChars.lo8 (chA p2))), (.int (StrChars.lo8 (chB p2)))] (.int 0) := f1671
    show Go _ _ _ _ (T1633.setTop (mkF m 307 #[.val (.int p0), .val (.int p1), .val (.int p2), .val (.ref r_1332), .val (.ref r_1333), .val (.ref r_1335), .val (.ref r_1352), .val (.ref ms_1352), .val (.ref b1374)] [(.ref b1374), (.ref b1633), (.ref b1633)]))
    have f1673 := f1630.wr W1631 gz1394
    have f1674 := f1673.ext E1633
    have gz1675 : Z.heap.size ≤ b1633 := Nat.le_trans f1673.2.1 (Nat.le_of_eq g1633.symm)
    have f1676 := V1631.ext E1633
    refine g_sp X1633 hx hZ1352 hown1352 (wd9 hw) (wd10 hw) (wd11 hw) rfl (by decide) e1633 (StrChars.Road.backV (s := (s.setVm T1352.vm)) (W := 1) hZ1352 (own_wStr hw) (kI := 4) (wd7 hw) (cs := ([(chA p1), (chB p1), (58 : Int32), (32 : Int32), (100 : Int32), (117 : Int32), (112 : Int32), (108 : Int32), (105 : Int32), (99 : Int32), (97 : Int32), (116 : Int32), (101 : Int32), (32 : Int32), (105 : Int32), (100 : Int32), (32 : Int32), (34 : Int32), (chA p0), (chB p0), (34 : Int32), (44 : Int32), (32 : Int32), (102 : Int32), (105 : Int32), (114 : Int32), (115 : Int32), (116 : Int32), (32 : Int32), (97 : Int32), (116 : Int32), (32 : Int32), (chA p2), (chB p2)] : List Int32)) (bs := (([(chA p1), (chB p1), (58 : Int32), (32 : Int32), (100 : Int32), (117 : Int32), (112 : Int32), (108 : Int32), (105 : Int32), (99 : Int32), (97 : Int32), (116 : Int32), (101 : Int32), (32 : Int32), (105 : Int32), (100 : Int32), (32 : Int32), (34 : Int32), (chA p0), (chB p0), (34 : Int32), (44 : Int32), (32 : Int32), (102 : Int32), (105 : Int32), (114 : Int32), (115 : Int32), (116 : Int32), (32 : Int32), (97 : Int32), (116 : Int32), (32 : Int32), (chA p2), (chB p2)] : List Int32).map (fun c => c.toInt8.toInt32))) (n := 34) gz1675 f1674.2.1 A1633 F1633_34 F1633_32 f1676 (SC.ext f1674.2) PC rfl rfl (by decide) (by decide) hA rfl (by decide) (by decide)) (a := b1633) (argsL := [.ref b1374]) (W := 1) (nk := 1) (ns := 34) (Qc := StrChars.Road.QV Z b1633 (34 : Int32) (([(chA p1), (chB p1), (58 : Int32), (32 : Int32), (100 : Int32), (117 : Int32), (112 : Int32), (108 : Int32), (105 : Int32), (99 : Int32), (97 : Int32), (116 : Int32), (101 : Int32), (32 : Int32), (105 : Int32), (100 : Int32), (32 : Int32), (34 : Int32), (chA p0), (chB p0), (34 : Int32), (44 : Int32), (32 : Int32), (102 : Int32), (105 : Int32), (114 : Int32), (115 : Int32), (116 : Int32), (32 : Int32), (97 : Int32), (116 : Int32), (32 : Int32), (chA p2), (chB p2)] : List Int32).map (fun c => c.toInt8.toInt32)) h1633 Z.heap.size) (by rw [hml]; rfl) (lenOf pd32 rfl) rfl (Nat.le_of_eq rfl) (hb hby at_307) (q := 310) rfl (by decide) (by decide) ?_
    intro v1672 T1672 L1672 X1672 Q1672
    obtain ⟨rfl, Nq1672, K1672q, E1672q, C1672q, t1672, kb1672, tz1672, tg1672, tn1672, Fv1672, Va1672⟩ := Q1672
    have N1672 := Fr.app N1631 Nq1672
    have Vb1672 : Arv Z T1672.heap t1672 kb1672 .byte (34 : Int32) [(.int (StrChars.lo8 (chA p1))), (.int (StrChars.lo8 (chB p1))), (iv 58), (iv 32), (iv 100), (iv 117), (iv 112), (iv 108), (iv 105), (iv 99), (iv 97), (iv 116), (iv 101), (iv 32), (iv 105), (iv 100), (iv 32), (iv 34), (.int (StrChars.lo8 (chA p0))), (.int (StrChars.lo8 (chB p0))), (iv 34), (iv 44), (iv 32), (iv 102), (iv 105), (iv 114), (iv 115), (iv 116), (iv 32), (iv 97), (iv 116), (iv 32), (.int (StrChars.lo8 (chA p2))), (.int (StrChars.lo8 (chB p2)))] (.int 0) := Va1672
    show Go _ _ _ _ (T1672.setTop (mkF m 310 #[.val (.int p0), .val (.int p1), .val (.int p2), .val (.ref r_1332), .val (.ref r_1333), .val (.ref r_1335), .val (.ref r_1352), .val (.ref ms_1352), .val (.ref b1374)] [(.ref b1633)]))
    refine aLw X1672 hx (hb hby at_310) (q := 312) rfl rfl rfl ?_
    have le1720 := E1374.1
    have le1721 := (Nat.le_trans le1720 (Nat.le_of_eq (Wr.size W1393).symm))
    have le1722 := (Nat.le_trans le1721 (Nat.le_of_eq (Wr.size W1415).symm))
    have le1723 := (Nat.le_trans le1722 (Nat.le_of_eq (Wr.size W1417).symm))
    have le1724 := (Nat.le_trans le1723 (Nat.le_of_eq (Wr.size W1419).symm))
    have le1725 := (Nat.le_trans le1724 (Nat.le_of_eq (Wr.size W1421).symm))
    have le1726 := (Nat.le_trans le1725 (Nat.le_of_eq (Wr.size W1423).symm))
    have le1727 := (Nat.le_trans le1726 (Nat.le_of_eq (Wr.size W1425).symm))
    have le1728 := (Nat.le_trans le1727 (Nat.le_of_eq (Wr.size W1427).symm))
    have le1729 := (Nat.le_trans le1728 (Nat.le_of_eq (Wr.size W1429).symm))
    have le1730 := (Nat.le_trans le1729 (Nat.le_of_eq (Wr.size W1431).symm))
    have le1731 := (Nat.le_trans le1730 (Nat.le_of_eq (Wr.size W1433).symm))
    have le1732 := (Nat.le_trans le1731 (Nat.le_of_eq (Wr.size W1435).symm))
    have le1733 := (Nat.le_trans le1732 (Nat.le_of_eq (Wr.size W1437).symm))
    have le1734 := (Nat.le_trans le1733 (Nat.le_of_eq (Wr.size W1439).symm))
    have le1735 := (Nat.le_trans le1734 (Nat.le_of_eq (Wr.size W1441).symm))
    have le1736 := (Nat.le_trans le1735 (Nat.le_of_eq (Wr.size W1443).symm))
    have le1737 := (Nat.le_trans le1736 (Nat.le_of_eq (Wr.size W1445).symm))
    have le1738 := (Nat.le_trans le1737 (Nat.le_of_eq (Wr.size W1447).symm))
    have le1739 := (Nat.le_trans le1738 (Nat.le_of_eq (Wr.size W1517).symm))
    have le1740 := (Nat.le_trans le1739 (Nat.le_of_eq (Wr.size W1539).symm))
    have le1741 := (Nat.le_trans le1740 (Nat.le_of_eq (Wr.size W1541).symm))
    have le1742 := (Nat.le_trans le1741 (Nat.le_of_eq (Wr.size W1543).symm))
    have le1743 := (Nat.le_trans le1742 (Nat.le_of_eq (Wr.size W1545).symm))
    have le1744 := (Nat.le_trans le1743 (Nat.le_of_eq (Wr.size W1547).symm))
    have le1745 := (Nat.le_trans le1744 (Nat.le_of_eq (Wr.size W1549).symm))
    have le1746 := (Nat.le_trans le1745 (Nat.le_of_eq (Wr.size W1551).symm))
    have le1747 := (Nat.le_trans le1746 (Nat.le_of_eq (Wr.size W1553).symm))
    have le1748 := (Nat.le_trans le1747 (Nat.le_of_eq (Wr.size W1555).symm))
    have le1749 := (Nat.le_trans le1748 (Nat.le_of_eq (Wr.size W1557).symm))
    have le1750 := (Nat.le_trans le1749 (Nat.le_of_eq (Wr.size W1559).symm))
    have le1751 := (Nat.le_trans le1750 (Nat.le_of_eq (Wr.size W1561).symm))
    have le1752 := (Nat.le_trans le1751 (Nat.le_of_eq (Wr.size W1563).symm))
    have le1753 := (Nat.le_trans le1752 (Nat.le_of_eq (Wr.size W1615).symm))
    have le1754 := (Nat.le_trans le1753 (Nat.le_of_eq (Wr.size W1631).symm))
    have K1755 := K1670.trans K1672q (allS (Or.inr (Nat.le_trans le1754 (Nat.le_of_eq g1633.symm))) all0)
    have f1756 := q1352_3.keep K1755
    have f1757 := q1352_4.keep K1755 nin0
    have f1758 := q1352_5.keep K1755 nin0
    have ne1759 : c_1352 ≠ b1633 := (Nat.ne_of_lt (Nat.lt_of_lt_of_le (Nat.lt_of_lt_of_le q1352_6.lt le1754) (Nat.le_of_eq g1633.symm)))
    have f1760 := Vm.keep K1672q (ninS ne1759 nin0)
    have ne1761 : b1633 ≠ ms_1352 := (Nat.ne_of_gt (Nat.lt_of_lt_of_le (Nat.lt_of_lt_of_le q1352_3.lt le1754) (Nat.le_of_eq g1633.symm)))
    have f1762 := f1674.keep K1672q (allS gz1675 all0)
    refine g_vi X1672 hx hZ1352 hown1352 (wd255 hw) (wd256 hw) (notFace_of_selects (args := #[]) (mvT hZ1352 (wd258 hw))) (wd258 hw) (wd257 hw) (by decide) E1672q rfl (Con.back (W := 0) (rm_seq l Z a0 hw zC vF G b1633 t1672 kb1672 ms_1352 c_1352 kc_1352 (34 : Int32) [(.int (StrChars.lo8 (chA p1))), (.int (StrChars.lo8 (chB p1))), (iv 58), (iv 32), (iv 100), (iv 117), (iv 112), (iv 108), (iv 105), (iv 99), (iv 97), (iv 116), (iv 101), (iv 32), (iv 105), (iv 100), (iv 32), (iv 34), (.int (StrChars.lo8 (chA p0))), (.int (StrChars.lo8 (chB p0))), (iv 34), (iv 44), (iv 32), (iv 102), (iv 105), (iv 114), (iv 115), (iv 116), (iv 32), (iv 97), (iv 116), (iv 32), (.int (StrChars.lo8 (chA p2))), (.int (StrChars.lo8 (chB p2)))] T1672.heap f1762 E1672q C1672q Fv1672 Vb1672 f1756 f1757 f1758 f1760 ne1761) hZ1352 (wd259 hw) (wd8 hw) (by decide) (by decide)) (by rw [hml]; rfl) (lenOf pd38 rfl) rfl (Nat.le_of_eq rfl) (hb hby at_312) (q := 315) rfl (by decide) (by decide) ?_
    intro v1719 T1719 L1719 X1719 Q1719
    obtain ⟨rfl, Nq1719, e1719⟩ := Q1719
    have N1719 := Fr.app N1672 Nq1719
    show Go _ _ _ _ (T1719.setTop (mkF m 315 #[.val (.int p0), .val (.int p1), .val (.int p2), .val (.ref r_1332), .val (.ref r_1333), .val (.ref r_1335), .val (.ref r_1352), .val (.ref ms_1352), .val (.ref b1374)] [(iv 1)]))
    have le1763 := (Nat.le_trans le1754 E1633.1)
    have le1764 := (Nat.le_trans le1763 K1672q.1)
    have f1765 := f1632.trans (CHr.wr W1631 (Safe.arv hZ1352.alike V1615 (by decide)) f1632.1)
    have f1766 := f1765.trans (CHr.ext E1633 f1765.1)
    have f1767 := Safe.ext E1633 f1765.1 sf1634
    have f1768 := f1766.trans (CHr.keep K1672q (sfS f1767 sf0) f1766.1)
    refine endC X1719 hlk hS1352 (by rw [e1719]; exact (Nat.le_trans (Nat.le_refl _) le1764)) hZ1352 (own_EW hw) (by rw [e1719]; exact f1768) (fun h => by rw [hret] at h; cases h) (lastN X1719 hx (t := .boolean) (z' := (1 : Int32)) hret (by simp) (by decide) (hb hby at_315)) ?_ (by decide) (by decide)
    rw [e1719]
    exact ⟨rfl, N1719, trivial⟩
  · have hW : WD ([(chA p1), (chB p1), (58 : Int32), (32 : Int32), (100 : Int32), (117 : Int32), (112 : Int32), (108 : Int32), (105 : Int32), (99 : Int32), (97 : Int32), (116 : Int32), (101 : Int32), (32 : Int32), (105 : Int32), (100 : Int32), (32 : Int32), (34 : Int32), (chA p0), (chB p0), (34 : Int32), (44 : Int32), (32 : Int32), (102 : Int32), (105 : Int32), (114 : Int32), (115 : Int32), (116 : Int32), (32 : Int32), (97 : Int32), (116 : Int32), (32 : Int32), (chA p2), (chB p2)] : List Int32) := hS
    have K1769 := (Keep.refl T1352.heap []).ext E1374
    have K1770 := K1769.wr W1393 (Or.inr (Nat.le_trans (Nat.le_refl _) (Nat.le_of_eq g1374.symm)))
    have K1771 := K1770.wr W1415 (Or.inr (Nat.le_trans (Nat.le_refl _) (Nat.le_of_eq g1374.symm)))
    have K1772 := K1771.wr W1417 (Or.inr (Nat.le_trans (Nat.le_refl _) (Nat.le_of_eq g1374.symm)))
    have K1773 := K1772.wr W1419 (Or.inr (Nat.le_trans (Nat.le_refl _) (Nat.le_of_eq g1374.symm)))
    have K1774 := K1773.wr W1421 (Or.inr (Nat.le_trans (Nat.le_refl _) (Nat.le_of_eq g1374.symm)))
    have K1775 := K1774.wr W1423 (Or.inr (Nat.le_trans (Nat.le_refl _) (Nat.le_of_eq g1374.symm)))
    have K1776 := K1775.wr W1425 (Or.inr (Nat.le_trans (Nat.le_refl _) (Nat.le_of_eq g1374.symm)))
    have K1777 := K1776.wr W1427 (Or.inr (Nat.le_trans (Nat.le_refl _) (Nat.le_of_eq g1374.symm)))
    have K1778 := K1777.wr W1429 (Or.inr (Nat.le_trans (Nat.le_refl _) (Nat.le_of_eq g1374.symm)))
    have K1779 := K1778.wr W1431 (Or.inr (Nat.le_trans (Nat.le_refl _) (Nat.le_of_eq g1374.symm)))
    have K1780 := K1779.wr W1433 (Or.inr (Nat.le_trans (Nat.le_refl _) (Nat.le_of_eq g1374.symm)))
    have K1781 := K1780.wr W1435 (Or.inr (Nat.le_trans (Nat.le_refl _) (Nat.le_of_eq g1374.symm)))
    have K1782 := K1781.wr W1437 (Or.inr (Nat.le_trans (Nat.le_refl _) (Nat.le_of_eq g1374.symm)))
    have K1783 := K1782.wr W1439 (Or.inr (Nat.le_trans (Nat.le_refl _) (Nat.le_of_eq g1374.symm)))
    have K1784 := K1783.wr W1441 (Or.inr (Nat.le_trans (Nat.le_refl _) (Nat.le_of_eq g1374.symm)))
    have K1785 := K1784.wr W1443 (Or.inr (Nat.le_trans (Nat.le_refl _) (Nat.le_of_eq g1374.symm)))
    have K1786 := K1785.wr W1445 (Or.inr (Nat.le_trans (Nat.le_refl _) (Nat.le_of_eq g1374.symm)))
    have K1787 := K1786.wr W1447 (Or.inr (Nat.le_trans (Nat.le_refl _) (Nat.le_of_eq g1374.symm)))
    have K1788 := K1787.wr W1517 (Or.inr (Nat.le_trans (Nat.le_refl _) (Nat.le_of_eq g1374.symm)))
    have K1789 := K1788.wr W1539 (Or.inr (Nat.le_trans (Nat.le_refl _) (Nat.le_of_eq g1374.symm)))
    have K1790 := K1789.wr W1541 (Or.inr (Nat.le_trans (Nat.le_refl _) (Nat.le_of_eq g1374.symm)))
    have K1791 := K1790.wr W1543 (Or.inr (Nat.le_trans (Nat.le_refl _) (Nat.le_of_eq g1374.symm)))
    have K1792 := K1791.wr W1545 (Or.inr (Nat.le_trans (Nat.le_refl _) (Nat.le_of_eq g1374.symm)))
    have K1793 := K1792.wr W1547 (Or.inr (Nat.le_trans (Nat.le_refl _) (Nat.le_of_eq g1374.symm)))
    have K1794 := K1793.wr W1549 (Or.inr (Nat.le_trans (Nat.le_refl _) (Nat.le_of_eq g1374.symm)))
    have K1795 := K1794.wr W1551 (Or.inr (Nat.le_trans (Nat.le_refl _) (Nat.le_of_eq g1374.symm)))
    have K1796 := K1795.wr W1553 (Or.inr (Nat.le_trans (Nat.le_refl _) (Nat.le_of_eq g1374.symm)))
    have K1797 := K1796.wr W1555 (Or.inr (Nat.le_trans (Nat.le_refl _) (Nat.le_of_eq g1374.symm)))
    have K1798 := K1797.wr W1557 (Or.inr (Nat.le_trans (Nat.le_refl _) (Nat.le_of_eq g1374.symm)))
    have K1799 := K1798.wr W1559 (Or.inr (Nat.le_trans (Nat.le_refl _) (Nat.le_of_eq g1374.symm)))
    have K1800 := K1799.wr W1561 (Or.inr (Nat.le_trans (Nat.le_refl _) (Nat.le_of_eq g1374.symm)))
    have K1801 := K1800.wr W1563 (Or.inr (Nat.le_trans (Nat.le_refl _) (Nat.le_of_eq g1374.symm)))
    have K1802 := K1801.wr W1615 (Or.inr (Nat.le_trans (Nat.le_refl _) (Nat.le_of_eq g1374.symm)))
    have K1803 := K1802.wr W1631 (Or.inr (Nat.le_trans (Nat.le_refl _) (Nat.le_of_eq g1374.symm)))
    have K1804 := K1803.ext E1633
    have f1805 := q1352_6.keep K1804 nin0
    have Vm : Arv Z h1633 c_1352 kc_1352 .byte (68 : Int32) (flat ([(chA p1), (chB p1), (58 : Int32), (32 : Int32), (100 : Int32), (117 : Int32), (112 : Int32), (108 : Int32), (105 : Int32), (99 : Int32), (97 : Int32), (116 : Int32), (101 : Int32), (32 : Int32), (105 : Int32), (100 : Int32), (32 : Int32), (34 : Int32), (chA p0), (chB p0), (34 : Int32), (44 : Int32), (32 : Int32), (102 : Int32), (105 : Int32), (114 : Int32), (115 : Int32), (116 : Int32), (32 : Int32), (97 : Int32), (116 : Int32), (32 : Int32), (chA p2), (chB p2)] : List Int32)) (.int 0) := f1805
    show Go _ _ _ _ (T1633.setTop (mkF m 307 #[.val (.int p0), .val (.int p1), .val (.int p2), .val (.ref r_1332), .val (.ref r_1333), .val (.ref r_1335), .val (.ref r_1352), .val (.ref ms_1352), .val (.ref b1374)] [(.ref b1374), (.ref b1633), (.ref b1633)]))
    have f1813 := f1630.wr W1631 gz1394
    have gz1812 : Z.heap.size ≤ b1633 := Nat.le_trans f1813.2.1 (Nat.le_of_eq g1633.symm)
    have f1814 := V1631.ext E1633
    have f1815 := f1813.ext E1633
    have f1816 := f1632.trans (CHr.wr W1631 (Safe.arv hZ1352.alike V1615 (by decide)) f1632.1)
    have f1817 := Safe.ext E1633 f1816.1 sf1634
    refine g_sp X1633 hx hZ1352 hown1352 (wd9 hw) (wd10 hw) (wd11 hw) rfl (by decide) e1633 (Con.back (W := 1) (rm_new1w34 l Z a0 hw zC vF G b1633 b1374 k1374 ([(chA p1), (chB p1), (58 : Int32), (32 : Int32), (100 : Int32), (117 : Int32), (112 : Int32), (108 : Int32), (105 : Int32), (99 : Int32), (97 : Int32), (116 : Int32), (101 : Int32), (32 : Int32), (105 : Int32), (100 : Int32), (32 : Int32), (34 : Int32), (chA p0), (chB p0), (34 : Int32), (44 : Int32), (32 : Int32), (102 : Int32), (105 : Int32), (114 : Int32), (115 : Int32), (116 : Int32), (32 : Int32), (97 : Int32), (116 : Int32), (32 : Int32), (chA p2), (chB p2)] : List Int32) h1633 f1815 A1633 F1633_34 F1633_32 gz1812 f1814 rfl hW) hZ1352 (wd11 hw) (wd8 hw) (by decide) (by decide)) (by rw [hml]; rfl) (lenOf pd32 rfl) rfl (Nat.le_of_eq rfl) (hb hby at_307) (q := 310) rfl (by decide) (by decide) ?_
    intro v1811 T1811 L1811 X1811 Q1811
    obtain ⟨t_1811, kb_1811, rfl, Nq1811, K1811q, q1811_0, q1811_1, q1811_2, q1811_3, q1811_4⟩ := Q1811
    have N1811 := Fr.app N1631 Nq1811
    show Go _ _ _ _ (T1811.setTop (mkF m 310 #[.val (.int p0), .val (.int p1), .val (.int p2), .val (.ref r_1332), .val (.ref r_1333), .val (.ref r_1335), .val (.ref r_1352), .val (.ref ms_1352), .val (.ref b1374)] [(.ref b1633)]))
    refine aLw X1811 hx (hb hby at_310) (q := 312) rfl rfl rfl ?_
    have le1861 := E1374.1
    have le1862 := (Nat.le_trans le1861 (Nat.le_of_eq (Wr.size W1393).symm))
    have le1863 := (Nat.le_trans le1862 (Nat.le_of_eq (Wr.size W1415).symm))
    have le1864 := (Nat.le_trans le1863 (Nat.le_of_eq (Wr.size W1417).symm))
    have le1865 := (Nat.le_trans le1864 (Nat.le_of_eq (Wr.size W1419).symm))
    have le1866 := (Nat.le_trans le1865 (Nat.le_of_eq (Wr.size W1421).symm))
    have le1867 := (Nat.le_trans le1866 (Nat.le_of_eq (Wr.size W1423).symm))
    have le1868 := (Nat.le_trans le1867 (Nat.le_of_eq (Wr.size W1425).symm))
    have le1869 := (Nat.le_trans le1868 (Nat.le_of_eq (Wr.size W1427).symm))
    have le1870 := (Nat.le_trans le1869 (Nat.le_of_eq (Wr.size W1429).symm))
    have le1871 := (Nat.le_trans le1870 (Nat.le_of_eq (Wr.size W1431).symm))
    have le1872 := (Nat.le_trans le1871 (Nat.le_of_eq (Wr.size W1433).symm))
    have le1873 := (Nat.le_trans le1872 (Nat.le_of_eq (Wr.size W1435).symm))
    have le1874 := (Nat.le_trans le1873 (Nat.le_of_eq (Wr.size W1437).symm))
    have le1875 := (Nat.le_trans le1874 (Nat.le_of_eq (Wr.size W1439).symm))
    have le1876 := (Nat.le_trans le1875 (Nat.le_of_eq (Wr.size W1441).symm))
    have le1877 := (Nat.le_trans le1876 (Nat.le_of_eq (Wr.size W1443).symm))
    have le1878 := (Nat.le_trans le1877 (Nat.le_of_eq (Wr.size W1445).symm))
    have le1879 := (Nat.le_trans le1878 (Nat.le_of_eq (Wr.size W1447).symm))
    have le1880 := (Nat.le_trans le1879 (Nat.le_of_eq (Wr.size W1517).symm))
    have le1881 := (Nat.le_trans le1880 (Nat.le_of_eq (Wr.size W1539).symm))
    have le1882 := (Nat.le_trans le1881 (Nat.le_of_eq (Wr.size W1541).symm))
    have le1883 := (Nat.le_trans le1882 (Nat.le_of_eq (Wr.size W1543).symm))
    have le1884 := (Nat.le_trans le1883 (Nat.le_of_eq (Wr.size W1545).symm))
    have le1885 := (Nat.le_trans le1884 (Nat.le_of_eq (Wr.size W1547).symm))
    have le1886 := (Nat.le_trans le1885 (Nat.le_of_eq (Wr.size W1549).symm))
    have le1887 := (Nat.le_trans le1886 (Nat.le_of_eq (Wr.size W1551).symm))
    have le1888 := (Nat.le_trans le1887 (Nat.le_of_eq (Wr.size W1553).symm))
    have le1889 := (Nat.le_trans le1888 (Nat.le_of_eq (Wr.size W1555).symm))
    have le1890 := (Nat.le_trans le1889 (Nat.le_of_eq (Wr.size W1557).symm))
    have le1891 := (Nat.le_trans le1890 (Nat.le_of_eq (Wr.size W1559).symm))
    have le1892 := (Nat.le_trans le1891 (Nat.le_of_eq (Wr.size W1561).symm))
    have le1893 := (Nat.le_trans le1892 (Nat.le_of_eq (Wr.size W1563).symm))
    have le1894 := (Nat.le_trans le1893 (Nat.le_of_eq (Wr.size W1615).symm))
    have le1895 := (Nat.le_trans le1894 (Nat.le_of_eq (Wr.size W1631).symm))
    have K1896 := K1804.trans K1811q (allS (Or.inr (Nat.le_trans le1895 (Nat.le_of_eq g1633.symm))) all0)
    have f1897 := q1352_3.keep K1896
    have f1898 := q1352_4.keep K1896 nin0
    have f1899 := q1352_5.keep K1896 nin0
    have ne1900 : c_1352 ≠ b1633 := (Nat.ne_of_lt (Nat.lt_of_lt_of_le (Nat.lt_of_lt_of_le q1352_6.lt le1895) (Nat.le_of_eq g1633.symm)))
    have f1901 := Vm.keep K1811q (ninS ne1900 nin0)
    have ne1902 : b1633 ≠ ms_1352 := (Nat.ne_of_gt (Nat.lt_of_lt_of_le (Nat.lt_of_lt_of_le q1352_3.lt le1895) (Nat.le_of_eq g1633.symm)))
    have f1903 := f1815.keep K1811q (allS gz1812 all0)
    refine g_vi X1811 hx hZ1352 hown1352 (wd255 hw) (wd256 hw) (notFace_of_selects (args := #[]) (mvT hZ1352 (wd258 hw))) (wd258 hw) (wd257 hw) (by decide) q1811_1 rfl (Con.back (W := 0) (rm_seq1 l Z a0 hw zC vF G b1633 t_1811 kb_1811 ms_1352 c_1352 kc_1352 (68 : Int32) (flat ([(chA p1), (chB p1), (58 : Int32), (32 : Int32), (100 : Int32), (117 : Int32), (112 : Int32), (108 : Int32), (105 : Int32), (99 : Int32), (97 : Int32), (116 : Int32), (101 : Int32), (32 : Int32), (105 : Int32), (100 : Int32), (32 : Int32), (34 : Int32), (chA p0), (chB p0), (34 : Int32), (44 : Int32), (32 : Int32), (102 : Int32), (105 : Int32), (114 : Int32), (115 : Int32), (116 : Int32), (32 : Int32), (97 : Int32), (116 : Int32), (32 : Int32), (chA p2), (chB p2)] : List Int32)) T1811.heap f1903 q1811_1 q1811_3 q1811_2 q1811_4 f1897 f1898 f1899 f1901 ne1902) hZ1352 (wd259 hw) (wd8 hw) (by decide) (by decide)) (by rw [hml]; rfl) (lenOf pd38 rfl) rfl (Nat.le_of_eq rfl) (hb hby at_312) (q := 315) rfl (by decide) (by decide) ?_
    intro v1860 T1860 L1860 X1860 Q1860
    obtain ⟨rfl, Nq1860, e1860⟩ := Q1860
    have N1860 := Fr.app N1811 Nq1860
    show Go _ _ _ _ (T1860.setTop (mkF m 315 #[.val (.int p0), .val (.int p1), .val (.int p2), .val (.ref r_1332), .val (.ref r_1333), .val (.ref r_1335), .val (.ref r_1352), .val (.ref ms_1352), .val (.ref b1374)] [(iv 1)]))
    have le1904 := (Nat.le_trans le1895 E1633.1)
    have le1905 := (Nat.le_trans le1904 K1811q.1)
    have f1906 := f1816.trans (CHr.ext E1633 f1816.1)
    have f1907 := f1906.trans (CHr.keep K1811q (sfS f1817 sf0) f1906.1)
    refine endC X1860 hlk hS1352 (by rw [e1860]; exact (Nat.le_trans (Nat.le_refl _) le1905)) hZ1352 (own_EW hw) (by rw [e1860]; exact f1907) (fun h => by rw [hret] at h; cases h) (lastN X1860 hx (t := .boolean) (z' := (1 : Int32)) hret (by simp) (by decide) (hb hby at_315)) ?_ (by decide) (by decide)
    rw [e1860]
    exact ⟨rfl, N1860, trivial⟩
theorem own_len0 {s : State} {args : Array Value} {t : Term} {a : Addr} {c : Cell} {ty : FieldType} (hf : Fit s) (ev : t.eval args s none [] s = some (.ref a)) (A : Arr s s.heap a c ty) (h : (Jvm.Cond.eq (Term.length t) (Term.int (0 : Int32))).value args s none s [] = some true) : Arv s s.heap a c.cls ty (0 : Int32) [] .null := by
  have hA := A.fin (Vm.Alike.refl _)
  obtain ⟨xv, yv, e1, e2, -, -⟩ := cmp_v (Or.inl h)
  have hlt : c.slots.size < 2 ^ 31 := by
    by_cases hq : c.slots.size < 2 ^ 31
    · exact hq
    · simp [Term.eval, ev, hA, hq] at e1
  have e3 := len_f ev hA hlt
  have h0 := gotT (Cond.eq_ints e3 (Term.int_eval (0))) h
  exact Arv.start hf A hlt h0 (by decide) (by decide) trivial
theorem own_fld0 {s : State} {args : Array Value} {t : Term} {a : Addr} {C n d : String} {k : Int32} (ev : t.eval args s none [] s = some (.ref a)) (h : (Jvm.Cond.eq (Term.field t C n d) (Term.int k)).value args s none s [] = some true) : Fld s s.heap a C n d (.int k) := by
  obtain ⟨xv, yv, e1, e2, k1, k2⟩ := cmp_v (Or.inl h)
  cases (Term.int_eval k).symm.trans e2
  obtain ⟨z, rfl⟩ := k2
  have h0 := gotT (Cond.eq_ints e1 (Term.int_eval k)) h
  subst h0
  exact Fld.start ((fld_at ev).symm.trans e1)
theorem own_sta {s : State} {args : Array Value} {C n d : String} {k : Int32} (h : (Jvm.Cond.eq (Term.static C n d) (Term.int k)).before args s = true) (w : (Jvm.Cond.initializedFor C n d).before args s = true) : Sta s s.heap C n d (.int k) := by
  have h := Cond.before_iff.mp h
  obtain ⟨xv, yv, e1, e2, k1, k2⟩ := cmp_v (Or.inl h)
  cases (Term.int_eval k).symm.trans e2
  obtain ⟨z, rfl⟩ := k2
  have h0 := gotT (Cond.eq_ints e1 (Term.int_eval k)) h
  subst h0
  exact Sta.start e1 (Or.inl w)
theorem comes_1 {Post : Tables → Env → Array Value → State → Outcome → State → Prop} (hpost : ∀ tb e args s v u, (limb_1_1.after args s (.returned v) u = true ∧ limb_1_2.after args s (.returned v) u = true) → ReturnedEndW s (.returned v) u (Jvm.fieldLocs frame_1_writes args s ++ Jvm.arrayLocs frame_1_arrays args s ++ Jvm.staticLocs frame_1_statics s) 64 8384 → Post tb e args s (.returned v) u) :
    ArmFor flags0 classFile x code maxLocals ret World_1 tables_1 room_1 Calls_1 rest_1 Pre_1 Post := by
  intro l hfl _ _ p e ha hc hk s m args below hf hA hF happ hP
  obtain ⟨hcalls, hrest, hpre⟩ := hP
  obtain ⟨-, -, -, hnamed, -, -, -, hat⟩ := (Spec.applies_iff hf).mp happ
  obtain ⟨hg, hn⟩ := and_e (Cond.before_iff.mp (show (Jvm.Cond.and given_1 narrow_1).before args s = true from hpre))
  obtain ⟨g0, r0⟩ := and_e hg
  obtain ⟨i0, r1⟩ := and_e r0
  obtain ⟨i1, r2⟩ := and_e r1
  obtain ⟨w0, w1, w2, rfl⟩ : ∃ w0 w1 w2 : Value, args = #[w0, w1, w2] := by
    have hs : args.size = 3 := by simpa [Cond.value, given_1] using g0
    obtain ⟨L⟩ := args
    match L, hs with
    | [w0, w1, w2], _ => exact ⟨w0, w1, w2, rfl⟩
  have hw := fun d (hd : d ∈ tables_1) => atoms_spec (ws := Jvm.Cond.code x code maxLocals ret :: tables_1) hat d (List.mem_cons_of_mem _ hd)
  obtain ⟨hsets, hown0⟩ := atoms_of _ (rest_1_c_eq ▸ (show rest_1_c.before _ s = true from hrest))
  have hfit : Fit s := fun {y c} hc i hi => by
    obtain ⟨ha, rfl⟩ := Array.getElem?_eq_some_iff.mp hc
    have q := List.all_eq_true.mp ((Array.all_eq_true_iff_forall_mem.mp hF) _ (Array.getElem_mem ha)) i (List.mem_range.mpr hi)
    simpa [Array.getElem?_eq_getElem hi] using q
  obtain ⟨z0, q0⟩ := is_v i0
  obtain rfl : w0 = (.int z0) := Option.some.inj q0
  obtain ⟨z1, q1⟩ := is_v i1
  obtain rfl : w1 = (.int z1) := Option.some.inj q1
  obtain ⟨z2, q2⟩ := is_v r2
  obtain rfl : w2 = (.int z2) := Option.some.inj q2
  have n5 := not_v (Cond.before_iff.mp (hsets _ (List.mem_of_getElem? (i := 2) rfl)))
  obtain ⟨zC, ezC⟩ := is_v (Cond.before_iff.mp (hsets _ (List.mem_of_getElem? (i := 1) rfl)))
  have SC : Sta s s.heap sT1 "COMPACT_STRINGS" "Z" (.int zC) := Sta.start ezC (Or.inl (hsets _ (List.mem_of_getElem? (i := 0) rfl)))
  have PC : ¬ (zC = (0 : Int32)) := gotF (Cond.eq_ints ezC (Term.int_eval (0))) n5
  obtain ⟨vF, evF, rF0⟩ := isR_v (Cond.before_iff.mp (hsets _ (List.mem_of_getElem? (i := 8) rfl)))
  have rF := ref_cases rF0
  have SF : Sta s s.heap "jdk/internal/util/Preconditions" "SIOOBE_FORMATTER" "Ljava/util/function/BiFunction;" vF := Sta.start evF (Or.inl (hsets _ (List.mem_of_getElem? (i := 7) rfl)))
  have SA := own_sta (hsets _ (List.mem_of_getElem? (i := 32) rfl)) (hsets _ (List.mem_of_getElem? (i := 31) rfl))
  have SH := own_sta (hsets _ (List.mem_of_getElem? (i := 35) rfl)) (hsets _ (List.mem_of_getElem? (i := 34) rfl))
  have SL := own_sta (hsets _ (List.mem_of_getElem? (i := 38) rfl)) (hsets _ (List.mem_of_getElem? (i := 37) rfl))
  have hl : l.stackTraces = true := by unfold Launch.stackTraces; rw [hfl]; decide
  have hall : ∀ d, d ∈ tables_1 ∨ d ∈ jdkStatics_1 → d.before _ s = true := fun d q => q.elim (hw d) (fun z => hsets d z)
  have h2 : ∀ d ∈ Jvm.RoadKit.twoRefs, d.before _ s = true := fun d q => hall d ((by decide +kernel : ∀ d ∈ Jvm.RoadKit.twoRefs, d ∈ tables_1 ∨ d ∈ jdkStatics_1) d q)
  have hX0 : ∀ d ∈ fillAtoms sT4, d.before _ s = true := fun d q => hall d ((by decide +kernel : ∀ d ∈ fillAtoms sT4, d ∈ tables_1 ∨ d ∈ jdkStatics_1) d q)
  have hX := And.intro hX0 (thst_of hX0 h2)
  have hCH : CHv s EL s.vm s.heap := CHv.start (own_EW hw) hcalls.2.2.1 (hsets _ (List.mem_of_getElem? (i := 2) rfl)) (wd24 hw) (wd7 hw)
  obtain ⟨n, o, h1, h2, h3, _, L, rfl, hq1, -, hq⟩ := rm_law l s _ hw zC vF ⟨hl, SC, PC, rF, SF, SA, SH, SL, hX⟩ z0 z1 z2  s.heap (Old.start s) ThS.start tables_1 p e ha hc hk s m _ below hf ((Spec.applies_iff_loose hf).mp happ).1 ⟨rfl, State.Warmed39.refl s, rfl, hCH, fun _ q => nomatch q⟩ ⟨MethodsKnown_of_tablesKnown hcalls.2.1, FramesKnown_of_framesKnown hcalls.1 hf⟩
  obtain ⟨rfl, N, -⟩ := hq1
  exact ⟨n, _, h1, h2, h3, hpost _ _ _ _ _ _ ⟨Cond.after_iff.mpr rfl, Cond.after_iff.mpr (eq_i res_at (Term.int_eval (1)) rfl)⟩ ⟨hq.1, hq.2.1, hq.2.2.1, hq.2.2.2.sift fun y hy => Or.inr (N y hy)⟩⟩
theorem main_1_1 : Claimed_1_1 := comes_1 fun _ _ _ _ _ _ h hF => ⟨h.1, hF⟩
theorem main_1_2 : Claimed_1_2 := comes_1 fun _ _ _ _ _ _ h hF => ⟨h.2, hF⟩
end Jvm.Pilot.@@N@@
namespace Jvm.Pilot.@@N@@
open Jvm Jvm.ClassFile Sem Op Lib Jvm.Free Jvm.Stand Jvm.Pilot.@@N@@.Jvm.D
/-! MADE BY PROGRAM (witnessworld.py) out of the Statement's table words and the real class files: 42 classes; the members and pool entries that the words name. The judged class is class 1, her method 1. -/
namespace start1
open Jvm.ClassFile
def u (s : String) : CpInfo := .utf8 (stringToUtf16 s)
/-- a pool by its gaps: so many unusable entries, then the entry; so many at the end -/
def gap : Nat → List CpInfo → List CpInfo
  | 0, r => r
  | n + 1, r => .unusable :: gap n r
def poolList (es : List (Nat × CpInfo)) (last : Nat) : List CpInfo := es.foldr (fun e r => gap e.1 (e.2 :: r)) (gap last [])
def pool (es : List (Nat × CpInfo)) (last : Nat) : Array CpInfo := ⟨poolList es last⟩
def fileOf (pool : Array CpInfo) (this : Nat) (attrs : Array Attribute := #[]) (ms : Array MethodInfo := #[]) (fl : Nat := 33) (sup : Nat := 0) (ifs : Array Nat := #[]) (fds : Array FieldInfo := #[]) : ClassFile where
  minorVersion := 0
  majorVersion := 65
  constantPool := pool
  accessFlags := fl
  thisClass := this
  superClass := sup
  interfaces := ifs
  fields := fds
  methods := ms
  attributes := attrs
def plain (name : String) (sup : Option ClassId) : Class where
  name := name
  kind := .ordinary
  loader := none
  accessFlags := 33
  super := sup
  interfaces := #[]
  cf := none
  fields := #[]
  methods := #[]
  instanceTypes := #[]
  staticTypes := #[]
  resolved := #[]
  callSites := []
  init := .initialized
  statics := none
  mirror := none

def pool0 : Array CpInfo := pool [(5, u "<init>"), (0, u "()V"), (1, .class_ 10), (1, u "java/lang/Object"), (85, u "clone"), (0, u "()Ljava/lang/Object;")] 26

def k0c0 : Code := { maxStack := 0, maxLocals := 1, code := object_method_1_code, exceptionTable := #[], attributes := #[] }
def k0m0 : Method := { name := "<init>", desc := "()V", sig := { parameters := [], returnType := none }, accessFlags := 1, code := some k0c0 }
def k0m1 : Method := { name := "clone", desc := "()Ljava/lang/Object;", sig := { parameters := [], returnType := some (.object "java/lang/Object") }, accessFlags := 260, code := none }
/-- java/lang/Object -/
def k0 : Class := { plain "java/lang/Object" none with
  accessFlags := 33
  interfaces := #[]
  cf := some (fileOf pool0 8 #[] #[{ accessFlags := 1, nameIndex := 5, descriptorIndex := 6, attributes := #[] }, { accessFlags := 260, nameIndex := 96, descriptorIndex := 97, attributes := #[] }] 33 0 #[] #[])
  fields := #[]
  methods := #[k0m0, k0m1]
  instanceTypes := #[]
  staticTypes := #[]
  resolved := Array.replicate 124 none
  statics := none }

def pool1 : Array CpInfo := pool [(2, .class_ 4), (1, u "java/lang/Object"), (0, u "<init>"), (0, u "()V"), (0, .methodref 8 9), (0, .class_ 10), (0, .nameAndType 11 12), (0, u "com/example/anteriorita/anteriorita/RecordIdsDuplicatePinLaw"), (0, u "two"), (0, u "(I)Ljava/lang/String;"), (0, .methodref 14 15), (0, .class_ 16), (0, .nameAndType 17 18), (0, u "com/example/anteriorita/anteriorita/RecordIds"), (0, u "duplicate"), (0, u "(Ljava/lang/String;Ljava/lang/String;Ljava/lang/String;)Lcom/example/anteriorita/anteriorita/InputException;"), (0, .methodref 20 21), (0, .class_ 22), (0, .nameAndType 23 24), (0, u "com/example/anteriorita/anteriorita/InputException"), (0, u "getMessage"), (0, u "()Ljava/lang/String;"), (0, .methodref 26 27), (0, .class_ 28), (0, .nameAndType 29 30), (0, u "java/lang/String"), (0, u "charAt"), (0, u "(I)C"), (0, .methodref 26 32), (0, .nameAndType 5 33), (0, u "([C)V"), (0, .methodref 26 35), (0, .nameAndType 36 37), (0, u "equals"), (0, u "(Ljava/lang/Object;)Z"), (0, .integer 65535), (2, u "law"), (0, u "(III)Z")] 3

def k1m0 : Method := { name := "<init>", desc := "()V", sig := { parameters := [], returnType := none }, accessFlags := 1, code := none }
def k1c1 : Code := { maxStack := 4, maxLocals := 9, code := code, exceptionTable := #[], attributes := #[] }
def k1m1 : Method := { name := "law", desc := "(III)Z", sig := { parameters := [.int, .int, .int], returnType := some .boolean }, accessFlags := 9, code := some k1c1 }
def k1c2 : Code := { maxStack := 4, maxLocals := 2, code := method_3_code, exceptionTable := #[], attributes := #[] }
def k1m2 : Method := { name := "two", desc := "(I)Ljava/lang/String;", sig := { parameters := [.int], returnType := some (.object "java/lang/String") }, accessFlags := 10, code := some k1c2 }
/-- com/example/anteriorita/anteriorita/RecordIdsDuplicatePinLaw -/
def k1 : Class := { plain "com/example/anteriorita/anteriorita/RecordIdsDuplicatePinLaw" (some 0) with
  accessFlags := 49
  interfaces := #[]
  cf := some (fileOf pool1 8 #[] #[{ accessFlags := 1, nameIndex := 5, descriptorIndex := 6, attributes := #[] }, { accessFlags := 9, nameIndex := 41, descriptorIndex := 42, attributes := #[] }, { accessFlags := 10, nameIndex := 11, descriptorIndex := 12, attributes := #[] }] 49 2 #[] #[])
  fields := #[]
  methods := #[k1m0, k1m1, k1m2]
  instanceTypes := #[]
  staticTypes := #[]
  resolved := Array.replicate 46 none
  statics := none }

def pool2 : Array CpInfo := pool [(1, .class_ 2), (0, u "java/io/Serializable"), (0, .class_ 4), (0, u "java/lang/Object")] 2

/-- java/io/Serializable -/
def k2 : Class := { plain "java/io/Serializable" (some 0) with
  accessFlags := 1537
  interfaces := #[]
  cf := some (fileOf pool2 1 #[] #[] 1537 3 #[] #[])
  fields := #[]
  methods := #[]
  instanceTypes := #[]
  staticTypes := #[]
  resolved := Array.replicate 7 none
  statics := none }

def pool3 : Array CpInfo := pool [(1, .class_ 2), (0, u "java/lang/Comparable"), (0, .class_ 4), (0, u "java/lang/Object")] 7

/-- java/lang/Comparable -/
def k3 : Class := { plain "java/lang/Comparable" (some 0) with
  accessFlags := 1537
  interfaces := #[]
  cf := some (fileOf pool3 1 #[] #[] 1537 3 #[] #[])
  fields := #[]
  methods := #[]
  instanceTypes := #[]
  staticTypes := #[]
  resolved := Array.replicate 12 none
  statics := none }

def pool4 : Array CpInfo := pool [(2, .class_ 4), (1, u "java/lang/CharSequence"), (42, .class_ 48), (0, u "java/lang/CharSequence$1CodePointIterator"), (10, .class_ 60), (0, u "java/lang/CharSequence$1CharIterator"), (5, .class_ 67), (0, u "java/lang/Object")] 63

/-- java/lang/CharSequence -/
def k4 : Class := { plain "java/lang/CharSequence" (some 0) with
  accessFlags := 1537
  interfaces := #[]
  cf := some (fileOf pool4 2 #[.nestMembers #[47, 59]] #[] 1537 66 #[] #[])
  fields := #[]
  methods := #[]
  instanceTypes := #[]
  staticTypes := #[]
  resolved := Array.replicate 131 none
  statics := none }

def pool5 : Array CpInfo := pool [(1, .class_ 2), (0, u "java/lang/constant/Constable"), (0, .class_ 4), (0, u "java/lang/Object")] 6

/-- java/lang/constant/Constable -/
def k5 : Class := { plain "java/lang/constant/Constable" (some 0) with
  accessFlags := 1537
  interfaces := #[]
  cf := some (fileOf pool5 1 #[] #[] 1537 3 #[] #[])
  fields := #[]
  methods := #[]
  instanceTypes := #[]
  staticTypes := #[]
  resolved := Array.replicate 11 none
  statics := none }

def pool6 : Array CpInfo := pool [(1, .class_ 2), (0, u "java/lang/constant/ConstantDesc"), (0, .class_ 4), (0, u "java/lang/Object")] 32

/-- java/lang/constant/ConstantDesc -/
def k6 : Class := { plain "java/lang/constant/ConstantDesc" (some 0) with
  accessFlags := 1537
  interfaces := #[]
  cf := some (fileOf pool6 1 #[] #[] 1537 3 #[] #[])
  fields := #[]
  methods := #[]
  instanceTypes := #[]
  staticTypes := #[]
  resolved := Array.replicate 37 none
  statics := none }

def pool7 : Array CpInfo := pool [(1, .methodref 2 3), (0, .class_ 4), (0, .nameAndType 5 6), (0, u "java/lang/Object"), (0, u "<init>"), (0, u "()V"), (2, .fieldref 10 11), (0, .class_ 12), (0, .nameAndType 13 14), (0, u "java/lang/String"), (0, u "value"), (0, u "[B"), (0, .fieldref 10 16), (0, .nameAndType 17 18), (0, u "coder"), (0, u "B"), (2, u "hash"), (0, u "I"), (2, u "hashIsZero"), (0, u "Z"), (0, .methodref 10 28), (0, .nameAndType 5 29), (0, u "([CIILjava/lang/Void;)V"), (6, u "checkBoundsOffCount"), (0, u "(III)I"), (0, .fieldref 10 39), (0, .nameAndType 40 26), (0, u "COMPACT_STRINGS"), (1, .class_ 44), (1, u "java/lang/StringUTF16"), (0, u "compress"), (1, .methodref 42 48), (0, .nameAndType 49 50), (0, u "coderFromArrayLen"), (0, u "([BI)B"), (3, .methodref 55 56), (0, .class_ 57), (0, .nameAndType 58 59), (0, u "java/util/Arrays"), (0, u "copyOfRange"), (0, u "([BII)[B"), (46, .methodref 107 108), (0, .class_ 109), (0, .nameAndType 110 111), (0, u "java/lang/StringLatin1"), (0, u "inflate"), (0, u "([BI[BII)V"), (30, u "()Z"), (34, .methodref 42 178), (0, .nameAndType 45 179), (0, u "([CII)[B"), (13, .class_ 195), (1, u "java/lang/System"), (16, .methodref 193 213), (0, .nameAndType 214 215), (0, u "arraycopy"), (0, u "(Ljava/lang/Object;ILjava/lang/Object;II)V"), (118, u "()I"), (0, .methodref 10 336), (0, .nameAndType 17 337), (0, u "()B"), (2, u "()[B"), (22, u "([BI)C"), (27, u "(II)V"), (35, u "(I)C"), (61, .methodref 10 490), (0, .nameAndType 5 491), (0, u "(Ljava/lang/AbstractStringBuilder;Ljava/lang/Void;)V"), (0, .methodref 10 493), (0, .nameAndType 494 142), (0, u "isLatin1"), (0, .methodref 107 496), (0, .nameAndType 497 363), (0, u "charAt"), (0, .methodref 42 496), (2, u "checkIndex"), (4, .nameAndType 507 334), (0, u "length"), (24, u "getBytes"), (8, .methodref 107 542), (0, .nameAndType 543 544), (0, u "equals"), (0, u "([B[B)Z"), (4, .methodref 550 506), (0, .class_ 551), (0, u "java/lang/AbstractStringBuilder"), (0, .methodref 550 553), (0, .nameAndType 554 340), (0, u "getValue"), (18, u "(Ljava/lang/Object;)Z"), (1, .class_ 576), (0, u "java/lang/CharSequence"), (22, u "CASE_INSENSITIVE_ORDER"), (0, u "Ljava/util/Comparator;"), (220, u "([BIB)V"), (188, u "([C)V"), (36, .methodref 550 493), (0, .fieldref 550 1049), (0, .nameAndType 1050 26), (0, u "maybeLatin1"), (2, .fieldref 1054 1055), (0, .class_ 1056), (0, .nameAndType 1057 1058), (0, u "jdk/internal/util/Preconditions"), (0, u "SIOOBE_FORMATTER"), (0, u "Ljava/util/function/BiFunction;"), (0, .methodref 1054 1060), (0, .nameAndType 501 1061), (0, u "(IILjava/util/function/BiFunction;)I"), (2, u "(IIILjava/util/function/BiFunction;)I"), (0, .methodref 1054 1066), (0, .nameAndType 1067 1064), (0, u "checkFromIndexSize"), (33, u "serialPersistentFields"), (0, u "[Ljava/io/ObjectStreamField;"), (0, .class_ 1104), (0, u "java/lang/String$CaseInsensitiveComparator"), (1, .class_ 1107), (0, u "java/io/Serializable"), (0, .class_ 1109), (0, u "java/lang/Comparable"), (0, .class_ 1111), (0, u "java/lang/constant/Constable"), (0, .class_ 1113), (0, u "java/lang/constant/ConstantDesc"), (2, u "serialVersionUID"), (0, u "J"), (3, u "REPL"), (0, u "C"), (2, u "LATIN1"), (1, u "UTF16"), (105, u "(Ljava/lang/StringBuilder;)V")] 217

def k7m0 : Method := { name := "<init>", desc := "()V", sig := { parameters := [], returnType := none }, accessFlags := 1, code := none }
def k7c1 : Code := { maxStack := 5, maxLocals := 2, code := jdk_42_method_3_code, exceptionTable := #[], attributes := #[] }
def k7m1 : Method := { name := "<init>", desc := "([C)V", sig := { parameters := [(.array .char)], returnType := none }, accessFlags := 1, code := some k7c1 }
def k7c2 : Code := { maxStack := 3, maxLocals := 2, code := jdk_42_method_53_code, exceptionTable := #[], attributes := #[] }
def k7m2 : Method := { name := "<init>", desc := "(Ljava/lang/StringBuilder;)V", sig := { parameters := [(.object "java/lang/StringBuilder")], returnType := none }, accessFlags := 1, code := some k7c2 }
def k7c3 : Code := { maxStack := 2, maxLocals := 1, code := jdk_42_method_54_code, exceptionTable := #[], attributes := #[] }
def k7m3 : Method := { name := "length", desc := "()I", sig := { parameters := [], returnType := some .int }, accessFlags := 1, code := some k7c3 }
def k7c4 : Code := { maxStack := 2, maxLocals := 2, code := jdk_42_method_56_code, exceptionTable := #[], attributes := #[] }
def k7m4 : Method := { name := "charAt", desc := "(I)C", sig := { parameters := [.int], returnType := some .char }, accessFlags := 1, code := some k7c4 }
def k7c5 : Code := { maxStack := 2, maxLocals := 3, code := jdk_42_method_66_code, exceptionTable := #[], attributes := #[] }
def k7m5 : Method := { name := "equals", desc := "(Ljava/lang/Object;)Z", sig := { parameters := [(.object "java/lang/Object")], returnType := some .boolean }, accessFlags := 1, code := some k7c5 }
def k7c6 : Code := { maxStack := 5, maxLocals := 4, code := jdk_42_method_147_code, exceptionTable := #[], attributes := #[] }
def k7m6 : Method := { name := "getBytes", desc := "([BIB)V", sig := { parameters := [(.array .byte), .int, .byte], returnType := none }, accessFlags := 0, code := some k7c6 }
def k7c7 : Code := { maxStack := 4, maxLocals := 6, code := jdk_42_method_149_code, exceptionTable := #[], attributes := #[] }
def k7m7 : Method := { name := "<init>", desc := "([CIILjava/lang/Void;)V", sig := { parameters := [(.array .char), .int, .int, (.object "java/lang/Void")], returnType := none }, accessFlags := 2, code := some k7c7 }
def k7c8 : Code := { maxStack := 5, maxLocals := 5, code := jdk_42_method_150_code, exceptionTable := #[], attributes := #[] }
def k7m8 : Method := { name := "<init>", desc := "(Ljava/lang/AbstractStringBuilder;Ljava/lang/Void;)V", sig := { parameters := [(.object "java/lang/AbstractStringBuilder"), (.object "java/lang/Void")], returnType := none }, accessFlags := 0, code := some k7c8 }
def k7c9 : Code := { maxStack := 1, maxLocals := 1, code := jdk_42_method_152_code, exceptionTable := #[], attributes := #[] }
def k7m9 : Method := { name := "coder", desc := "()B", sig := { parameters := [], returnType := some .byte }, accessFlags := 0, code := some k7c9 }
def k7c10 : Code := { maxStack := 1, maxLocals := 1, code := jdk_42_method_154_code, exceptionTable := #[], attributes := #[] }
def k7m10 : Method := { name := "isLatin1", desc := "()Z", sig := { parameters := [], returnType := some .boolean }, accessFlags := 0, code := some k7c10 }
def k7c11 : Code := { maxStack := 3, maxLocals := 2, code := jdk_42_method_155_code, exceptionTable := #[], attributes := #[] }
def k7m11 : Method := { name := "checkIndex", desc := "(II)V", sig := { parameters := [.int, .int], returnType := none }, accessFlags := 8, code := some k7c11 }
def k7c12 : Code := { maxStack := 4, maxLocals := 3, code := jdk_42_method_157_code, exceptionTable := #[], attributes := #[] }
def k7m12 : Method := { name := "checkBoundsOffCount", desc := "(III)I", sig := { parameters := [.int, .int, .int], returnType := some .int }, accessFlags := 8, code := some k7c12 }
/-- java/lang/String -/
def k7 : Class := { plain "java/lang/String" (some 0) with
  accessFlags := 49
  interfaces := #[2, 3, 4, 5, 6]
  cf := some (fileOf pool7 10 #[.nestMembers #[1103]] #[{ accessFlags := 1, nameIndex := 5, descriptorIndex := 6, attributes := #[] }, { accessFlags := 1, nameIndex := 5, descriptorIndex := 1010, attributes := #[] }, { accessFlags := 1, nameIndex := 5, descriptorIndex := 1233, attributes := #[] }, { accessFlags := 1, nameIndex := 507, descriptorIndex := 334, attributes := #[] }, { accessFlags := 1, nameIndex := 497, descriptorIndex := 427, attributes := #[] }, { accessFlags := 1, nameIndex := 543, descriptorIndex := 573, attributes := #[] }, { accessFlags := 0, nameIndex := 532, descriptorIndex := 821, attributes := #[] }, { accessFlags := 2, nameIndex := 5, descriptorIndex := 29, attributes := #[] }, { accessFlags := 0, nameIndex := 5, descriptorIndex := 491, attributes := #[] }, { accessFlags := 0, nameIndex := 17, descriptorIndex := 337, attributes := #[] }, { accessFlags := 0, nameIndex := 494, descriptorIndex := 142, attributes := #[] }, { accessFlags := 8, nameIndex := 501, descriptorIndex := 391, attributes := #[] }, { accessFlags := 8, nameIndex := 36, descriptorIndex := 37, attributes := #[] }] 49 2 #[1106, 1108, 575, 1110, 1112] #[{ accessFlags := 18, nameIndex := 13, descriptorIndex := 14, attributes := #[] }, { accessFlags := 18, nameIndex := 17, descriptorIndex := 18, attributes := #[] }, { accessFlags := 2, nameIndex := 21, descriptorIndex := 22, attributes := #[] }, { accessFlags := 2, nameIndex := 25, descriptorIndex := 26, attributes := #[] }, { accessFlags := 26, nameIndex := 1116, descriptorIndex := 1117, attributes := #[] }, { accessFlags := 24, nameIndex := 40, descriptorIndex := 26, attributes := #[] }, { accessFlags := 26, nameIndex := 1101, descriptorIndex := 1102, attributes := #[] }, { accessFlags := 26, nameIndex := 1121, descriptorIndex := 1122, attributes := #[] }, { accessFlags := 25, nameIndex := 599, descriptorIndex := 600, attributes := #[] }, { accessFlags := 24, nameIndex := 1125, descriptorIndex := 18, attributes := #[] }, { accessFlags := 24, nameIndex := 1127, descriptorIndex := 18, attributes := #[] }])
  fields := #[{ name := "value", type := (.array .byte), accessFlags := 18, slot := 0, constantValue := 0 }, { name := "coder", type := .byte, accessFlags := 18, slot := 1, constantValue := 0 }, { name := "hash", type := .int, accessFlags := 2, slot := 2, constantValue := 0 }, { name := "hashIsZero", type := .boolean, accessFlags := 2, slot := 3, constantValue := 0 }, { name := "serialVersionUID", type := .long, accessFlags := 26, slot := 0, constantValue := 0 }, { name := "COMPACT_STRINGS", type := .boolean, accessFlags := 24, slot := 1, constantValue := 0 }, { name := "serialPersistentFields", type := (.array (.object "java/io/ObjectStreamField")), accessFlags := 26, slot := 2, constantValue := 0 }, { name := "REPL", type := .char, accessFlags := 26, slot := 3, constantValue := 0 }, { name := "CASE_INSENSITIVE_ORDER", type := (.object "java/util/Comparator"), accessFlags := 25, slot := 4, constantValue := 0 }, { name := "LATIN1", type := .byte, accessFlags := 24, slot := 5, constantValue := 0 }, { name := "UTF16", type := .byte, accessFlags := 24, slot := 6, constantValue := 0 }]
  methods := #[k7m0, k7m1, k7m2, k7m3, k7m4, k7m5, k7m6, k7m7, k7m8, k7m9, k7m10, k7m11, k7m12]
  instanceTypes := #[(.array .byte), .byte, .int, .boolean]
  staticTypes := #[.long, .boolean, (.array (.object "java/io/ObjectStreamField")), .char, (.object "java/util/Comparator"), .byte, .byte]
  resolved := Array.replicate 1451 none
  statics := some 0 }

def pool8 : Array CpInfo := pool [(3, .class_ 4), (0, u "java/lang/String"), (1, .class_ 8), (1, u "java/lang/Object"), (0, u "<init>"), (0, u "()V"), (0, .methodref 12 13), (0, .class_ 14), (0, .nameAndType 15 16), (0, u "java/lang/StringUTF16"), (0, u "newBytesLength"), (0, u "(I)I"), (3, .integer 1073741823), (23, .fieldref 12 45), (0, .nameAndType 46 47), (0, u "$assertionsDisabled"), (0, u "Z"), (0, .methodref 12 49), (0, .nameAndType 50 51), (0, u "length"), (0, u "([B)I"), (7, .fieldref 12 60), (0, .nameAndType 61 62), (0, u "HI_BYTE_SHIFT"), (0, u "I"), (0, .fieldref 12 64), (0, .nameAndType 65 62), (0, u "LO_BYTE_SHIFT"), (1, .methodref 12 68), (0, .nameAndType 69 70), (0, u "checkIndex"), (0, u "(I[B)V"), (0, .methodref 12 72), (0, .nameAndType 73 74), (0, u "getChar"), (0, u "([BI)C"), (24, u "(II[B)V"), (7, .methodref 12 108), (0, .nameAndType 109 110), (0, u "newBytesFor"), (0, u "(I)[B"), (0, .methodref 12 112), (0, .nameAndType 113 114), (0, u "putChar"), (0, u "([BII)V"), (0, .methodref 12 116), (0, .nameAndType 117 118), (0, u "compress"), (0, u "([CI[BII)I"), (0, .methodref 12 120), (0, .nameAndType 121 122), (0, u "toBytes"), (0, u "([CII)[B"), (17, u "inflate"), (0, u "([BI[BII)V"), (31, .methodref 12 174), (0, .nameAndType 175 99), (0, u "checkBoundsOffCount"), (85, u "coderFromArrayLen"), (0, u "([BI)B"), (18, u "(III)I"), (87, .class_ 371), (1, u "java/lang/StringUTF16$LinesSpliterator"), (20, u "charAt"), (21, .methodref 3 415), (0, .nameAndType 69 416), (0, u "(II)V"), (2, .methodref 3 420), (0, .nameAndType 175 281), (9, u "MAX_LENGTH"), (196, .class_ 628), (0, u "java/lang/StringUTF16$CodePointsSpliterator"), (0, .class_ 630), (0, u "java/lang/StringUTF16$CharsSpliterator")] 4

def k8m0 : Method := { name := "<init>", desc := "()V", sig := { parameters := [], returnType := none }, accessFlags := 0, code := none }
def k8c1 : Code := { maxStack := 1, maxLocals := 1, code := jdk_52_method_2_code, exceptionTable := #[], attributes := #[] }
def k8m1 : Method := { name := "newBytesFor", desc := "(I)[B", sig := { parameters := [.int], returnType := some (.array .byte) }, accessFlags := 9, code := some k8c1 }
def k8c2 : Code := { maxStack := 4, maxLocals := 1, code := jdk_52_method_3_code, exceptionTable := #[], attributes := #[] }
def k8m2 : Method := { name := "newBytesLength", desc := "(I)I", sig := { parameters := [.int], returnType := some .int }, accessFlags := 9, code := some k8c2 }
def k8c3 : Code := { maxStack := 4, maxLocals := 3, code := jdk_52_method_4_code, exceptionTable := #[], attributes := #[] }
def k8m3 : Method := { name := "putChar", desc := "([BII)V", sig := { parameters := [(.array .byte), .int, .int], returnType := none }, accessFlags := 8, code := some k8c3 }
def k8c4 : Code := { maxStack := 3, maxLocals := 2, code := jdk_52_method_5_code, exceptionTable := #[], attributes := #[] }
def k8m4 : Method := { name := "getChar", desc := "([BI)C", sig := { parameters := [(.array .byte), .int], returnType := some .char }, accessFlags := 8, code := some k8c4 }
def k8c5 : Code := { maxStack := 2, maxLocals := 1, code := jdk_52_method_6_code, exceptionTable := #[], attributes := #[] }
def k8m5 : Method := { name := "length", desc := "([B)I", sig := { parameters := [(.array .byte)], returnType := some .int }, accessFlags := 9, code := some k8c5 }
def k8c6 : Code := { maxStack := 4, maxLocals := 5, code := jdk_52_method_14_code, exceptionTable := #[], attributes := #[] }
def k8m6 : Method := { name := "toBytes", desc := "([CII)[B", sig := { parameters := [(.array .char), .int, .int], returnType := some (.array .byte) }, accessFlags := 9, code := some k8c6 }
def k8c7 : Code := { maxStack := 2, maxLocals := 2, code := jdk_52_method_15_code, exceptionTable := #[], attributes := #[] }
def k8m7 : Method := { name := "coderFromArrayLen", desc := "([BI)B", sig := { parameters := [(.array .byte), .int], returnType := some .byte }, accessFlags := 8, code := some k8c7 }
def k8c8 : Code := { maxStack := 5, maxLocals := 6, code := jdk_52_method_16_code, exceptionTable := #[], attributes := #[] }
def k8m8 : Method := { name := "compress", desc := "([CII)[B", sig := { parameters := [(.array .char), .int, .int], returnType := some (.array .byte) }, accessFlags := 9, code := some k8c8 }
def k8c9 : Code := { maxStack := 3, maxLocals := 7, code := jdk_52_method_21_code, exceptionTable := #[], attributes := #[] }
def k8m9 : Method := { name := "compress", desc := "([CI[BII)I", sig := { parameters := [(.array .char), .int, (.array .byte), .int, .int], returnType := some .int }, accessFlags := 9, code := some k8c9 }
def k8c10 : Code := { maxStack := 2, maxLocals := 2, code := jdk_52_method_83_code, exceptionTable := #[], attributes := #[] }
def k8m10 : Method := { name := "charAt", desc := "([BI)C", sig := { parameters := [(.array .byte), .int], returnType := some .char }, accessFlags := 9, code := some k8c10 }
def k8c11 : Code := { maxStack := 4, maxLocals := 6, code := jdk_52_method_86_code, exceptionTable := #[], attributes := #[] }
def k8m11 : Method := { name := "inflate", desc := "([BI[BII)V", sig := { parameters := [(.array .byte), .int, (.array .byte), .int, .int], returnType := none }, accessFlags := 9, code := some k8c11 }
def k8c12 : Code := { maxStack := 2, maxLocals := 2, code := jdk_52_method_91_code, exceptionTable := #[], attributes := #[] }
def k8m12 : Method := { name := "checkIndex", desc := "(I[B)V", sig := { parameters := [.int, (.array .byte)], returnType := none }, accessFlags := 9, code := some k8c12 }
def k8c13 : Code := { maxStack := 3, maxLocals := 3, code := jdk_52_method_94_code, exceptionTable := #[], attributes := #[] }
def k8m13 : Method := { name := "checkBoundsOffCount", desc := "(II[B)V", sig := { parameters := [.int, .int, (.array .byte)], returnType := none }, accessFlags := 9, code := some k8c13 }
/-- java/lang/StringUTF16 -/
def k8 : Class := { plain "java/lang/StringUTF16" (some 0) with
  accessFlags := 48
  interfaces := #[]
  cf := some (fileOf pool8 12 #[.nestMembers #[627, 629, 369]] #[{ accessFlags := 0, nameIndex := 9, descriptorIndex := 10, attributes := #[] }, { accessFlags := 9, nameIndex := 109, descriptorIndex := 110, attributes := #[] }, { accessFlags := 9, nameIndex := 15, descriptorIndex := 16, attributes := #[] }, { accessFlags := 8, nameIndex := 113, descriptorIndex := 114, attributes := #[] }, { accessFlags := 8, nameIndex := 73, descriptorIndex := 74, attributes := #[] }, { accessFlags := 9, nameIndex := 50, descriptorIndex := 51, attributes := #[] }, { accessFlags := 9, nameIndex := 121, descriptorIndex := 122, attributes := #[] }, { accessFlags := 8, nameIndex := 261, descriptorIndex := 262, attributes := #[] }, { accessFlags := 9, nameIndex := 117, descriptorIndex := 122, attributes := #[] }, { accessFlags := 9, nameIndex := 117, descriptorIndex := 118, attributes := #[] }, { accessFlags := 9, nameIndex := 392, descriptorIndex := 74, attributes := #[] }, { accessFlags := 9, nameIndex := 140, descriptorIndex := 141, attributes := #[] }, { accessFlags := 9, nameIndex := 69, descriptorIndex := 70, attributes := #[] }, { accessFlags := 9, nameIndex := 175, descriptorIndex := 99, attributes := #[] }] 48 6 #[] #[{ accessFlags := 26, nameIndex := 61, descriptorIndex := 62, attributes := #[] }, { accessFlags := 26, nameIndex := 65, descriptorIndex := 62, attributes := #[] }, { accessFlags := 24, nameIndex := 430, descriptorIndex := 62, attributes := #[] }, { accessFlags := 4120, nameIndex := 46, descriptorIndex := 47, attributes := #[] }])
  fields := #[{ name := "HI_BYTE_SHIFT", type := .int, accessFlags := 26, slot := 0, constantValue := 0 }, { name := "LO_BYTE_SHIFT", type := .int, accessFlags := 26, slot := 1, constantValue := 0 }, { name := "MAX_LENGTH", type := .int, accessFlags := 24, slot := 2, constantValue := 0 }, { name := "$assertionsDisabled", type := .boolean, accessFlags := 4120, slot := 3, constantValue := 0 }]
  methods := #[k8m0, k8m1, k8m2, k8m3, k8m4, k8m5, k8m6, k8m7, k8m8, k8m9, k8m10, k8m11, k8m12, k8m13]
  instanceTypes := #[]
  staticTypes := #[.int, .int, .int, .boolean]
  resolved := Array.replicate 635 none
  statics := some 1 }

def pool9 : Array CpInfo := pool [(2, .class_ 4), (0, .nameAndType 5 6), (0, u "java/lang/Object"), (0, u "<init>"), (0, u "()V"), (4, .class_ 13), (1, u "com/example/anteriorita/anteriorita/RecordIds"), (0, u "firstPlace"), (0, u "Ljava/util/Map;"), (5, u "()Ljava/lang/String;"), (10, u "duplicate"), (0, u "(Ljava/lang/String;Ljava/lang/String;Ljava/lang/String;)Lcom/example/anteriorita/anteriorita/InputException;"), (0, .class_ 35), (0, u "com/example/anteriorita/anteriorita/InputException"), (0, .class_ 37), (0, u "java/lang/StringBuilder"), (0, .methodref 36 3), (0, .methodref 36 40), (0, .nameAndType 41 42), (0, u "append"), (0, u "(Ljava/lang/String;)Ljava/lang/StringBuilder;"), (0, .string 44), (0, u ": duplicate id \""), (0, .string 46), (0, u "\", first at "), (0, .methodref 36 48), (0, .nameAndType 49 21), (0, u "toString"), (0, .methodref 34 51), (0, .nameAndType 5 52), (0, u "(Ljava/lang/String;)V")] 10

def k9m0 : Method := { name := "<init>", desc := "()V", sig := { parameters := [], returnType := none }, accessFlags := 0, code := none }
def k9c1 : Code := { maxStack := 4, maxLocals := 3, code := prog_17_method_3_code, exceptionTable := #[], attributes := #[] }
def k9m1 : Method := { name := "duplicate", desc := "(Ljava/lang/String;Ljava/lang/String;Ljava/lang/String;)Lcom/example/anteriorita/anteriorita/InputException;", sig := { parameters := [(.object "java/lang/String"), (.object "java/lang/String"), (.object "java/lang/String")], returnType := some (.object "com/example/anteriorita/anteriorita/InputException") }, accessFlags := 8, code := some k9c1 }
/-- com/example/anteriorita/anteriorita/RecordIds -/
def k9 : Class := { plain "com/example/anteriorita/anteriorita/RecordIds" (some 0) with
  accessFlags := 48
  interfaces := #[]
  cf := some (fileOf pool9 11 #[] #[{ accessFlags := 0, nameIndex := 5, descriptorIndex := 6, attributes := #[] }, { accessFlags := 8, nameIndex := 32, descriptorIndex := 33, attributes := #[] }] 48 2 #[] #[{ accessFlags := 18, nameIndex := 14, descriptorIndex := 15, attributes := #[] }])
  fields := #[{ name := "firstPlace", type := (.object "java/util/Map"), accessFlags := 18, slot := 0, constantValue := 0 }]
  methods := #[k9m0, k9m1]
  instanceTypes := #[(.object "java/util/Map")]
  staticTypes := #[]
  resolved := Array.replicate 63 none
  statics := none }

def pool10 : Array CpInfo := pool [(1, .methodref 2 3), (0, .class_ 4), (0, .nameAndType 5 6), (0, u "java/lang/Object"), (0, u "<init>"), (0, u "()V"), (0, .fieldref 8 9), (0, .class_ 10), (0, .nameAndType 11 12), (0, u "java/lang/Throwable"), (0, u "cause"), (0, u "Ljava/lang/Throwable;"), (0, .fieldref 8 14), (0, .nameAndType 15 16), (0, u "UNASSIGNED_STACK"), (0, u "[Ljava/lang/StackTraceElement;"), (0, .fieldref 8 18), (0, .nameAndType 19 16), (0, u "stackTrace"), (0, .fieldref 8 21), (0, .nameAndType 22 23), (0, u "SUPPRESSED_SENTINEL"), (0, u "Ljava/util/List;"), (0, .fieldref 8 25), (0, .nameAndType 26 23), (0, u "suppressedExceptions"), (0, .methodref 8 28), (0, .nameAndType 29 30), (0, u "fillInStackTrace"), (0, u "()Ljava/lang/Throwable;"), (0, .fieldref 8 32), (0, .nameAndType 33 34), (0, u "detailMessage"), (0, u "Ljava/lang/String;"), (3, u "()Ljava/lang/String;"), (2, u "getMessage"), (51, .class_ 94), (0, u "java/lang/Throwable$WrappedPrintStream"), (6, .class_ 103), (1, u "java/lang/Throwable$PrintStreamOrWriter"), (61, u "$assertionsDisabled"), (0, u "Z"), (26, .class_ 194), (0, u "java/lang/Throwable$WrappedPrintWriter"), (3, .fieldref 8 199), (0, .nameAndType 200 201), (0, u "backtrace"), (0, u "Ljava/lang/Object;"), (0, .methodref 8 203), (0, .nameAndType 29 204), (0, u "(I)Ljava/lang/Throwable;"), (6, u "depth"), (0, u "I"), (10, u "(Ljava/lang/String;)V"), (45, .class_ 271), (1, u "java/lang/Throwable$SentinelHolder"), (32, u "EMPTY_THROWABLE_ARRAY"), (0, u "[Ljava/lang/Throwable;"), (12, .class_ 319), (0, u "java/io/Serializable"), (0, u "serialVersionUID"), (0, u "J"), (5, u "NULL_CAUSE_MESSAGE"), (0, u "SELF_SUPPRESSION_MESSAGE"), (0, u "CAUSE_CAPTION"), (0, u "SUPPRESSED_CAPTION")] 73

def k10c0 : Code := { maxStack := 2, maxLocals := 1, code := jdk_78_method_1_code, exceptionTable := #[], attributes := #[] }
def k10m0 : Method := { name := "<init>", desc := "()V", sig := { parameters := [], returnType := none }, accessFlags := 1, code := some k10c0 }
def k10c1 : Code := { maxStack := 2, maxLocals := 2, code := jdk_78_method_2_code, exceptionTable := #[], attributes := #[] }
def k10m1 : Method := { name := "<init>", desc := "(Ljava/lang/String;)V", sig := { parameters := [(.object "java/lang/String")], returnType := none }, accessFlags := 1, code := some k10c1 }
def k10c2 : Code := { maxStack := 1, maxLocals := 1, code := jdk_78_method_6_code, exceptionTable := #[], attributes := #[] }
def k10m2 : Method := { name := "getMessage", desc := "()Ljava/lang/String;", sig := { parameters := [], returnType := some (.object "java/lang/String") }, accessFlags := 1, code := some k10c2 }
def k10c3 : Code := { maxStack := 2, maxLocals := 1, code := ⟨#[0x2a, 0xb4, 0x00, 0x11, 0xc7, 0x00, 0x0a, 0x2a, 0xb4, 0x00, 0xc6, 0xc6, 0x00, 0x10, 0x2a, 0x03, 0xb6, 0x00, 0xca, 0x57, 0x2a, 0xb2, 0x00, 0x0d, 0xb5, 0x00, 0x11, 0x2a, 0xb0]⟩, exceptionTable := #[], attributes := #[] }
def k10m3 : Method := { name := "fillInStackTrace", desc := "()Ljava/lang/Throwable;", sig := { parameters := [], returnType := some (.object "java/lang/Throwable") }, accessFlags := 33, code := some k10c3 }
def k10m4 : Method := { name := "fillInStackTrace", desc := "(I)Ljava/lang/Throwable;", sig := { parameters := [.int], returnType := some (.object "java/lang/Throwable") }, accessFlags := 258, code := none }
/-- java/lang/Throwable -/
def k10 : Class := { plain "java/lang/Throwable" (some 0) with
  accessFlags := 33
  interfaces := #[2]
  cf := some (fileOf pool10 8 #[.nestMembers #[193, 93, 101, 269]] #[{ accessFlags := 1, nameIndex := 5, descriptorIndex := 6, attributes := #[] }, { accessFlags := 1, nameIndex := 5, descriptorIndex := 223, attributes := #[] }, { accessFlags := 1, nameIndex := 41, descriptorIndex := 38, attributes := #[] }, { accessFlags := 33, nameIndex := 29, descriptorIndex := 30, attributes := #[] }, { accessFlags := 258, nameIndex := 29, descriptorIndex := 204, attributes := #[] }] 33 2 #[318] #[{ accessFlags := 26, nameIndex := 320, descriptorIndex := 321, attributes := #[] }, { accessFlags := 130, nameIndex := 200, descriptorIndex := 201, attributes := #[] }, { accessFlags := 2, nameIndex := 33, descriptorIndex := 34, attributes := #[] }, { accessFlags := 26, nameIndex := 15, descriptorIndex := 16, attributes := #[] }, { accessFlags := 2, nameIndex := 11, descriptorIndex := 12, attributes := #[] }, { accessFlags := 2, nameIndex := 19, descriptorIndex := 16, attributes := #[] }, { accessFlags := 130, nameIndex := 211, descriptorIndex := 212, attributes := #[] }, { accessFlags := 26, nameIndex := 22, descriptorIndex := 23, attributes := #[] }, { accessFlags := 2, nameIndex := 26, descriptorIndex := 23, attributes := #[] }, { accessFlags := 26, nameIndex := 327, descriptorIndex := 34, attributes := #[] }, { accessFlags := 26, nameIndex := 328, descriptorIndex := 34, attributes := #[] }, { accessFlags := 26, nameIndex := 329, descriptorIndex := 34, attributes := #[] }, { accessFlags := 26, nameIndex := 330, descriptorIndex := 34, attributes := #[] }, { accessFlags := 26, nameIndex := 304, descriptorIndex := 305, attributes := #[] }, { accessFlags := 4120, nameIndex := 165, descriptorIndex := 166, attributes := #[] }])
  fields := #[{ name := "serialVersionUID", type := .long, accessFlags := 26, slot := 0, constantValue := 0 }, { name := "backtrace", type := (.object "java/lang/Object"), accessFlags := 130, slot := 0, constantValue := 0 }, { name := "detailMessage", type := (.object "java/lang/String"), accessFlags := 2, slot := 1, constantValue := 0 }, { name := "UNASSIGNED_STACK", type := (.array (.object "java/lang/StackTraceElement")), accessFlags := 26, slot := 1, constantValue := 0 }, { name := "cause", type := (.object "java/lang/Throwable"), accessFlags := 2, slot := 2, constantValue := 0 }, { name := "stackTrace", type := (.array (.object "java/lang/StackTraceElement")), accessFlags := 2, slot := 3, constantValue := 0 }, { name := "depth", type := .int, accessFlags := 130, slot := 4, constantValue := 0 }, { name := "SUPPRESSED_SENTINEL", type := (.object "java/util/List"), accessFlags := 26, slot := 2, constantValue := 0 }, { name := "suppressedExceptions", type := (.object "java/util/List"), accessFlags := 2, slot := 5, constantValue := 0 }, { name := "NULL_CAUSE_MESSAGE", type := (.object "java/lang/String"), accessFlags := 26, slot := 3, constantValue := 0 }, { name := "SELF_SUPPRESSION_MESSAGE", type := (.object "java/lang/String"), accessFlags := 26, slot := 4, constantValue := 0 }, { name := "CAUSE_CAPTION", type := (.object "java/lang/String"), accessFlags := 26, slot := 5, constantValue := 0 }, { name := "SUPPRESSED_CAPTION", type := (.object "java/lang/String"), accessFlags := 26, slot := 6, constantValue := 0 }, { name := "EMPTY_THROWABLE_ARRAY", type := (.array (.object "java/lang/Throwable")), accessFlags := 26, slot := 7, constantValue := 0 }, { name := "$assertionsDisabled", type := .boolean, accessFlags := 4120, slot := 8, constantValue := 0 }]
  methods := #[k10m0, k10m1, k10m2, k10m3, k10m4]
  instanceTypes := #[(.object "java/lang/Object"), (.object "java/lang/String"), (.object "java/lang/Throwable"), (.array (.object "java/lang/StackTraceElement")), .int, (.object "java/util/List")]
  staticTypes := #[.long, (.array (.object "java/lang/StackTraceElement")), (.object "java/util/List"), (.object "java/lang/String"), (.object "java/lang/String"), (.object "java/lang/String"), (.object "java/lang/String"), (.array (.object "java/lang/Throwable")), .boolean]
  resolved := Array.replicate 404 none
  statics := some 2 }

def pool11 : Array CpInfo := pool [(2, .class_ 4), (1, u "java/lang/Throwable"), (0, u "<init>"), (0, u "()V"), (0, .methodref 2 8), (0, .nameAndType 5 9), (0, u "(Ljava/lang/String;)V"), (9, .class_ 20), (0, u "java/lang/Exception"), (0, u "serialVersionUID"), (0, u "J")] 17

def k11m0 : Method := { name := "<init>", desc := "()V", sig := { parameters := [], returnType := none }, accessFlags := 1, code := none }
def k11c1 : Code := { maxStack := 2, maxLocals := 2, code := jdk_59_method_2_code, exceptionTable := #[], attributes := #[] }
def k11m1 : Method := { name := "<init>", desc := "(Ljava/lang/String;)V", sig := { parameters := [(.object "java/lang/String")], returnType := none }, accessFlags := 1, code := some k11c1 }
/-- java/lang/Exception -/
def k11 : Class := { plain "java/lang/Exception" (some 10) with
  accessFlags := 33
  interfaces := #[]
  cf := some (fileOf pool11 19 #[] #[{ accessFlags := 1, nameIndex := 5, descriptorIndex := 6, attributes := #[] }, { accessFlags := 1, nameIndex := 5, descriptorIndex := 9, attributes := #[] }] 33 2 #[] #[{ accessFlags := 24, nameIndex := 21, descriptorIndex := 22, attributes := #[] }])
  fields := #[{ name := "serialVersionUID", type := .long, accessFlags := 24, slot := 0, constantValue := 0 }]
  methods := #[k11m0, k11m1]
  instanceTypes := #[(.object "java/lang/Object"), (.object "java/lang/String"), (.object "java/lang/Throwable"), (.array (.object "java/lang/StackTraceElement")), .int, (.object "java/util/List")]
  staticTypes := #[.long]
  resolved := Array.replicate 40 none
  statics := none }

def pool12 : Array CpInfo := pool [(1, .methodref 2 3), (0, .class_ 4), (0, .nameAndType 5 6), (0, u "java/lang/Exception"), (0, u "<init>"), (0, u "(Ljava/lang/String;)V"), (23, .class_ 31), (0, u "com/example/anteriorita/anteriorita/InputException"), (0, u "serialVersionUID"), (0, u "J")] 8

def k12c0 : Code := { maxStack := 2, maxLocals := 2, code := prog_8_method_1_code, exceptionTable := #[], attributes := #[] }
def k12m0 : Method := { name := "<init>", desc := "(Ljava/lang/String;)V", sig := { parameters := [(.object "java/lang/String")], returnType := none }, accessFlags := 1, code := some k12c0 }
/-- com/example/anteriorita/anteriorita/InputException -/
def k12 : Class := { plain "com/example/anteriorita/anteriorita/InputException" (some 11) with
  accessFlags := 33
  interfaces := #[]
  cf := some (fileOf pool12 30 #[] #[{ accessFlags := 1, nameIndex := 5, descriptorIndex := 6, attributes := #[] }] 33 2 #[] #[{ accessFlags := 26, nameIndex := 32, descriptorIndex := 33, attributes := #[] }])
  fields := #[{ name := "serialVersionUID", type := .long, accessFlags := 26, slot := 0, constantValue := 0 }]
  methods := #[k12m0]
  instanceTypes := #[(.object "java/lang/Object"), (.object "java/lang/String"), (.object "java/lang/Throwable"), (.array (.object "java/lang/StackTraceElement")), .int, (.object "java/util/List")]
  staticTypes := #[.long]
  resolved := Array.replicate 42 none
  statics := none }

def pool13 : Array CpInfo := pool [(1, .class_ 2), (0, u "java/lang/Appendable"), (0, .class_ 4), (0, u "java/lang/Object")] 9

/-- java/lang/Appendable -/
def k13 : Class := { plain "java/lang/Appendable" (some 0) with
  accessFlags := 1537
  interfaces := #[]
  cf := some (fileOf pool13 1 #[] #[] 1537 3 #[] #[])
  fields := #[]
  methods := #[]
  instanceTypes := #[]
  staticTypes := #[]
  resolved := Array.replicate 14 none
  statics := none }

def pool14 : Array CpInfo := pool [(1, .class_ 2), (0, u "java/lang/String"), (0, .methodref 4 5), (0, .class_ 6), (0, .nameAndType 7 8), (0, u "java/lang/Object"), (0, u "<init>"), (0, u "()V"), (1, .class_ 12), (1, u "java/lang/AbstractStringBuilder"), (0, u "EMPTYVALUE"), (0, u "[B"), (0, .fieldref 10 16), (0, .nameAndType 17 14), (0, u "value"), (0, .fieldref 1 19), (0, .nameAndType 20 21), (0, u "COMPACT_STRINGS"), (0, u "Z"), (0, .fieldref 10 23), (0, .nameAndType 24 25), (0, u "coder"), (0, u "B"), (0, .methodref 27 28), (0, .class_ 29), (0, .nameAndType 30 31), (0, u "java/lang/StringUTF16"), (0, u "newBytesFor"), (0, u "(I)[B"), (0, .methodref 1 33), (0, .nameAndType 34 35), (0, u "length"), (0, u "()I"), (3, .integer 2147483647), (0, .methodref 1 41), (0, .nameAndType 24 42), (0, u "()B"), (2, u "append"), (0, u "(Ljava/lang/String;)Ljava/lang/AbstractStringBuilder;"), (1, .class_ 49), (0, u "java/lang/CharSequence"), (19, u "(Ljava/lang/String;)V"), (5, u "maybeLatin1"), (3, .fieldref 10 80), (0, .nameAndType 81 82), (0, u "count"), (0, u "I"), (0, .methodref 10 84), (0, .nameAndType 85 86), (0, u "isLatin1"), (0, u "()Z"), (1, .class_ 90), (1, u "java/lang/StringLatin1"), (9, .methodref 10 101), (0, .nameAndType 102 103), (0, u "ensureCapacityInternal"), (0, u "(I)V"), (0, .methodref 10 105), (0, .nameAndType 106 107), (0, u "newCapacity"), (0, u "(I)I"), (0, .methodref 109 110), (0, .class_ 111), (0, .nameAndType 112 113), (0, u "java/util/Arrays"), (0, u "copyOf"), (0, u "([BI)[B"), (0, .methodref 115 116), (0, .class_ 117), (0, .nameAndType 118 119), (0, u "jdk/internal/util/ArraysSupport"), (0, u "newLength"), (0, u "(III)I"), (5, .methodref 88 126), (0, .nameAndType 127 128), (0, u "inflate"), (0, u "([BI[BII)V"), (66, .methodref 10 196), (0, .nameAndType 127 8), (11, .methodref 10 209), (0, .nameAndType 210 211), (0, u "putStringAt"), (0, u "(ILjava/lang/String;)V"), (5, u "inflateIfNeededFor"), (2, .nameAndType 221 222), (0, u "getBytes"), (0, u "([BIB)V"), (174, .methodref 10 398), (0, .nameAndType 217 69), (0, .methodref 1 220), (3, u "()[B"), (40, .class_ 445), (0, u "java/lang/Appendable"), (106, u "getValue")] 56

def k14m0 : Method := { name := "<init>", desc := "()V", sig := { parameters := [], returnType := none }, accessFlags := 0, code := none }
def k14c1 : Code := { maxStack := 2, maxLocals := 2, code := jdk_68_method_2_code, exceptionTable := #[], attributes := #[] }
def k14m1 : Method := { name := "<init>", desc := "(I)V", sig := { parameters := [.int], returnType := none }, accessFlags := 0, code := some k14c1 }
def k14c2 : Code := { maxStack := 1, maxLocals := 1, code := jdk_68_method_6_code, exceptionTable := #[], attributes := #[] }
def k14m2 : Method := { name := "length", desc := "()I", sig := { parameters := [], returnType := some .int }, accessFlags := 1, code := some k14c2 }
def k14c3 : Code := { maxStack := 4, maxLocals := 3, code := jdk_68_method_9_code, exceptionTable := #[], attributes := #[] }
def k14m3 : Method := { name := "ensureCapacityInternal", desc := "(I)V", sig := { parameters := [.int], returnType := none }, accessFlags := 2, code := some k14c3 }
def k14c4 : Code := { maxStack := 5, maxLocals := 6, code := jdk_68_method_10_code, exceptionTable := #[], attributes := #[] }
def k14m4 : Method := { name := "newCapacity", desc := "(I)I", sig := { parameters := [.int], returnType := some .int }, accessFlags := 2, code := some k14c4 }
def k14c5 : Code := { maxStack := 5, maxLocals := 2, code := jdk_68_method_11_code, exceptionTable := #[], attributes := #[] }
def k14m5 : Method := { name := "inflate", desc := "()V", sig := { parameters := [], returnType := none }, accessFlags := 2, code := some k14c5 }
def k14c6 : Code := { maxStack := 3, maxLocals := 3, code := jdk_68_method_22_code, exceptionTable := #[], attributes := #[] }
def k14m6 : Method := { name := "append", desc := "(Ljava/lang/String;)Ljava/lang/AbstractStringBuilder;", sig := { parameters := [(.object "java/lang/String")], returnType := some (.object "java/lang/AbstractStringBuilder") }, accessFlags := 1, code := some k14c6 }
def k14c7 : Code := { maxStack := 1, maxLocals := 1, code := jdk_68_method_64_code, exceptionTable := #[], attributes := #[] }
def k14m7 : Method := { name := "getValue", desc := "()[B", sig := { parameters := [], returnType := some (.array .byte) }, accessFlags := 16, code := some k14c7 }
def k14c8 : Code := { maxStack := 1, maxLocals := 1, code := jdk_68_method_68_code, exceptionTable := #[], attributes := #[] }
def k14m8 : Method := { name := "isLatin1", desc := "()Z", sig := { parameters := [], returnType := some .boolean }, accessFlags := 16, code := some k14c8 }
def k14c9 : Code := { maxStack := 2, maxLocals := 2, code := jdk_68_method_71_code, exceptionTable := #[], attributes := #[] }
def k14m9 : Method := { name := "inflateIfNeededFor", desc := "(Ljava/lang/String;)V", sig := { parameters := [(.object "java/lang/String")], returnType := none }, accessFlags := 2, code := some k14c9 }
def k14c10 : Code := { maxStack := 4, maxLocals := 3, code := jdk_68_method_73_code, exceptionTable := #[], attributes := #[] }
def k14m10 : Method := { name := "putStringAt", desc := "(ILjava/lang/String;)V", sig := { parameters := [.int, (.object "java/lang/String")], returnType := none }, accessFlags := 2, code := some k14c10 }
/-- java/lang/AbstractStringBuilder -/
def k14 : Class := { plain "java/lang/AbstractStringBuilder" (some 0) with
  accessFlags := 1056
  interfaces := #[13, 4]
  cf := some (fileOf pool14 10 #[] #[{ accessFlags := 0, nameIndex := 7, descriptorIndex := 8, attributes := #[] }, { accessFlags := 0, nameIndex := 7, descriptorIndex := 103, attributes := #[] }, { accessFlags := 1, nameIndex := 34, descriptorIndex := 35, attributes := #[] }, { accessFlags := 2, nameIndex := 102, descriptorIndex := 103, attributes := #[] }, { accessFlags := 2, nameIndex := 106, descriptorIndex := 107, attributes := #[] }, { accessFlags := 2, nameIndex := 127, descriptorIndex := 8, attributes := #[] }, { accessFlags := 1, nameIndex := 45, descriptorIndex := 46, attributes := #[] }, { accessFlags := 16, nameIndex := 552, descriptorIndex := 403, attributes := #[] }, { accessFlags := 16, nameIndex := 85, descriptorIndex := 86, attributes := #[] }, { accessFlags := 2, nameIndex := 217, descriptorIndex := 69, attributes := #[] }, { accessFlags := 2, nameIndex := 210, descriptorIndex := 211, attributes := #[] }] 1056 4 #[444, 48] #[{ accessFlags := 0, nameIndex := 17, descriptorIndex := 14, attributes := #[] }, { accessFlags := 0, nameIndex := 24, descriptorIndex := 25, attributes := #[] }, { accessFlags := 0, nameIndex := 75, descriptorIndex := 21, attributes := #[] }, { accessFlags := 0, nameIndex := 81, descriptorIndex := 82, attributes := #[] }, { accessFlags := 26, nameIndex := 13, descriptorIndex := 14, attributes := #[] }])
  fields := #[{ name := "value", type := (.array .byte), accessFlags := 0, slot := 0, constantValue := 0 }, { name := "coder", type := .byte, accessFlags := 0, slot := 1, constantValue := 0 }, { name := "maybeLatin1", type := .boolean, accessFlags := 0, slot := 2, constantValue := 0 }, { name := "count", type := .int, accessFlags := 0, slot := 3, constantValue := 0 }, { name := "EMPTYVALUE", type := (.array .byte), accessFlags := 26, slot := 0, constantValue := 0 }]
  methods := #[k14m0, k14m1, k14m2, k14m3, k14m4, k14m5, k14m6, k14m7, k14m8, k14m9, k14m10]
  instanceTypes := #[(.array .byte), .byte, .boolean, .int]
  staticTypes := #[(.array .byte)]
  resolved := Array.replicate 609 none
  statics := none }

def pool15 : Array CpInfo := pool [(1, .methodref 2 3), (0, .class_ 4), (0, .nameAndType 5 6), (0, u "java/lang/AbstractStringBuilder"), (0, u "<init>"), (0, u "(I)V"), (11, .class_ 20), (1, u "java/lang/String"), (3, .class_ 26), (1, u "java/lang/StringBuilder"), (0, u "append"), (0, u "(Ljava/lang/String;)Ljava/lang/StringBuilder;"), (0, .methodref 2 30), (0, .nameAndType 27 31), (0, u "(Ljava/lang/String;)Ljava/lang/AbstractStringBuilder;"), (105, .methodref 18 138), (0, .nameAndType 5 139), (0, u "(Ljava/lang/StringBuilder;)V"), (5, u "()V"), (10, u "()I"), (186, .methodref 2 344), (0, .nameAndType 345 156), (0, u "length"), (3, .class_ 350), (0, u "java/lang/Appendable"), (0, .class_ 352), (0, u "java/io/Serializable"), (0, .class_ 354), (0, u "java/lang/Comparable"), (0, .class_ 356), (0, u "java/lang/CharSequence"), (0, u "serialVersionUID"), (0, u "J"), (40, u "toString"), (0, u "()Ljava/lang/String;")] 21

def k15c0 : Code := { maxStack := 2, maxLocals := 1, code := jdk_67_method_1_code, exceptionTable := #[], attributes := #[] }
def k15m0 : Method := { name := "<init>", desc := "()V", sig := { parameters := [], returnType := none }, accessFlags := 1, code := some k15c0 }
def k15c1 : Code := { maxStack := 2, maxLocals := 2, code := jdk_67_method_7_code, exceptionTable := #[], attributes := #[] }
def k15m1 : Method := { name := "append", desc := "(Ljava/lang/String;)Ljava/lang/StringBuilder;", sig := { parameters := [(.object "java/lang/String")], returnType := some (.object "java/lang/StringBuilder") }, accessFlags := 1, code := some k15c1 }
def k15c2 : Code := { maxStack := 3, maxLocals := 1, code := jdk_67_method_42_code, exceptionTable := #[], attributes := #[] }
def k15m2 : Method := { name := "toString", desc := "()Ljava/lang/String;", sig := { parameters := [], returnType := some (.object "java/lang/String") }, accessFlags := 1, code := some k15c2 }
def k15c3 : Code := { maxStack := 1, maxLocals := 1, code := jdk_67_method_93_code, exceptionTable := #[], attributes := #[] }
def k15m3 : Method := { name := "length", desc := "()I", sig := { parameters := [], returnType := some .int }, accessFlags := 4161, code := some k15c3 }
/-- java/lang/StringBuilder -/
def k15 : Class := { plain "java/lang/StringBuilder" (some 14) with
  accessFlags := 49
  interfaces := #[13, 2, 3, 4]
  cf := some (fileOf pool15 24 #[] #[{ accessFlags := 1, nameIndex := 5, descriptorIndex := 145, attributes := #[] }, { accessFlags := 1, nameIndex := 27, descriptorIndex := 28, attributes := #[] }, { accessFlags := 1, nameIndex := 399, descriptorIndex := 400, attributes := #[] }, { accessFlags := 4161, nameIndex := 345, descriptorIndex := 156, attributes := #[] }] 49 2 #[349, 351, 353, 355] #[{ accessFlags := 24, nameIndex := 357, descriptorIndex := 358, attributes := #[] }])
  fields := #[{ name := "serialVersionUID", type := .long, accessFlags := 24, slot := 0, constantValue := 0 }]
  methods := #[k15m0, k15m1, k15m2, k15m3]
  instanceTypes := #[(.array .byte), .byte, .boolean, .int]
  staticTypes := #[.long]
  resolved := Array.replicate 422 none
  statics := none }

def pool16 : Array CpInfo := pool [(2, .class_ 4), (1, u "java/lang/Object"), (0, u "<init>"), (0, u "()V"), (1, .class_ 10), (1, u "java/lang/System"), (0, u "allowSecurityManager"), (0, u "I"), (16, u "cons"), (0, u "Ljava/io/Console;"), (77, .class_ 110), (1, u "java/lang/System$CallersHolder"), (43, u "initialErrStream"), (0, u "Ljava/io/PrintStream;"), (19, u "security"), (0, u "Ljava/lang/SecurityManager;"), (31, .class_ 209), (0, u "java/lang/System$1"), (7, u "props"), (0, u "Ljava/util/Properties;"), (2, u "lineSeparator"), (0, u "Ljava/lang/String;"), (96, .class_ 321), (1, u "java/lang/System$LoggerFinder"), (5, .class_ 328), (0, u "java/lang/System$Logger"), (67, u "err"), (2, u "out"), (91, u "notSupportedJnuEncoding"), (15, u "in"), (17, u "initialIn"), (0, u "Ljava/io/InputStream;"), (35, u "bootLayer"), (0, u "Ljava/lang/ModuleLayer;"), (99, .class_ 664), (0, u "java/lang/System$2"), (9, u "NEVER"), (2, u "MAYBE"), (49, u "arraycopy"), (0, u "(Ljava/lang/Object;ILjava/lang/Object;II)V"), (72, .class_ 802), (0, u "java/lang/System$Logger$Level")] 31

def k16m0 : Method := { name := "<init>", desc := "()V", sig := { parameters := [], returnType := none }, accessFlags := 2, code := none }
def k16m1 : Method := { name := "arraycopy", desc := "(Ljava/lang/Object;ILjava/lang/Object;II)V", sig := { parameters := [(.object "java/lang/Object"), .int, (.object "java/lang/Object"), .int, .int], returnType := none }, accessFlags := 265, code := none }
/-- java/lang/System -/
def k16 : Class := { plain "java/lang/System" (some 0) with
  accessFlags := 49
  interfaces := #[]
  cf := some (fileOf pool16 8 #[.nestMembers #[319, 327, 801, 108, 663, 208]] #[{ accessFlags := 2, nameIndex := 5, descriptorIndex := 6, attributes := #[] }, { accessFlags := 265, nameIndex := 727, descriptorIndex := 728, attributes := #[] }] 49 2 #[] #[{ accessFlags := 25, nameIndex := 507, descriptorIndex := 526, attributes := #[] }, { accessFlags := 25, nameIndex := 399, descriptorIndex := 155, attributes := #[] }, { accessFlags := 25, nameIndex := 396, descriptorIndex := 155, attributes := #[] }, { accessFlags := 10, nameIndex := 525, descriptorIndex := 526, attributes := #[] }, { accessFlags := 26, nameIndex := 674, descriptorIndex := 12, attributes := #[] }, { accessFlags := 26, nameIndex := 677, descriptorIndex := 12, attributes := #[] }, { accessFlags := 10, nameIndex := 11, descriptorIndex := 12, attributes := #[] }, { accessFlags := 74, nameIndex := 175, descriptorIndex := 176, attributes := #[] }, { accessFlags := 10, nameIndex := 491, descriptorIndex := 222, attributes := #[] }, { accessFlags := 74, nameIndex := 29, descriptorIndex := 30, attributes := #[] }, { accessFlags := 74, nameIndex := 154, descriptorIndex := 155, attributes := #[] }, { accessFlags := 10, nameIndex := 217, descriptorIndex := 218, attributes := #[] }, { accessFlags := 10, nameIndex := 221, descriptorIndex := 222, attributes := #[] }, { accessFlags := 8, nameIndex := 562, descriptorIndex := 563, attributes := #[] }])
  fields := #[{ name := "in", type := (.object "java/io/InputStream"), accessFlags := 25, slot := 0, constantValue := 0 }, { name := "out", type := (.object "java/io/PrintStream"), accessFlags := 25, slot := 1, constantValue := 0 }, { name := "err", type := (.object "java/io/PrintStream"), accessFlags := 25, slot := 2, constantValue := 0 }, { name := "initialIn", type := (.object "java/io/InputStream"), accessFlags := 10, slot := 3, constantValue := 0 }, { name := "NEVER", type := .int, accessFlags := 26, slot := 4, constantValue := 0 }, { name := "MAYBE", type := .int, accessFlags := 26, slot := 5, constantValue := 0 }, { name := "allowSecurityManager", type := .int, accessFlags := 10, slot := 6, constantValue := 0 }, { name := "security", type := (.object "java/lang/SecurityManager"), accessFlags := 74, slot := 7, constantValue := 0 }, { name := "notSupportedJnuEncoding", type := (.object "java/lang/String"), accessFlags := 10, slot := 8, constantValue := 0 }, { name := "cons", type := (.object "java/io/Console"), accessFlags := 74, slot := 9, constantValue := 0 }, { name := "initialErrStream", type := (.object "java/io/PrintStream"), accessFlags := 74, slot := 10, constantValue := 0 }, { name := "props", type := (.object "java/util/Properties"), accessFlags := 10, slot := 11, constantValue := 0 }, { name := "lineSeparator", type := (.object "java/lang/String"), accessFlags := 10, slot := 12, constantValue := 0 }, { name := "bootLayer", type := (.object "java/lang/ModuleLayer"), accessFlags := 8, slot := 13, constantValue := 0 }]
  methods := #[k16m0, k16m1]
  instanceTypes := #[]
  staticTypes := #[(.object "java/io/InputStream"), (.object "java/io/PrintStream"), (.object "java/io/PrintStream"), (.object "java/io/InputStream"), .int, .int, .int, (.object "java/lang/SecurityManager"), (.object "java/lang/String"), (.object "java/io/Console"), (.object "java/io/PrintStream"), (.object "java/util/Properties"), (.object "java/lang/String"), (.object "java/lang/ModuleLayer")]
  resolved := Array.replicate 834 none
  statics := none }

def pool17 : Array CpInfo := pool [(9, u "<init>"), (6, .class_ 18), (1, u "java/lang/Object"), (0, u "()V"), (1, .class_ 23), (1, u "jdk/internal/util/ArraysSupport"), (0, u "LOG2_ARRAY_LONG_INDEX_SCALE"), (0, u "I"), (2, u "U"), (0, u "Ljdk/internal/misc/Unsafe;"), (8, u "BIG_ENDIAN"), (0, u "Z"), (8, u "LOG2_BYTE_BIT_SIZE"), (4, u "LOG2_ARRAY_INT_INDEX_SCALE"), (54, u "JLA"), (0, u "Ljdk/internal/access/JavaLangAccess;"), (11, u "LOG2_ARRAY_BOOLEAN_INDEX_SCALE"), (9, u "LOG2_ARRAY_BYTE_INDEX_SCALE"), (5, u "LOG2_ARRAY_CHAR_INDEX_SCALE"), (5, u "LOG2_ARRAY_SHORT_INDEX_SCALE"), (18, u "LOG2_ARRAY_FLOAT_INDEX_SCALE"), (24, u "LOG2_ARRAY_DOUBLE_INDEX_SCALE"), (6, .methodref 195 196), (0, .class_ 197), (0, .nameAndType 198 199), (0, u "java/lang/Math"), (0, u "max"), (0, u "(II)I"), (0, .integer 2147483639), (76, u "T_BOOLEAN"), (2, u "T_CHAR"), (1, u "T_FLOAT"), (1, u "T_DOUBLE"), (1, u "T_BYTE"), (1, u "T_SHORT"), (1, u "T_INT"), (1, u "T_LONG"), (1, u "SOFT_MAX_ARRAY_LENGTH"), (56, u "newLength"), (0, u "(III)I")] 25

def k17m0 : Method := { name := "<init>", desc := "()V", sig := { parameters := [], returnType := none }, accessFlags := 2, code := none }
def k17c1 : Code := { maxStack := 3, maxLocals := 4, code := jdk_48_method_27_code, exceptionTable := #[], attributes := #[] }
def k17m1 : Method := { name := "newLength", desc := "(III)I", sig := { parameters := [.int, .int, .int], returnType := some .int }, accessFlags := 9, code := some k17c1 }
/-- jdk/internal/util/ArraysSupport -/
def k17 : Class := { plain "jdk/internal/util/ArraysSupport" (some 0) with
  accessFlags := 33
  interfaces := #[]
  cf := some (fileOf pool17 21 #[] #[{ accessFlags := 2, nameIndex := 9, descriptorIndex := 19, attributes := #[] }, { accessFlags := 9, nameIndex := 351, descriptorIndex := 352, attributes := #[] }] 33 16 #[] #[{ accessFlags := 24, nameIndex := 28, descriptorIndex := 29, attributes := #[] }, { accessFlags := 26, nameIndex := 38, descriptorIndex := 39, attributes := #[] }, { accessFlags := 25, nameIndex := 121, descriptorIndex := 25, attributes := #[] }, { accessFlags := 25, nameIndex := 131, descriptorIndex := 25, attributes := #[] }, { accessFlags := 25, nameIndex := 137, descriptorIndex := 25, attributes := #[] }, { accessFlags := 25, nameIndex := 143, descriptorIndex := 25, attributes := #[] }, { accessFlags := 25, nameIndex := 53, descriptorIndex := 25, attributes := #[] }, { accessFlags := 25, nameIndex := 24, descriptorIndex := 25, attributes := #[] }, { accessFlags := 25, nameIndex := 162, descriptorIndex := 25, attributes := #[] }, { accessFlags := 25, nameIndex := 187, descriptorIndex := 25, attributes := #[] }, { accessFlags := 26, nameIndex := 48, descriptorIndex := 25, attributes := #[] }, { accessFlags := 25, nameIndex := 277, descriptorIndex := 25, attributes := #[] }, { accessFlags := 25, nameIndex := 280, descriptorIndex := 25, attributes := #[] }, { accessFlags := 25, nameIndex := 282, descriptorIndex := 25, attributes := #[] }, { accessFlags := 25, nameIndex := 284, descriptorIndex := 25, attributes := #[] }, { accessFlags := 25, nameIndex := 286, descriptorIndex := 25, attributes := #[] }, { accessFlags := 25, nameIndex := 288, descriptorIndex := 25, attributes := #[] }, { accessFlags := 25, nameIndex := 290, descriptorIndex := 25, attributes := #[] }, { accessFlags := 25, nameIndex := 292, descriptorIndex := 25, attributes := #[] }, { accessFlags := 26, nameIndex := 108, descriptorIndex := 109, attributes := #[] }, { accessFlags := 25, nameIndex := 294, descriptorIndex := 25, attributes := #[] }])
  fields := #[{ name := "U", type := (.object "jdk/internal/misc/Unsafe"), accessFlags := 24, slot := 0, constantValue := 0 }, { name := "BIG_ENDIAN", type := .boolean, accessFlags := 26, slot := 1, constantValue := 0 }, { name := "LOG2_ARRAY_BOOLEAN_INDEX_SCALE", type := .int, accessFlags := 25, slot := 2, constantValue := 0 }, { name := "LOG2_ARRAY_BYTE_INDEX_SCALE", type := .int, accessFlags := 25, slot := 3, constantValue := 0 }, { name := "LOG2_ARRAY_CHAR_INDEX_SCALE", type := .int, accessFlags := 25, slot := 4, constantValue := 0 }, { name := "LOG2_ARRAY_SHORT_INDEX_SCALE", type := .int, accessFlags := 25, slot := 5, constantValue := 0 }, { name := "LOG2_ARRAY_INT_INDEX_SCALE", type := .int, accessFlags := 25, slot := 6, constantValue := 0 }, { name := "LOG2_ARRAY_LONG_INDEX_SCALE", type := .int, accessFlags := 25, slot := 7, constantValue := 0 }, { name := "LOG2_ARRAY_FLOAT_INDEX_SCALE", type := .int, accessFlags := 25, slot := 8, constantValue := 0 }, { name := "LOG2_ARRAY_DOUBLE_INDEX_SCALE", type := .int, accessFlags := 25, slot := 9, constantValue := 0 }, { name := "LOG2_BYTE_BIT_SIZE", type := .int, accessFlags := 26, slot := 10, constantValue := 0 }, { name := "T_BOOLEAN", type := .int, accessFlags := 25, slot := 11, constantValue := 0 }, { name := "T_CHAR", type := .int, accessFlags := 25, slot := 12, constantValue := 0 }, { name := "T_FLOAT", type := .int, accessFlags := 25, slot := 13, constantValue := 0 }, { name := "T_DOUBLE", type := .int, accessFlags := 25, slot := 14, constantValue := 0 }, { name := "T_BYTE", type := .int, accessFlags := 25, slot := 15, constantValue := 0 }, { name := "T_SHORT", type := .int, accessFlags := 25, slot := 16, constantValue := 0 }, { name := "T_INT", type := .int, accessFlags := 25, slot := 17, constantValue := 0 }, { name := "T_LONG", type := .int, accessFlags := 25, slot := 18, constantValue := 0 }, { name := "JLA", type := (.object "jdk/internal/access/JavaLangAccess"), accessFlags := 26, slot := 19, constantValue := 0 }, { name := "SOFT_MAX_ARRAY_LENGTH", type := .int, accessFlags := 25, slot := 20, constantValue := 0 }]
  methods := #[k17m0, k17m1]
  instanceTypes := #[]
  staticTypes := #[(.object "jdk/internal/misc/Unsafe"), .boolean, .int, .int, .int, .int, .int, .int, .int, .int, .int, .int, .int, .int, .int, .int, .int, .int, .int, (.object "jdk/internal/access/JavaLangAccess"), .int]
  resolved := Array.replicate 378 none
  statics := none }

def pool18 : Array CpInfo := pool [(1, .class_ 2), (0, u "java/lang/Math"), (1, .class_ 6), (1, u "java/lang/Object"), (0, u "<init>"), (0, u "()V"), (89, .class_ 100), (1, u "java/lang/Math$RandomNumberGeneratorHolder"), (71, u "negativeZeroFloatBits"), (0, u "J"), (2, u "negativeZeroDoubleBits"), (21, u "max"), (2, u "min"), (43, u "$assertionsDisabled"), (0, u "Z"), (88, u "(II)I"), (2, u "twoToTheDoubleScaleDown"), (0, u "D"), (4, u "twoToTheDoubleScaleUp"), (9, u "E"), (3, u "PI"), (2, u "TAU"), (2, u "DEGREES_TO_RADIANS"), (0, u "RADIANS_TO_DEGREES")] 94

def k18m0 : Method := { name := "<init>", desc := "()V", sig := { parameters := [], returnType := none }, accessFlags := 2, code := none }
def k18c1 : Code := { maxStack := 2, maxLocals := 2, code := jdk_29_method_65_code, exceptionTable := #[], attributes := #[] }
def k18m1 : Method := { name := "max", desc := "(II)I", sig := { parameters := [.int, .int], returnType := some .int }, accessFlags := 9, code := some k18c1 }
def k18c2 : Code := { maxStack := 2, maxLocals := 2, code := jdk_29_method_69_code, exceptionTable := #[], attributes := #[] }
def k18m2 : Method := { name := "min", desc := "(II)I", sig := { parameters := [.int, .int], returnType := some .int }, accessFlags := 9, code := some k18c2 }
/-- java/lang/Math -/
def k18 : Class := { plain "java/lang/Math" (some 0) with
  accessFlags := 49
  interfaces := #[]
  cf := some (fileOf pool18 1 #[.nestMembers #[98]] #[{ accessFlags := 2, nameIndex := 7, descriptorIndex := 8, attributes := #[] }, { accessFlags := 9, nameIndex := 198, descriptorIndex := 335, attributes := #[] }, { accessFlags := 9, nameIndex := 201, descriptorIndex := 335, attributes := #[] }] 49 4 #[] #[{ accessFlags := 25, nameIndex := 354, descriptorIndex := 339, attributes := #[] }, { accessFlags := 25, nameIndex := 358, descriptorIndex := 339, attributes := #[] }, { accessFlags := 25, nameIndex := 361, descriptorIndex := 339, attributes := #[] }, { accessFlags := 26, nameIndex := 364, descriptorIndex := 339, attributes := #[] }, { accessFlags := 26, nameIndex := 365, descriptorIndex := 339, attributes := #[] }, { accessFlags := 26, nameIndex := 172, descriptorIndex := 173, attributes := #[] }, { accessFlags := 26, nameIndex := 176, descriptorIndex := 173, attributes := #[] }, { accessFlags := 8, nameIndex := 344, descriptorIndex := 339, attributes := #[] }, { accessFlags := 8, nameIndex := 338, descriptorIndex := 339, attributes := #[] }, { accessFlags := 4120, nameIndex := 245, descriptorIndex := 246, attributes := #[] }])
  fields := #[{ name := "E", type := .double, accessFlags := 25, slot := 0, constantValue := 0 }, { name := "PI", type := .double, accessFlags := 25, slot := 1, constantValue := 0 }, { name := "TAU", type := .double, accessFlags := 25, slot := 2, constantValue := 0 }, { name := "DEGREES_TO_RADIANS", type := .double, accessFlags := 26, slot := 3, constantValue := 0 }, { name := "RADIANS_TO_DEGREES", type := .double, accessFlags := 26, slot := 4, constantValue := 0 }, { name := "negativeZeroFloatBits", type := .long, accessFlags := 26, slot := 5, constantValue := 0 }, { name := "negativeZeroDoubleBits", type := .long, accessFlags := 26, slot := 6, constantValue := 0 }, { name := "twoToTheDoubleScaleUp", type := .double, accessFlags := 8, slot := 7, constantValue := 0 }, { name := "twoToTheDoubleScaleDown", type := .double, accessFlags := 8, slot := 8, constantValue := 0 }, { name := "$assertionsDisabled", type := .boolean, accessFlags := 4120, slot := 9, constantValue := 0 }]
  methods := #[k18m0, k18m1, k18m2]
  instanceTypes := #[]
  staticTypes := #[.double, .double, .double, .double, .double, .long, .long, .double, .double, .boolean]
  resolved := Array.replicate 460 none
  statics := none }

def pool19 : Array CpInfo := pool [(2, .class_ 4), (1, u "java/lang/Object"), (0, u "<init>"), (0, u "()V"), (7, .class_ 16), (1, u "java/util/Arrays"), (57, .class_ 76), (1, u "java/util/Arrays$NaturalOrder"), (32, u "()Ljava/lang/Object;"), (3, .class_ 115), (1, u "java/util/Arrays$LegacyMergeSort"), (1, u "Z"), (10, .nameAndType 129 109), (0, u "clone"), (9, u "copyOfRange"), (10, .methodref 151 152), (0, .class_ 153), (0, .nameAndType 154 155), (0, u "java/lang/System"), (0, u "arraycopy"), (0, u "(Ljava/lang/Object;ILjava/lang/Object;II)V"), (146, u "copyOf"), (1, .methodref 305 306), (0, .class_ 307), (0, .nameAndType 308 309), (0, u "java/lang/Math"), (0, u "min"), (0, u "(II)I"), (0, .methodref 311 128), (0, .class_ 312), (0, u "[B"), (29, u "([BII)[B"), (32, .class_ 376), (0, u "java/util/Arrays$ArrayList"), (68, u "$assertionsDisabled"), (269, u "MIN_ARRAY_SORT_GRAN"), (0, u "I"), (2, u "INSERTIONSORT_THRESHOLD"), (149, u "([BI)[B"), (105, .class_ 976), (0, u "java/util/Arrays$ArrayItr")] 52

def k19m0 : Method := { name := "<init>", desc := "()V", sig := { parameters := [], returnType := none }, accessFlags := 2, code := none }
def k19c1 : Code := { maxStack := 6, maxLocals := 3, code := jdk_65_method_121_code, exceptionTable := #[], attributes := #[] }
def k19m1 : Method := { name := "copyOf", desc := "([BI)[B", sig := { parameters := [(.array .byte), .int], returnType := some (.array .byte) }, accessFlags := 9, code := some k19c1 }
def k19c2 : Code := { maxStack := 3, maxLocals := 3, code := jdk_65_method_132_code, exceptionTable := #[], attributes := #[] }
def k19m2 : Method := { name := "copyOfRange", desc := "([BII)[B", sig := { parameters := [(.array .byte), .int, .int], returnType := some (.array .byte) }, accessFlags := 9, code := some k19c2 }
/-- java/util/Arrays -/
def k19 : Class := { plain "java/util/Arrays" (some 0) with
  accessFlags := 49
  interfaces := #[]
  cf := some (fileOf pool19 14 #[.nestMembers #[975, 375, 113, 74]] #[{ accessFlags := 2, nameIndex := 5, descriptorIndex := 6, attributes := #[] }, { accessFlags := 9, nameIndex := 302, descriptorIndex := 869, attributes := #[] }, { accessFlags := 9, nameIndex := 139, descriptorIndex := 342, attributes := #[] }] 49 2 #[] #[{ accessFlags := 26, nameIndex := 715, descriptorIndex := 716, attributes := #[] }, { accessFlags := 26, nameIndex := 719, descriptorIndex := 716, attributes := #[] }, { accessFlags := 4120, nameIndex := 445, descriptorIndex := 117, attributes := #[] }])
  fields := #[{ name := "MIN_ARRAY_SORT_GRAN", type := .int, accessFlags := 26, slot := 0, constantValue := 0 }, { name := "INSERTIONSORT_THRESHOLD", type := .int, accessFlags := 26, slot := 1, constantValue := 0 }, { name := "$assertionsDisabled", type := .boolean, accessFlags := 4120, slot := 2, constantValue := 0 }]
  methods := #[k19m0, k19m1, k19m2]
  instanceTypes := #[]
  staticTypes := #[.int, .int, .boolean]
  resolved := Array.replicate 1029 none
  statics := none }

def pool20 : Array CpInfo := pool [(1, .class_ 2), (0, u "java/lang/Cloneable"), (0, .class_ 4), (0, u "java/lang/Object")] 2

/-- java/lang/Cloneable -/
def k20 : Class := { plain "java/lang/Cloneable" (some 0) with
  accessFlags := 1537
  interfaces := #[]
  cf := some (fileOf pool20 1 #[] #[] 1537 3 #[] #[])
  fields := #[]
  methods := #[]
  instanceTypes := #[]
  staticTypes := #[]
  resolved := Array.replicate 7 none
  statics := none }

def pool21 : Array CpInfo := pool [(1, .class_ 2), (0, u "java/lang/String"), (1, .class_ 6), (1, u "java/lang/Object"), (0, u "<init>"), (0, u "()V"), (0, .methodref 1 10), (0, .nameAndType 11 12), (0, u "checkIndex"), (0, u "(II)V"), (1, .class_ 16), (1, u "java/lang/StringLatin1"), (0, u "inflate"), (2, .class_ 22), (1, u "java/lang/StringUTF16"), (3, .nameAndType 17 27), (0, u "([BI[BII)V"), (25, u "([BI)C"), (67, u "$assertionsDisabled"), (0, u "Z"), (98, .class_ 223), (1, u "java/lang/StringLatin1$LinesSpliterator"), (16, .methodref 20 26), (11, u "charAt"), (28, u "equals"), (0, u "([B[B)Z"), (107, .class_ 391), (0, u "java/lang/StringLatin1$CharsSpliterator")] 3

def k21m0 : Method := { name := "<init>", desc := "()V", sig := { parameters := [], returnType := none }, accessFlags := 0, code := none }
def k21c1 : Code := { maxStack := 2, maxLocals := 2, code := jdk_43_method_2_code, exceptionTable := #[], attributes := #[] }
def k21m1 : Method := { name := "charAt", desc := "([BI)C", sig := { parameters := [(.array .byte), .int], returnType := some .char }, accessFlags := 9, code := some k21c1 }
def k21c2 : Code := { maxStack := 3, maxLocals := 3, code := jdk_43_method_13_code, exceptionTable := #[], attributes := #[] }
def k21m2 : Method := { name := "equals", desc := "([B[B)Z", sig := { parameters := [(.array .byte), (.array .byte)], returnType := some .boolean }, accessFlags := 9, code := some k21c2 }
def k21c3 : Code := { maxStack := 5, maxLocals := 5, code := jdk_43_method_50_code, exceptionTable := #[], attributes := #[] }
def k21m3 : Method := { name := "inflate", desc := "([BI[BII)V", sig := { parameters := [(.array .byte), .int, (.array .byte), .int, .int], returnType := none }, accessFlags := 9, code := some k21c3 }
/-- java/lang/StringLatin1 -/
def k21 : Class := { plain "java/lang/StringLatin1" (some 0) with
  accessFlags := 48
  interfaces := #[]
  cf := some (fileOf pool21 14 #[.nestMembers #[390, 221]] #[{ accessFlags := 0, nameIndex := 7, descriptorIndex := 8, attributes := #[] }, { accessFlags := 9, nameIndex := 252, descriptorIndex := 53, attributes := #[] }, { accessFlags := 9, nameIndex := 281, descriptorIndex := 282, attributes := #[] }, { accessFlags := 9, nameIndex := 17, descriptorIndex := 27, attributes := #[] }] 48 4 #[] #[{ accessFlags := 4120, nameIndex := 121, descriptorIndex := 122, attributes := #[] }])
  fields := #[{ name := "$assertionsDisabled", type := .boolean, accessFlags := 4120, slot := 0, constantValue := 0 }]
  methods := #[k21m0, k21m1, k21m2, k21m3]
  instanceTypes := #[]
  staticTypes := #[.boolean]
  resolved := Array.replicate 395 none
  statics := none }

def pool22 : Array CpInfo := pool [(2, .class_ 4), (1, u "java/lang/Object"), (0, u "<init>"), (0, u "()V"), (17, .class_ 26), (1, u "jdk/internal/util/Preconditions"), (6, u "checkIndex"), (15, u "checkFromIndexSize"), (5, .class_ 56), (0, u "jdk/internal/util/Preconditions$4"), (57, .class_ 115), (0, u "jdk/internal/util/Preconditions$1"), (7, u "SIOOBE_FORMATTER"), (0, u "Ljava/util/function/BiFunction;"), (0, .class_ 126), (0, u "jdk/internal/util/Preconditions$2"), (3, u "AIOOBE_FORMATTER"), (0, .class_ 132), (0, u "jdk/internal/util/Preconditions$3"), (3, u "IOOBE_FORMATTER"), (41, u "(IILjava/util/function/BiFunction;)I"), (4, u "(IIILjava/util/function/BiFunction;)I")] 10

def k22m0 : Method := { name := "<init>", desc := "()V", sig := { parameters := [], returnType := none }, accessFlags := 1, code := none }
def k22c1 : Code := { maxStack := 3, maxLocals := 3, code := jdk_41_method_11_code, exceptionTable := #[], attributes := #[] }
def k22m1 : Method := { name := "checkIndex", desc := "(IILjava/util/function/BiFunction;)I", sig := { parameters := [.int, .int, (.object "java/util/function/BiFunction")], returnType := some .int }, accessFlags := 9, code := some k22c1 }
def k22c2 : Code := { maxStack := 4, maxLocals := 4, code := jdk_41_method_13_code, exceptionTable := #[], attributes := #[] }
def k22m2 : Method := { name := "checkFromIndexSize", desc := "(IIILjava/util/function/BiFunction;)I", sig := { parameters := [.int, .int, .int, (.object "java/util/function/BiFunction")], returnType := some .int }, accessFlags := 9, code := some k22c2 }
/-- jdk/internal/util/Preconditions -/
def k22 : Class := { plain "jdk/internal/util/Preconditions" (some 0) with
  accessFlags := 33
  interfaces := #[]
  cf := some (fileOf pool22 24 #[.nestMembers #[55, 131, 125, 114]] #[{ accessFlags := 1, nameIndex := 5, descriptorIndex := 6, attributes := #[] }, { accessFlags := 9, nameIndex := 33, descriptorIndex := 178, attributes := #[] }, { accessFlags := 9, nameIndex := 49, descriptorIndex := 183, attributes := #[] }] 33 2 #[] #[{ accessFlags := 25, nameIndex := 123, descriptorIndex := 124, attributes := #[] }, { accessFlags := 25, nameIndex := 130, descriptorIndex := 124, attributes := #[] }, { accessFlags := 25, nameIndex := 136, descriptorIndex := 124, attributes := #[] }])
  fields := #[{ name := "SIOOBE_FORMATTER", type := (.object "java/util/function/BiFunction"), accessFlags := 25, slot := 0, constantValue := 0 }, { name := "AIOOBE_FORMATTER", type := (.object "java/util/function/BiFunction"), accessFlags := 25, slot := 1, constantValue := 0 }, { name := "IOOBE_FORMATTER", type := (.object "java/util/function/BiFunction"), accessFlags := 25, slot := 2, constantValue := 0 }]
  methods := #[k22m0, k22m1, k22m2]
  instanceTypes := #[]
  staticTypes := #[(.object "java/util/function/BiFunction"), (.object "java/util/function/BiFunction"), (.object "java/util/function/BiFunction")]
  resolved := Array.replicate 194 none
  statics := some 3 }

def pool23 : Array CpInfo := pool [(2, .class_ 4), (1, u "java/lang/Object"), (0, u "<init>"), (0, u "()V"), (12, .class_ 20), (0, u "java/util/Collections"), (63, u "r"), (0, u "Ljava/util/Random;"), (80, .class_ 167), (0, u "java/util/Collections$UnmodifiableCollection"), (6, .class_ 175), (0, u "java/util/Collections$UnmodifiableSequencedCollection"), (6, .class_ 183), (0, u "java/util/Collections$UnmodifiableSet"), (6, .class_ 191), (0, u "java/util/Collections$UnmodifiableSequencedSet"), (6, .class_ 199), (0, u "java/util/Collections$UnmodifiableSortedSet"), (6, .class_ 207), (0, u "java/util/Collections$UnmodifiableNavigableSet"), (4, .class_ 213), (0, u "java/util/Collections$UnmodifiableList"), (1, .class_ 216), (0, u "java/util/Collections$UnmodifiableRandomAccessList"), (6, .class_ 224), (0, u "java/util/Collections$UnmodifiableMap"), (6, .class_ 232), (0, u "java/util/Collections$UnmodifiableSequencedMap"), (4, .class_ 238), (0, u "java/util/Collections$UnmodifiableSortedMap"), (6, .class_ 246), (0, u "java/util/Collections$UnmodifiableNavigableMap"), (3, .class_ 251), (0, u "java/util/Collections$SynchronizedCollection"), (4, .class_ 257), (0, u "java/util/Collections$SynchronizedSet"), (4, .class_ 263), (0, u "java/util/Collections$SynchronizedSortedSet"), (1, .class_ 266), (0, u "java/util/Collections$SynchronizedNavigableSet"), (1, .class_ 269), (0, u "java/util/Collections$SynchronizedRandomAccessList"), (1, .class_ 272), (0, u "java/util/Collections$SynchronizedList"), (5, .class_ 279), (0, u "java/util/Collections$SynchronizedMap"), (1, .class_ 282), (0, u "java/util/Collections$SynchronizedSortedMap"), (1, .class_ 285), (0, u "java/util/Collections$SynchronizedNavigableMap"), (1, .class_ 288), (0, u "java/util/Collections$CheckedCollection"), (11, .class_ 301), (0, u "java/util/Collections$CheckedQueue"), (3, .class_ 306), (0, u "java/util/Collections$CheckedSet"), (3, .class_ 311), (0, u "java/util/Collections$CheckedSortedSet"), (3, .class_ 316), (0, u "java/util/Collections$CheckedNavigableSet"), (3, .class_ 321), (0, u "java/util/Collections$CheckedRandomAccessList"), (3, .class_ 326), (0, u "java/util/Collections$CheckedList"), (1, .class_ 329), (0, u "java/util/Collections$CheckedMap"), (3, .class_ 334), (0, u "java/util/Collections$CheckedSortedMap"), (3, .class_ 339), (0, u "java/util/Collections$CheckedNavigableMap"), (4, .class_ 346), (1, u "java/util/Collections$EmptyIterator"), (3, .class_ 352), (1, u "java/util/Collections$EmptyListIterator"), (2, .class_ 357), (1, u "java/util/Collections$EmptyEnumeration"), (4, u "EMPTY_SET"), (0, u "Ljava/util/Set;"), (6, u "EMPTY_LIST"), (0, u "Ljava/util/List;"), (2, u "EMPTY_MAP"), (0, u "Ljava/util/Map;"), (4, .class_ 381), (0, u "java/util/Collections$SingletonSet"), (2, .class_ 385), (0, u "java/util/Collections$1"), (1, .class_ 388), (0, u "java/util/Collections$2"), (1, .class_ 391), (0, u "java/util/Collections$SingletonList"), (1, .class_ 394), (0, u "java/util/Collections$SingletonMap"), (22, .class_ 418), (0, u "java/util/Collections$CopiesList"), (4, .class_ 425), (1, u "java/util/Collections$ReverseComparator"), (8, .class_ 435), (0, u "java/util/Collections$ReverseComparator2"), (6, .class_ 443), (0, u "java/util/Collections$3"), (25, .class_ 470), (0, u "java/util/Collections$SetFromMap"), (2, .class_ 474), (0, u "java/util/Collections$SequencedSetFromMap"), (3, .class_ 479), (0, u "java/util/Collections$AsLIFOQueue"), (11, .class_ 492), (0, u "java/util/Collections$EmptySet"), (1, .class_ 495), (0, u "java/util/Collections$EmptyList"), (1, .class_ 498), (0, u "java/util/Collections$EmptyMap"), (1, u "BINARYSEARCH_THRESHOLD"), (0, u "I"), (2, u "REVERSE_THRESHOLD"), (1, u "SHUFFLE_THRESHOLD"), (1, u "FILL_THRESHOLD"), (1, u "ROTATE_THRESHOLD"), (1, u "COPY_THRESHOLD"), (1, u "REPLACEALL_THRESHOLD"), (1, u "INDEXOFSUBLIST_THRESHOLD"), (333, .class_ 851), (0, u "java/util/Collections$CheckedMap$CheckedEntrySet"), (0, .class_ 853), (0, u "java/util/Collections$CheckedMap$CheckedEntrySet$CheckedEntry"), (0, .class_ 855), (0, u "java/util/Collections$CheckedMap$CheckedEntrySet$1"), (0, .class_ 857), (0, u "java/util/Collections$CheckedList$1"), (0, .class_ 859), (0, u "java/util/Collections$CheckedCollection$1"), (0, .class_ 861), (0, u "java/util/Collections$UnmodifiableNavigableMap$EmptyNavigableMap"), (0, .class_ 863), (0, u "java/util/Collections$UnmodifiableMap$UnmodifiableEntrySet"), (0, .class_ 865), (0, u "java/util/Collections$UnmodifiableMap$UnmodifiableEntrySet$UnmodifiableEntry"), (0, .class_ 867), (0, u "java/util/Collections$UnmodifiableMap$UnmodifiableEntrySet$UnmodifiableEntrySetSpliterator"), (0, .class_ 869), (0, u "java/util/Collections$UnmodifiableMap$UnmodifiableEntrySet$1"), (0, .class_ 871), (0, u "java/util/Collections$UnmodifiableList$1"), (0, .class_ 873), (0, u "java/util/Collections$UnmodifiableNavigableSet$EmptyNavigableSet"), (0, .class_ 875), (0, u "java/util/Collections$UnmodifiableCollection$1")] 57

def k23m0 : Method := { name := "<init>", desc := "()V", sig := { parameters := [], returnType := none }, accessFlags := 2, code := none }
/-- java/util/Collections -/
def k23 : Class := { plain "java/util/Collections" (some 0) with
  accessFlags := 33
  interfaces := #[]
  cf := some (fileOf pool23 19 #[.nestMembers #[478, 473, 469, 434, 423, 417, 393, 390, 380, 497, 494, 491, 355, 350, 344, 338, 333, 328, 850, 852, 854, 320, 325, 856, 315, 310, 305, 300, 287, 858, 284, 281, 278, 268, 271, 265, 262, 256, 250, 245, 860, 237, 231, 223, 862, 864, 866, 868, 215, 212, 870, 206, 872, 198, 190, 182, 174, 166, 874, 442, 387, 384]] #[{ accessFlags := 2, nameIndex := 5, descriptorIndex := 6, attributes := #[] }] 33 2 #[] #[{ accessFlags := 26, nameIndex := 500, descriptorIndex := 501, attributes := #[] }, { accessFlags := 26, nameIndex := 504, descriptorIndex := 501, attributes := #[] }, { accessFlags := 26, nameIndex := 506, descriptorIndex := 501, attributes := #[] }, { accessFlags := 26, nameIndex := 508, descriptorIndex := 501, attributes := #[] }, { accessFlags := 26, nameIndex := 510, descriptorIndex := 501, attributes := #[] }, { accessFlags := 26, nameIndex := 512, descriptorIndex := 501, attributes := #[] }, { accessFlags := 26, nameIndex := 514, descriptorIndex := 501, attributes := #[] }, { accessFlags := 26, nameIndex := 516, descriptorIndex := 501, attributes := #[] }, { accessFlags := 10, nameIndex := 84, descriptorIndex := 85, attributes := #[] }, { accessFlags := 25, nameIndex := 362, descriptorIndex := 363, attributes := #[] }, { accessFlags := 25, nameIndex := 370, descriptorIndex := 371, attributes := #[] }, { accessFlags := 25, nameIndex := 374, descriptorIndex := 375, attributes := #[] }])
  fields := #[{ name := "BINARYSEARCH_THRESHOLD", type := .int, accessFlags := 26, slot := 0, constantValue := 0 }, { name := "REVERSE_THRESHOLD", type := .int, accessFlags := 26, slot := 1, constantValue := 0 }, { name := "SHUFFLE_THRESHOLD", type := .int, accessFlags := 26, slot := 2, constantValue := 0 }, { name := "FILL_THRESHOLD", type := .int, accessFlags := 26, slot := 3, constantValue := 0 }, { name := "ROTATE_THRESHOLD", type := .int, accessFlags := 26, slot := 4, constantValue := 0 }, { name := "COPY_THRESHOLD", type := .int, accessFlags := 26, slot := 5, constantValue := 0 }, { name := "REPLACEALL_THRESHOLD", type := .int, accessFlags := 26, slot := 6, constantValue := 0 }, { name := "INDEXOFSUBLIST_THRESHOLD", type := .int, accessFlags := 26, slot := 7, constantValue := 0 }, { name := "r", type := (.object "java/util/Random"), accessFlags := 10, slot := 8, constantValue := 0 }, { name := "EMPTY_SET", type := (.object "java/util/Set"), accessFlags := 25, slot := 9, constantValue := 0 }, { name := "EMPTY_LIST", type := (.object "java/util/List"), accessFlags := 25, slot := 10, constantValue := 0 }, { name := "EMPTY_MAP", type := (.object "java/util/Map"), accessFlags := 25, slot := 11, constantValue := 0 }]
  methods := #[k23m0]
  instanceTypes := #[]
  staticTypes := #[.int, .int, .int, .int, .int, .int, .int, .int, (.object "java/util/Random"), (.object "java/util/Set"), (.object "java/util/List"), (.object "java/util/Map")]
  resolved := Array.replicate 933 none
  statics := some 4 }

def pool24 : Array CpInfo := pool [(8, .class_ 10), (1, u "java/lang/Iterable"), (24, .class_ 36), (0, u "java/lang/Object")] 25

/-- java/lang/Iterable -/
def k24 : Class := { plain "java/lang/Iterable" (some 0) with
  accessFlags := 1537
  interfaces := #[]
  cf := some (fileOf pool24 8 #[] #[] 1537 35 #[] #[])
  fields := #[]
  methods := #[]
  instanceTypes := #[]
  staticTypes := #[]
  resolved := Array.replicate 62 none
  statics := none }

def pool25 : Array CpInfo := pool [(10, .class_ 12), (1, u "java/util/Collection"), (47, .class_ 61), (0, u "java/lang/Object"), (0, .class_ 63), (0, u "java/lang/Iterable")] 51

/-- java/util/Collection -/
def k25 : Class := { plain "java/util/Collection" (some 0) with
  accessFlags := 1537
  interfaces := #[24]
  cf := some (fileOf pool25 10 #[] #[] 1537 60 #[62] #[])
  fields := #[]
  methods := #[]
  instanceTypes := #[]
  staticTypes := #[]
  resolved := Array.replicate 115 none
  statics := none }

def pool26 : Array CpInfo := pool [(2, .class_ 4), (1, u "java/lang/Object"), (0, u "<init>"), (0, u "()V"), (1, .class_ 10), (1, u "java/util/AbstractCollection"), (66, .class_ 78), (0, u "java/util/Collection")] 81

def k26m0 : Method := { name := "<init>", desc := "()V", sig := { parameters := [], returnType := none }, accessFlags := 4, code := none }
/-- java/util/AbstractCollection -/
def k26 : Class := { plain "java/util/AbstractCollection" (some 0) with
  accessFlags := 1057
  interfaces := #[25]
  cf := some (fileOf pool26 8 #[] #[{ accessFlags := 4, nameIndex := 5, descriptorIndex := 6, attributes := #[] }] 1057 2 #[77] #[])
  fields := #[]
  methods := #[k26m0]
  instanceTypes := #[]
  staticTypes := #[]
  resolved := Array.replicate 160 none
  statics := none }

def pool27 : Array CpInfo := pool [(8, .class_ 10), (1, u "java/util/SequencedCollection"), (15, .class_ 27), (0, u "java/lang/Object"), (0, .class_ 29), (0, u "java/util/Collection")] 27

/-- java/util/SequencedCollection -/
def k27 : Class := { plain "java/util/SequencedCollection" (some 0) with
  accessFlags := 1537
  interfaces := #[25]
  cf := some (fileOf pool27 8 #[] #[] 1537 26 #[28] #[])
  fields := #[]
  methods := #[]
  instanceTypes := #[]
  staticTypes := #[]
  resolved := Array.replicate 57 none
  statics := none }

def pool28 : Array CpInfo := pool [(8, .class_ 10), (1, u "java/util/List"), (92, .class_ 104), (0, u "java/lang/Object"), (15, .class_ 121), (0, u "java/util/SequencedCollection")] 129

/-- java/util/List -/
def k28 : Class := { plain "java/util/List" (some 0) with
  accessFlags := 1537
  interfaces := #[27]
  cf := some (fileOf pool28 8 #[] #[] 1537 103 #[120] #[])
  fields := #[]
  methods := #[]
  instanceTypes := #[]
  staticTypes := #[]
  resolved := Array.replicate 251 none
  statics := none }

def pool29 : Array CpInfo := pool [(2, .class_ 4), (1, u "java/util/AbstractCollection"), (0, u "<init>"), (0, u "()V"), (1, .class_ 10), (1, u "java/util/AbstractList"), (0, u "modCount"), (0, u "I"), (64, .class_ 78), (0, u "java/util/AbstractList$Itr"), (3, .class_ 83), (0, u "java/util/AbstractList$ListItr"), (9, .class_ 94), (0, u "java/util/AbstractList$RandomAccessSubList"), (3, .class_ 99), (0, u "java/util/AbstractList$SubList"), (33, .class_ 134), (0, u "java/util/List"), (73, .class_ 209), (0, u "java/util/AbstractList$SubList$1"), (0, .class_ 211), (0, u "java/util/AbstractList$RandomAccessSpliterator")] 6

def k29m0 : Method := { name := "<init>", desc := "()V", sig := { parameters := [], returnType := none }, accessFlags := 4, code := none }
/-- java/util/AbstractList -/
def k29 : Class := { plain "java/util/AbstractList" (some 26) with
  accessFlags := 1057
  interfaces := #[28]
  cf := some (fileOf pool29 8 #[.nestMembers #[93, 98, 208, 210, 82, 77]] #[{ accessFlags := 4, nameIndex := 5, descriptorIndex := 6, attributes := #[] }] 1057 2 #[133] #[{ accessFlags := 132, nameIndex := 11, descriptorIndex := 12, attributes := #[] }])
  fields := #[{ name := "modCount", type := .int, accessFlags := 132, slot := 0, constantValue := 0 }]
  methods := #[k29m0]
  instanceTypes := #[.int]
  staticTypes := #[]
  resolved := Array.replicate 218 none
  statics := none }

def pool30 : Array CpInfo := pool [(1, .class_ 2), (0, u "java/util/RandomAccess"), (0, .class_ 4), (0, u "java/lang/Object")] 2

/-- java/util/RandomAccess -/
def k30 : Class := { plain "java/util/RandomAccess" (some 0) with
  accessFlags := 1537
  interfaces := #[]
  cf := some (fileOf pool30 1 #[] #[] 1537 3 #[] #[])
  fields := #[]
  methods := #[]
  instanceTypes := #[]
  staticTypes := #[]
  resolved := Array.replicate 7 none
  statics := none }

def pool31 : Array CpInfo := pool [(2, .class_ 4), (1, u "java/util/AbstractList"), (0, u "<init>"), (0, u "()V"), (1, .class_ 10), (1, u "java/util/Collections"), (54, .class_ 66), (0, u "java/util/Collections$EmptyList"), (0, .class_ 68), (0, u "java/util/RandomAccess"), (0, .class_ 70), (0, u "java/io/Serializable"), (0, u "serialVersionUID"), (0, u "J")] 77

def k31m0 : Method := { name := "<init>", desc := "()V", sig := { parameters := [], returnType := none }, accessFlags := 2, code := none }
/-- java/util/Collections$EmptyList -/
def k31 : Class := { plain "java/util/Collections$EmptyList" (some 29) with
  accessFlags := 32
  interfaces := #[30, 2]
  cf := some (fileOf pool31 65 #[.nestHost 8] #[{ accessFlags := 2, nameIndex := 5, descriptorIndex := 6, attributes := #[] }] 32 2 #[67, 69] #[{ accessFlags := 26, nameIndex := 71, descriptorIndex := 72, attributes := #[] }])
  fields := #[{ name := "serialVersionUID", type := .long, accessFlags := 26, slot := 0, constantValue := 0 }]
  methods := #[k31m0]
  instanceTypes := #[.int]
  staticTypes := #[.long]
  resolved := Array.replicate 150 none
  statics := none }

def pool32 : Array CpInfo := pool [(2, .class_ 4), (1, u "java/lang/StackTraceElement"), (0, u "<init>"), (2, .class_ 10), (1, u "java/lang/Object"), (0, u "()V"), (2, u "format"), (0, u "B"), (2, u "classLoaderName"), (0, u "Ljava/lang/String;"), (2, u "moduleName"), (2, u "moduleVersion"), (12, u "declaringClass"), (4, u "methodName"), (2, u "fileName"), (2, u "lineNumber"), (0, u "I"), (65, u "declaringClassObject"), (0, u "Ljava/lang/Class;"), (33, .class_ 153), (1, u "java/lang/StackTraceElement$HashedModules"), (17, .class_ 172), (0, u "java/io/Serializable"), (0, u "NATIVE_METHOD"), (1, u "UNKNOWN_SOURCE"), (2, u "BUILTIN_CLASS_LOADER"), (1, u "JDK_NON_UPGRADEABLE_MODULE"), (1, u "serialVersionUID"), (0, u "J")] 51

def k32m0 : Method := { name := "<init>", desc := "()V", sig := { parameters := [], returnType := none }, accessFlags := 2, code := none }
/-- java/lang/StackTraceElement -/
def k32 : Class := { plain "java/lang/StackTraceElement" (some 0) with
  accessFlags := 49
  interfaces := #[2]
  cf := some (fileOf pool32 2 #[.nestMembers #[151]] #[{ accessFlags := 2, nameIndex := 5, descriptorIndex := 11, attributes := #[] }] 49 8 #[171] #[{ accessFlags := 26, nameIndex := 173, descriptorIndex := 19, attributes := #[] }, { accessFlags := 26, nameIndex := 175, descriptorIndex := 19, attributes := #[] }, { accessFlags := 130, nameIndex := 116, descriptorIndex := 117, attributes := #[] }, { accessFlags := 2, nameIndex := 18, descriptorIndex := 19, attributes := #[] }, { accessFlags := 2, nameIndex := 22, descriptorIndex := 19, attributes := #[] }, { accessFlags := 2, nameIndex := 25, descriptorIndex := 19, attributes := #[] }, { accessFlags := 2, nameIndex := 38, descriptorIndex := 19, attributes := #[] }, { accessFlags := 2, nameIndex := 43, descriptorIndex := 19, attributes := #[] }, { accessFlags := 2, nameIndex := 46, descriptorIndex := 19, attributes := #[] }, { accessFlags := 2, nameIndex := 49, descriptorIndex := 50, attributes := #[] }, { accessFlags := 2, nameIndex := 14, descriptorIndex := 15, attributes := #[] }, { accessFlags := 26, nameIndex := 178, descriptorIndex := 15, attributes := #[] }, { accessFlags := 26, nameIndex := 180, descriptorIndex := 15, attributes := #[] }, { accessFlags := 26, nameIndex := 182, descriptorIndex := 183, attributes := #[] }])
  fields := #[{ name := "NATIVE_METHOD", type := (.object "java/lang/String"), accessFlags := 26, slot := 0, constantValue := 0 }, { name := "UNKNOWN_SOURCE", type := (.object "java/lang/String"), accessFlags := 26, slot := 1, constantValue := 0 }, { name := "declaringClassObject", type := (.object "java/lang/Class"), accessFlags := 130, slot := 0, constantValue := 0 }, { name := "classLoaderName", type := (.object "java/lang/String"), accessFlags := 2, slot := 1, constantValue := 0 }, { name := "moduleName", type := (.object "java/lang/String"), accessFlags := 2, slot := 2, constantValue := 0 }, { name := "moduleVersion", type := (.object "java/lang/String"), accessFlags := 2, slot := 3, constantValue := 0 }, { name := "declaringClass", type := (.object "java/lang/String"), accessFlags := 2, slot := 4, constantValue := 0 }, { name := "methodName", type := (.object "java/lang/String"), accessFlags := 2, slot := 5, constantValue := 0 }, { name := "fileName", type := (.object "java/lang/String"), accessFlags := 2, slot := 6, constantValue := 0 }, { name := "lineNumber", type := .int, accessFlags := 2, slot := 7, constantValue := 0 }, { name := "format", type := .byte, accessFlags := 2, slot := 8, constantValue := 0 }, { name := "BUILTIN_CLASS_LOADER", type := .byte, accessFlags := 26, slot := 2, constantValue := 0 }, { name := "JDK_NON_UPGRADEABLE_MODULE", type := .byte, accessFlags := 26, slot := 3, constantValue := 0 }, { name := "serialVersionUID", type := .long, accessFlags := 26, slot := 4, constantValue := 0 }]
  methods := #[k32m0]
  instanceTypes := #[(.object "java/lang/Class"), (.object "java/lang/String"), (.object "java/lang/String"), (.object "java/lang/String"), (.object "java/lang/String"), (.object "java/lang/String"), (.object "java/lang/String"), .int, .byte]
  staticTypes := #[(.object "java/lang/String"), (.object "java/lang/String"), .byte, .byte, .long]
  resolved := Array.replicate 235 none
  statics := none }

/-- the primitive byte -/
def k33 : Class := { plain "byte" none with kind := .primitive 'B', accessFlags := 0x411 }
/-- [B -/
def k34 : Class := { plain "[B" (some 0) with kind := .array 33 .byte, interfaces := #[20, 2], accessFlags := 1041 }

/-- the primitive char -/
def k35 : Class := { plain "char" none with kind := .primitive 'C', accessFlags := 0x411 }
/-- [C -/
def k36 : Class := { plain "[C" (some 0) with kind := .array 35 .char, interfaces := #[20, 2], accessFlags := 1041 }

/-- the primitive int -/
def k37 : Class := { plain "int" none with kind := .primitive 'I', accessFlags := 0x411 }
/-- [I -/
def k38 : Class := { plain "[I" (some 0) with kind := .array 37 .int, interfaces := #[20, 2], accessFlags := 1041 }

/-- [Ljava/lang/Object; -/
def k39 : Class := { plain "[Ljava/lang/Object;" (some 0) with kind := .array 0 (.object "java/lang/Object"), interfaces := #[20, 2], accessFlags := 1041 }

/-- [Ljava/lang/StackTraceElement; -/
def k40 : Class := { plain "[Ljava/lang/StackTraceElement;" (some 0) with kind := .array 32 (.object "java/lang/StackTraceElement"), interfaces := #[20, 2], accessFlags := 1041 }

/-- [Ljava/lang/Throwable; -/
def k41 : Class := { plain "[Ljava/lang/Throwable;" (some 0) with kind := .array 10 (.object "java/lang/Throwable"), interfaces := #[20, 2], accessFlags := 1041 }

def heap : Heap := #[{ cls := 7, slots := #[.long 0, .int 1, .null, .int 0, .null, .int 0, .int 0], vm := .statics 7 },
  { cls := 8, slots := #[.int 0, .int 8, .int 0, .int 1], vm := .statics 8 },
  { cls := 10, slots := #[.long 0, .ref 5, .ref 6, .null, .null, .null, .null, .ref 7, .int 1], vm := .statics 10 },
  { cls := 22, slots := #[.null, .null, .null], vm := .statics 22 },
  { cls := 23, slots := #[.int 0, .int 0, .int 0, .int 0, .int 0, .int 0, .int 0, .int 0, .null, .null, .ref 6, .null], vm := .statics 23 },
  { cls := 40, slots := #[], vm := .none },
  { cls := 31, slots := #[.int 0], vm := .none },
  { cls := 41, slots := #[], vm := .none }]
def classes : Array Class := #[k0, k1, k2, k3, k4, k5, k6, k7, k8, k9, k10, k11, k12, k13, k14, k15, k16, k17, k18, k19, k20, k21, k22, k23, k24, k25, k26, k27, k28, k29, k30, k31, k32, k33, k34, k35, k36, k37, k38, k39, k40, k41]
def interned : List (Array UInt16 × Addr) := []
def slotsUsed : Nat := 36
def theMethod : MethodId := ⟨1, 1⟩
def args0 : Array Value := #[.int 6422625, .int 6553699, .int 6684773]
def aboutOver (below : List Frame) : State where
  vm := { classes := classes, interned := interned.toArray }
  heap := heap
  slotsUsed := slotsUsed
  threads := #[{ frames := .invoking theMethod args0 :: below }]
def below0 : List Frame := [.native { method := ⟨0, 0⟩, args := #[] }]
def about1 : State := aboutOver below0
def p0 : Program := .bare "" "" ""
def e0 : Env := launch0.env 0 0 0
theorem w_frames : about1.frames = Frame.invoking theMethod args0 :: below0 := rfl
set_option maxRecDepth 65536 in
theorem w_args : argsFit about1.vm theMethod args0 = true := by decide +kernel
set_option maxRecDepth 65536 in
theorem w_heap : heapFits about1 = true := by decide +kernel
set_option maxRecDepth 65536 in
theorem w_runnable : about1.curStatus? = some .runnable := by decide +kernel
set_option maxRecDepth 65536 in
theorem w_alone : about1.alone = true := by decide +kernel
set_option maxRecDepth 65536 in
theorem w_named : about1.methodNamed? x = some theMethod := by decide +kernel
set_option maxRecDepth 65536 in
theorem w_hears : about1.hears theMethod below0 = true := by decide +kernel
set_option maxRecDepth 65536 in
theorem w_ripe : about1.ripe theMethod args0 below0 = true := by decide +kernel
theorem w_running : about1.status = .running := rfl
set_option maxRecDepth 65536 in
theorem w_room : about1.hasRoom e0.platform room_1 = true :=
  launch0.hasRoom_least _ room_1 (by decide +kernel) (by decide +kernel) (by decide +kernel) (by decide +kernel) (by decide +kernel) (by decide +kernel)
theorem allAtoms_all (ts : List Jvm.Cond) (a : Array Jvm.Value) (st : Jvm.State) : (allAtoms ts).before a st = ts.all (fun c => c.before a st) := by
  induction ts with
  | nil => rfl
  | cons c t ih =>
    show (Jvm.Cond.and c (allAtoms t)).before a st = _
    rw [Jvm.Cond.before_and, ih, List.all_cons]
def words1 : List Jvm.Cond := Jvm.Cond.code x code maxLocals ret :: tables_1
/-- a 'code' word, met by the world's own term for the bytes: nothing is compared byte by byte -/
theorem code_word {y : MethodName} {bytes : ByteArray} {mx : Nat} {rt : Option FieldType} {a : Array Value} {s : State} {m : MethodId} {meth : Method} {c : Code} (h1 : s.methodNamed? y = some m) (h2 : s.vm.method? m = some meth) (h3 : meth.code = some c) (h4 : c.code = bytes)
    (h5 : (c.maxLocals == mx && c.exceptionTable.isEmpty && decide (c.maxStack ≤ mostOperands) && decide (meth.sig.returnType = rt) && !meth.locks && decide (parseMethodDescriptor y.desc = some meth.sig)) = true) : (Jvm.Cond.code y bytes mx rt).before a s = true := by
  simp only [Bool.and_eq_true, beq_iff_eq, Bool.not_eq_true', decide_eq_true_eq] at h5
  obtain ⟨⟨⟨⟨⟨g1, g2⟩, g3⟩, g4⟩, g5⟩, g6⟩ := h5
  simp [Cond.before, Cond.holds, Cond.value, h1, h2, h3, h4, g1, g2, g3, g4, g5, g6]
def isCode : Jvm.Cond → Bool
  | .code _ _ _ _ => true
  | _ => false
theorem all_split {L : List Jvm.Cond} {P : Jvm.Cond → Bool} (h1 : L.all (fun c => isCode c || P c) = true) (h2 : ∀ c ∈ L.filter isCode, P c = true) : L.all P = true := by
  refine List.all_eq_true.mpr fun c hc => ?_
  have h := List.all_eq_true.mp h1 c hc
  rcases Bool.eq_false_or_eq_true (isCode c) with hi | hi
  · exact h2 c (List.mem_filter.mpr ⟨hc, hi⟩)
  · simpa [hi] using h
set_option maxRecDepth 65536 in
theorem w_c0 : (Jvm.Cond.code x code maxLocals ret).before args0 about1 = true := code_word (m := ⟨1, 1⟩) (meth := k1m1) (c := k1c1) (by decide +kernel) rfl rfl rfl (by decide +kernel)
set_option maxRecDepth 65536 in
theorem w_c1 : (Jvm.Cond.code ({ cls := "com/example/anteriorita/anteriorita/RecordIdsDuplicatePinLaw", name := "two", desc := "(I)Ljava/lang/String;" } : Jvm.MethodName) method_3_code (2 : Nat) (Option.some (Jvm.ClassFile.FieldType.object "java/lang/String"))).before args0 about1 = true := code_word (m := ⟨1, 2⟩) (meth := k1m2) (c := k1c2) (by decide +kernel) rfl rfl rfl (by decide +kernel)
set_option maxRecDepth 65536 in
theorem w_c2 : (Jvm.Cond.code ({ cls := "java/lang/String", name := "<init>", desc := "([C)V" } : Jvm.MethodName) jdk_42_method_3_code (2 : Nat) (Option.none : Option Jvm.ClassFile.FieldType)).before args0 about1 = true := code_word (m := ⟨7, 1⟩) (meth := k7m1) (c := k7c1) (by decide +kernel) rfl rfl rfl (by decide +kernel)
set_option maxRecDepth 65536 in
theorem w_c3 : (Jvm.Cond.code ({ cls := "java/lang/String", name := "<init>", desc := "([CIILjava/lang/Void;)V" } : Jvm.MethodName) jdk_42_method_149_code (6 : Nat) (Option.none : Option Jvm.ClassFile.FieldType)).before args0 about1 = true := code_word (m := ⟨7, 7⟩) (meth := k7m7) (c := k7c7) (by decide +kernel) rfl rfl rfl (by decide +kernel)
set_option maxRecDepth 65536 in
theorem w_c4 : (Jvm.Cond.code ({ cls := "java/lang/Object", name := "<init>", desc := "()V" } : Jvm.MethodName) object_method_1_code (1 : Nat) (Option.none : Option Jvm.ClassFile.FieldType)).before args0 about1 = true := code_word (m := ⟨0, 0⟩) (meth := k0m0) (c := k0c0) (by decide +kernel) rfl rfl rfl (by decide +kernel)
set_option maxRecDepth 65536 in
theorem w_c5 : (Jvm.Cond.code ({ cls := "java/lang/StringUTF16", name := "compress", desc := "([CII)[B" } : Jvm.MethodName) jdk_52_method_16_code (6 : Nat) (Option.some (Jvm.ClassFile.FieldType.array Jvm.ClassFile.FieldType.byte))).before args0 about1 = true := code_word (m := ⟨8, 8⟩) (meth := k8m8) (c := k8c8) (by decide +kernel) rfl rfl rfl (by decide +kernel)
set_option maxRecDepth 65536 in
theorem w_c6 : (Jvm.Cond.code ({ cls := "java/lang/StringUTF16", name := "compress", desc := "([CI[BII)I" } : Jvm.MethodName) jdk_52_method_21_code (7 : Nat) (Option.some Jvm.ClassFile.FieldType.int)).before args0 about1 = true := code_word (m := ⟨8, 9⟩) (meth := k8m9) (c := k8c9) (by decide +kernel) rfl rfl rfl (by decide +kernel)
set_option maxRecDepth 65536 in
theorem w_c7 : (Jvm.Cond.code ({ cls := "java/lang/StringUTF16", name := "coderFromArrayLen", desc := "([BI)B" } : Jvm.MethodName) jdk_52_method_15_code (2 : Nat) (Option.some Jvm.ClassFile.FieldType.byte)).before args0 about1 = true := code_word (m := ⟨8, 7⟩) (meth := k8m7) (c := k8c7) (by decide +kernel) rfl rfl rfl (by decide +kernel)
set_option maxRecDepth 65536 in
theorem w_c8 : (Jvm.Cond.code ({ cls := "com/example/anteriorita/anteriorita/RecordIds", name := "duplicate", desc := "(Ljava/lang/String;Ljava/lang/String;Ljava/lang/String;)Lcom/example/anteriorita/anteriorita/InputException;" } : Jvm.MethodName) prog_17_method_3_code (3 : Nat) (Option.some (Jvm.ClassFile.FieldType.object "com/example/anteriorita/anteriorita/InputException"))).before args0 about1 = true := code_word (m := ⟨9, 1⟩) (meth := k9m1) (c := k9c1) (by decide +kernel) rfl rfl rfl (by decide +kernel)
set_option maxRecDepth 65536 in
theorem w_c9 : (Jvm.Cond.code ({ cls := "java/lang/StringBuilder", name := "<init>", desc := "()V" } : Jvm.MethodName) jdk_67_method_1_code (1 : Nat) (Option.none : Option Jvm.ClassFile.FieldType)).before args0 about1 = true := code_word (m := ⟨15, 0⟩) (meth := k15m0) (c := k15c0) (by decide +kernel) rfl rfl rfl (by decide +kernel)
set_option maxRecDepth 65536 in
theorem w_c10 : (Jvm.Cond.code ({ cls := "java/lang/AbstractStringBuilder", name := "<init>", desc := "(I)V" } : Jvm.MethodName) jdk_68_method_2_code (2 : Nat) (Option.none : Option Jvm.ClassFile.FieldType)).before args0 about1 = true := code_word (m := ⟨14, 1⟩) (meth := k14m1) (c := k14c1) (by decide +kernel) rfl rfl rfl (by decide +kernel)
set_option maxRecDepth 65536 in
theorem w_c11 : (Jvm.Cond.code ({ cls := "java/lang/StringBuilder", name := "append", desc := "(Ljava/lang/String;)Ljava/lang/StringBuilder;" } : Jvm.MethodName) jdk_67_method_7_code (2 : Nat) (Option.some (Jvm.ClassFile.FieldType.object "java/lang/StringBuilder"))).before args0 about1 = true := code_word (m := ⟨15, 1⟩) (meth := k15m1) (c := k15c1) (by decide +kernel) rfl rfl rfl (by decide +kernel)
set_option maxRecDepth 65536 in
theorem w_c12 : (Jvm.Cond.code ({ cls := "java/lang/AbstractStringBuilder", name := "append", desc := "(Ljava/lang/String;)Ljava/lang/AbstractStringBuilder;" } : Jvm.MethodName) jdk_68_method_22_code (3 : Nat) (Option.some (Jvm.ClassFile.FieldType.object "java/lang/AbstractStringBuilder"))).before args0 about1 = true := code_word (m := ⟨14, 6⟩) (meth := k14m6) (c := k14c6) (by decide +kernel) rfl rfl rfl (by decide +kernel)
set_option maxRecDepth 65536 in
theorem w_c13 : (Jvm.Cond.code ({ cls := "java/lang/String", name := "length", desc := "()I" } : Jvm.MethodName) jdk_42_method_54_code (1 : Nat) (Option.some Jvm.ClassFile.FieldType.int)).before args0 about1 = true := code_word (m := ⟨7, 3⟩) (meth := k7m3) (c := k7c3) (by decide +kernel) rfl rfl rfl (by decide +kernel)
set_option maxRecDepth 65536 in
theorem w_c14 : (Jvm.Cond.code ({ cls := "java/lang/String", name := "coder", desc := "()B" } : Jvm.MethodName) jdk_42_method_152_code (1 : Nat) (Option.some Jvm.ClassFile.FieldType.byte)).before args0 about1 = true := code_word (m := ⟨7, 9⟩) (meth := k7m9) (c := k7c9) (by decide +kernel) rfl rfl rfl (by decide +kernel)
set_option maxRecDepth 65536 in
theorem w_c15 : (Jvm.Cond.code ({ cls := "java/lang/AbstractStringBuilder", name := "ensureCapacityInternal", desc := "(I)V" } : Jvm.MethodName) jdk_68_method_9_code (3 : Nat) (Option.none : Option Jvm.ClassFile.FieldType)).before args0 about1 = true := code_word (m := ⟨14, 3⟩) (meth := k14m3) (c := k14c3) (by decide +kernel) rfl rfl rfl (by decide +kernel)
set_option maxRecDepth 65536 in
theorem w_c16 : (Jvm.Cond.code ({ cls := "java/lang/AbstractStringBuilder", name := "putStringAt", desc := "(ILjava/lang/String;)V" } : Jvm.MethodName) jdk_68_method_73_code (3 : Nat) (Option.none : Option Jvm.ClassFile.FieldType)).before args0 about1 = true := code_word (m := ⟨14, 10⟩) (meth := k14m10) (c := k14c10) (by decide +kernel) rfl rfl rfl (by decide +kernel)
set_option maxRecDepth 65536 in
theorem w_c17 : (Jvm.Cond.code ({ cls := "java/lang/AbstractStringBuilder", name := "inflateIfNeededFor", desc := "(Ljava/lang/String;)V" } : Jvm.MethodName) jdk_68_method_71_code (2 : Nat) (Option.none : Option Jvm.ClassFile.FieldType)).before args0 about1 = true := code_word (m := ⟨14, 9⟩) (meth := k14m9) (c := k14c9) (by decide +kernel) rfl rfl rfl (by decide +kernel)
set_option maxRecDepth 65536 in
theorem w_c18 : (Jvm.Cond.code ({ cls := "java/lang/String", name := "getBytes", desc := "([BIB)V" } : Jvm.MethodName) jdk_42_method_147_code (4 : Nat) (Option.none : Option Jvm.ClassFile.FieldType)).before args0 about1 = true := code_word (m := ⟨7, 6⟩) (meth := k7m6) (c := k7c6) (by decide +kernel) rfl rfl rfl (by decide +kernel)
set_option maxRecDepth 65536 in
theorem w_c19 : (Jvm.Cond.code ({ cls := "java/lang/AbstractStringBuilder", name := "newCapacity", desc := "(I)I" } : Jvm.MethodName) jdk_68_method_10_code (6 : Nat) (Option.some Jvm.ClassFile.FieldType.int)).before args0 about1 = true := code_word (m := ⟨14, 4⟩) (meth := k14m4) (c := k14c4) (by decide +kernel) rfl rfl rfl (by decide +kernel)
set_option maxRecDepth 65536 in
theorem w_c20 : (Jvm.Cond.code ({ cls := "jdk/internal/util/ArraysSupport", name := "newLength", desc := "(III)I" } : Jvm.MethodName) jdk_48_method_27_code (4 : Nat) (Option.some Jvm.ClassFile.FieldType.int)).before args0 about1 = true := code_word (m := ⟨17, 1⟩) (meth := k17m1) (c := k17c1) (by decide +kernel) rfl rfl rfl (by decide +kernel)
set_option maxRecDepth 65536 in
theorem w_c21 : (Jvm.Cond.code ({ cls := "java/lang/Math", name := "max", desc := "(II)I" } : Jvm.MethodName) jdk_29_method_65_code (2 : Nat) (Option.some Jvm.ClassFile.FieldType.int)).before args0 about1 = true := code_word (m := ⟨18, 1⟩) (meth := k18m1) (c := k18c1) (by decide +kernel) rfl rfl rfl (by decide +kernel)
set_option maxRecDepth 65536 in
theorem w_c22 : (Jvm.Cond.code ({ cls := "java/util/Arrays", name := "copyOf", desc := "([BI)[B" } : Jvm.MethodName) jdk_65_method_121_code (3 : Nat) (Option.some (Jvm.ClassFile.FieldType.array Jvm.ClassFile.FieldType.byte))).before args0 about1 = true := code_word (m := ⟨19, 1⟩) (meth := k19m1) (c := k19c1) (by decide +kernel) rfl rfl rfl (by decide +kernel)
set_option maxRecDepth 65536 in
theorem w_c23 : (Jvm.Cond.code ({ cls := "java/lang/Math", name := "min", desc := "(II)I" } : Jvm.MethodName) jdk_29_method_69_code (2 : Nat) (Option.some Jvm.ClassFile.FieldType.int)).before args0 about1 = true := code_word (m := ⟨18, 2⟩) (meth := k18m2) (c := k18c2) (by decide +kernel) rfl rfl rfl (by decide +kernel)
set_option maxRecDepth 65536 in
theorem w_c24 : (Jvm.Cond.code ({ cls := "java/lang/StringBuilder", name := "toString", desc := "()Ljava/lang/String;" } : Jvm.MethodName) jdk_67_method_42_code (1 : Nat) (Option.some (Jvm.ClassFile.FieldType.object "java/lang/String"))).before args0 about1 = true := code_word (m := ⟨15, 2⟩) (meth := k15m2) (c := k15c2) (by decide +kernel) rfl rfl rfl (by decide +kernel)
set_option maxRecDepth 65536 in
theorem w_c25 : (Jvm.Cond.code ({ cls := "java/lang/String", name := "<init>", desc := "(Ljava/lang/StringBuilder;)V" } : Jvm.MethodName) jdk_42_method_53_code (2 : Nat) (Option.none : Option Jvm.ClassFile.FieldType)).before args0 about1 = true := code_word (m := ⟨7, 2⟩) (meth := k7m2) (c := k7c2) (by decide +kernel) rfl rfl rfl (by decide +kernel)
set_option maxRecDepth 65536 in
theorem w_c26 : (Jvm.Cond.code ({ cls := "java/lang/String", name := "<init>", desc := "(Ljava/lang/AbstractStringBuilder;Ljava/lang/Void;)V" } : Jvm.MethodName) jdk_42_method_150_code (5 : Nat) (Option.none : Option Jvm.ClassFile.FieldType)).before args0 about1 = true := code_word (m := ⟨7, 8⟩) (meth := k7m8) (c := k7c8) (by decide +kernel) rfl rfl rfl (by decide +kernel)
set_option maxRecDepth 65536 in
theorem w_c27 : (Jvm.Cond.code ({ cls := "java/lang/AbstractStringBuilder", name := "getValue", desc := "()[B" } : Jvm.MethodName) jdk_68_method_64_code (1 : Nat) (Option.some (Jvm.ClassFile.FieldType.array Jvm.ClassFile.FieldType.byte))).before args0 about1 = true := code_word (m := ⟨14, 7⟩) (meth := k14m7) (c := k14c7) (by decide +kernel) rfl rfl rfl (by decide +kernel)
set_option maxRecDepth 65536 in
theorem w_c28 : (Jvm.Cond.code ({ cls := "java/lang/StringBuilder", name := "length", desc := "()I" } : Jvm.MethodName) jdk_67_method_93_code (1 : Nat) (Option.some Jvm.ClassFile.FieldType.int)).before args0 about1 = true := code_word (m := ⟨15, 3⟩) (meth := k15m3) (c := k15c3) (by decide +kernel) rfl rfl rfl (by decide +kernel)
set_option maxRecDepth 65536 in
theorem w_c29 : (Jvm.Cond.code ({ cls := "java/lang/AbstractStringBuilder", name := "length", desc := "()I" } : Jvm.MethodName) jdk_68_method_6_code (1 : Nat) (Option.some Jvm.ClassFile.FieldType.int)).before args0 about1 = true := code_word (m := ⟨14, 2⟩) (meth := k14m2) (c := k14c2) (by decide +kernel) rfl rfl rfl (by decide +kernel)
set_option maxRecDepth 65536 in
theorem w_c30 : (Jvm.Cond.code ({ cls := "java/lang/AbstractStringBuilder", name := "isLatin1", desc := "()Z" } : Jvm.MethodName) jdk_68_method_68_code (1 : Nat) (Option.some Jvm.ClassFile.FieldType.boolean)).before args0 about1 = true := code_word (m := ⟨14, 8⟩) (meth := k14m8) (c := k14c8) (by decide +kernel) rfl rfl rfl (by decide +kernel)
set_option maxRecDepth 65536 in
theorem w_c31 : (Jvm.Cond.code ({ cls := "java/util/Arrays", name := "copyOfRange", desc := "([BII)[B" } : Jvm.MethodName) jdk_65_method_132_code (3 : Nat) (Option.some (Jvm.ClassFile.FieldType.array Jvm.ClassFile.FieldType.byte))).before args0 about1 = true := code_word (m := ⟨19, 2⟩) (meth := k19m2) (c := k19c2) (by decide +kernel) rfl rfl rfl (by decide +kernel)
set_option maxRecDepth 65536 in
theorem w_c32 : (Jvm.Cond.code ({ cls := "com/example/anteriorita/anteriorita/InputException", name := "<init>", desc := "(Ljava/lang/String;)V" } : Jvm.MethodName) prog_8_method_1_code (2 : Nat) (Option.none : Option Jvm.ClassFile.FieldType)).before args0 about1 = true := code_word (m := ⟨12, 0⟩) (meth := k12m0) (c := k12c0) (by decide +kernel) rfl rfl rfl (by decide +kernel)
set_option maxRecDepth 65536 in
theorem w_c33 : (Jvm.Cond.code ({ cls := "java/lang/Exception", name := "<init>", desc := "(Ljava/lang/String;)V" } : Jvm.MethodName) jdk_59_method_2_code (2 : Nat) (Option.none : Option Jvm.ClassFile.FieldType)).before args0 about1 = true := code_word (m := ⟨11, 1⟩) (meth := k11m1) (c := k11c1) (by decide +kernel) rfl rfl rfl (by decide +kernel)
set_option maxRecDepth 65536 in
theorem w_c34 : (Jvm.Cond.code ({ cls := "java/lang/Throwable", name := "<init>", desc := "(Ljava/lang/String;)V" } : Jvm.MethodName) jdk_78_method_2_code (2 : Nat) (Option.none : Option Jvm.ClassFile.FieldType)).before args0 about1 = true := code_word (m := ⟨10, 1⟩) (meth := k10m1) (c := k10c1) (by decide +kernel) rfl rfl rfl (by decide +kernel)
set_option maxRecDepth 65536 in
theorem w_c35 : (Jvm.Cond.code ({ cls := "java/lang/Throwable", name := "<init>", desc := "()V" } : Jvm.MethodName) jdk_78_method_1_code (1 : Nat) (Option.none : Option Jvm.ClassFile.FieldType)).before args0 about1 = true := code_word (m := ⟨10, 0⟩) (meth := k10m0) (c := k10c0) (by decide +kernel) rfl rfl rfl (by decide +kernel)
set_option maxRecDepth 65536 in
theorem w_c36 : (Jvm.Cond.code ({ cls := "java/lang/Throwable", name := "getMessage", desc := "()Ljava/lang/String;" } : Jvm.MethodName) jdk_78_method_6_code (1 : Nat) (Option.some (Jvm.ClassFile.FieldType.object "java/lang/String"))).before args0 about1 = true := code_word (m := ⟨10, 2⟩) (meth := k10m2) (c := k10c2) (by decide +kernel) rfl rfl rfl (by decide +kernel)
set_option maxRecDepth 65536 in
theorem w_c37 : (Jvm.Cond.code ({ cls := "java/lang/String", name := "charAt", desc := "(I)C" } : Jvm.MethodName) jdk_42_method_56_code (2 : Nat) (Option.some Jvm.ClassFile.FieldType.char)).before args0 about1 = true := code_word (m := ⟨7, 4⟩) (meth := k7m4) (c := k7c4) (by decide +kernel) rfl rfl rfl (by decide +kernel)
set_option maxRecDepth 65536 in
theorem w_c38 : (Jvm.Cond.code ({ cls := "java/lang/String", name := "isLatin1", desc := "()Z" } : Jvm.MethodName) jdk_42_method_154_code (1 : Nat) (Option.some Jvm.ClassFile.FieldType.boolean)).before args0 about1 = true := code_word (m := ⟨7, 10⟩) (meth := k7m10) (c := k7c10) (by decide +kernel) rfl rfl rfl (by decide +kernel)
set_option maxRecDepth 65536 in
theorem w_c39 : (Jvm.Cond.code ({ cls := "java/lang/StringLatin1", name := "charAt", desc := "([BI)C" } : Jvm.MethodName) jdk_43_method_2_code (2 : Nat) (Option.some Jvm.ClassFile.FieldType.char)).before args0 about1 = true := code_word (m := ⟨21, 1⟩) (meth := k21m1) (c := k21c1) (by decide +kernel) rfl rfl rfl (by decide +kernel)
set_option maxRecDepth 65536 in
theorem w_c40 : (Jvm.Cond.code ({ cls := "java/lang/String", name := "checkIndex", desc := "(II)V" } : Jvm.MethodName) jdk_42_method_155_code (2 : Nat) (Option.none : Option Jvm.ClassFile.FieldType)).before args0 about1 = true := code_word (m := ⟨7, 11⟩) (meth := k7m11) (c := k7c11) (by decide +kernel) rfl rfl rfl (by decide +kernel)
set_option maxRecDepth 65536 in
theorem w_c41 : (Jvm.Cond.code ({ cls := "jdk/internal/util/Preconditions", name := "checkIndex", desc := "(IILjava/util/function/BiFunction;)I" } : Jvm.MethodName) jdk_41_method_11_code (3 : Nat) (Option.some Jvm.ClassFile.FieldType.int)).before args0 about1 = true := code_word (m := ⟨22, 1⟩) (meth := k22m1) (c := k22c1) (by decide +kernel) rfl rfl rfl (by decide +kernel)
set_option maxRecDepth 65536 in
theorem w_c42 : (Jvm.Cond.code ({ cls := "java/lang/String", name := "equals", desc := "(Ljava/lang/Object;)Z" } : Jvm.MethodName) jdk_42_method_66_code (3 : Nat) (Option.some Jvm.ClassFile.FieldType.boolean)).before args0 about1 = true := code_word (m := ⟨7, 5⟩) (meth := k7m5) (c := k7c5) (by decide +kernel) rfl rfl rfl (by decide +kernel)
set_option maxRecDepth 65536 in
theorem w_c43 : (Jvm.Cond.code ({ cls := "java/lang/StringLatin1", name := "equals", desc := "([B[B)Z" } : Jvm.MethodName) jdk_43_method_13_code (3 : Nat) (Option.some Jvm.ClassFile.FieldType.boolean)).before args0 about1 = true := code_word (m := ⟨21, 2⟩) (meth := k21m2) (c := k21c2) (by decide +kernel) rfl rfl rfl (by decide +kernel)
set_option maxRecDepth 65536 in
theorem w_c44 : (Jvm.Cond.code ({ cls := "java/lang/StringUTF16", name := "toBytes", desc := "([CII)[B" } : Jvm.MethodName) jdk_52_method_14_code (5 : Nat) (Option.some (Jvm.ClassFile.FieldType.array Jvm.ClassFile.FieldType.byte))).before args0 about1 = true := code_word (m := ⟨8, 6⟩) (meth := k8m6) (c := k8c6) (by decide +kernel) rfl rfl rfl (by decide +kernel)
set_option maxRecDepth 65536 in
theorem w_c45 : (Jvm.Cond.code ({ cls := "java/lang/StringUTF16", name := "newBytesFor", desc := "(I)[B" } : Jvm.MethodName) jdk_52_method_2_code (1 : Nat) (Option.some (Jvm.ClassFile.FieldType.array Jvm.ClassFile.FieldType.byte))).before args0 about1 = true := code_word (m := ⟨8, 1⟩) (meth := k8m1) (c := k8c1) (by decide +kernel) rfl rfl rfl (by decide +kernel)
set_option maxRecDepth 65536 in
theorem w_c46 : (Jvm.Cond.code ({ cls := "java/lang/StringUTF16", name := "newBytesLength", desc := "(I)I" } : Jvm.MethodName) jdk_52_method_3_code (1 : Nat) (Option.some Jvm.ClassFile.FieldType.int)).before args0 about1 = true := code_word (m := ⟨8, 2⟩) (meth := k8m2) (c := k8c2) (by decide +kernel) rfl rfl rfl (by decide +kernel)
set_option maxRecDepth 65536 in
theorem w_c47 : (Jvm.Cond.code ({ cls := "java/lang/StringUTF16", name := "putChar", desc := "([BII)V" } : Jvm.MethodName) jdk_52_method_4_code (3 : Nat) (Option.none : Option Jvm.ClassFile.FieldType)).before args0 about1 = true := code_word (m := ⟨8, 3⟩) (meth := k8m3) (c := k8c3) (by decide +kernel) rfl rfl rfl (by decide +kernel)
set_option maxRecDepth 65536 in
theorem w_c48 : (Jvm.Cond.code ({ cls := "java/lang/StringUTF16", name := "getChar", desc := "([BI)C" } : Jvm.MethodName) jdk_52_method_5_code (2 : Nat) (Option.some Jvm.ClassFile.FieldType.char)).before args0 about1 = true := code_word (m := ⟨8, 4⟩) (meth := k8m4) (c := k8c4) (by decide +kernel) rfl rfl rfl (by decide +kernel)
set_option maxRecDepth 65536 in
theorem w_c49 : (Jvm.Cond.code ({ cls := "java/lang/AbstractStringBuilder", name := "inflate", desc := "()V" } : Jvm.MethodName) jdk_68_method_11_code (2 : Nat) (Option.none : Option Jvm.ClassFile.FieldType)).before args0 about1 = true := code_word (m := ⟨14, 5⟩) (meth := k14m5) (c := k14c5) (by decide +kernel) rfl rfl rfl (by decide +kernel)
set_option maxRecDepth 65536 in
theorem w_c50 : (Jvm.Cond.code ({ cls := "java/lang/StringLatin1", name := "inflate", desc := "([BI[BII)V" } : Jvm.MethodName) jdk_43_method_50_code (5 : Nat) (Option.none : Option Jvm.ClassFile.FieldType)).before args0 about1 = true := code_word (m := ⟨21, 3⟩) (meth := k21m3) (c := k21c3) (by decide +kernel) rfl rfl rfl (by decide +kernel)
set_option maxRecDepth 65536 in
theorem w_c51 : (Jvm.Cond.code ({ cls := "java/lang/StringUTF16", name := "inflate", desc := "([BI[BII)V" } : Jvm.MethodName) jdk_52_method_86_code (6 : Nat) (Option.none : Option Jvm.ClassFile.FieldType)).before args0 about1 = true := code_word (m := ⟨8, 11⟩) (meth := k8m11) (c := k8c11) (by decide +kernel) rfl rfl rfl (by decide +kernel)
set_option maxRecDepth 65536 in
theorem w_c52 : (Jvm.Cond.code ({ cls := "java/lang/StringUTF16", name := "checkBoundsOffCount", desc := "(II[B)V" } : Jvm.MethodName) jdk_52_method_94_code (3 : Nat) (Option.none : Option Jvm.ClassFile.FieldType)).before args0 about1 = true := code_word (m := ⟨8, 13⟩) (meth := k8m13) (c := k8c13) (by decide +kernel) rfl rfl rfl (by decide +kernel)
set_option maxRecDepth 65536 in
theorem w_c53 : (Jvm.Cond.code ({ cls := "java/lang/StringUTF16", name := "length", desc := "([B)I" } : Jvm.MethodName) jdk_52_method_6_code (1 : Nat) (Option.some Jvm.ClassFile.FieldType.int)).before args0 about1 = true := code_word (m := ⟨8, 5⟩) (meth := k8m5) (c := k8c5) (by decide +kernel) rfl rfl rfl (by decide +kernel)
set_option maxRecDepth 65536 in
theorem w_c54 : (Jvm.Cond.code ({ cls := "java/lang/String", name := "checkBoundsOffCount", desc := "(III)I" } : Jvm.MethodName) jdk_42_method_157_code (3 : Nat) (Option.some Jvm.ClassFile.FieldType.int)).before args0 about1 = true := code_word (m := ⟨7, 12⟩) (meth := k7m12) (c := k7c12) (by decide +kernel) rfl rfl rfl (by decide +kernel)
set_option maxRecDepth 65536 in
theorem w_c55 : (Jvm.Cond.code ({ cls := "jdk/internal/util/Preconditions", name := "checkFromIndexSize", desc := "(IIILjava/util/function/BiFunction;)I" } : Jvm.MethodName) jdk_41_method_13_code (4 : Nat) (Option.some Jvm.ClassFile.FieldType.int)).before args0 about1 = true := code_word (m := ⟨22, 2⟩) (meth := k22m2) (c := k22c2) (by decide +kernel) rfl rfl rfl (by decide +kernel)
set_option maxRecDepth 65536 in
theorem w_c56 : (Jvm.Cond.code ({ cls := "java/lang/StringUTF16", name := "charAt", desc := "([BI)C" } : Jvm.MethodName) jdk_52_method_83_code (2 : Nat) (Option.some Jvm.ClassFile.FieldType.char)).before args0 about1 = true := code_word (m := ⟨8, 10⟩) (meth := k8m10) (c := k8c10) (by decide +kernel) rfl rfl rfl (by decide +kernel)
set_option maxRecDepth 65536 in
theorem w_c57 : (Jvm.Cond.code ({ cls := "java/lang/StringUTF16", name := "checkIndex", desc := "(I[B)V" } : Jvm.MethodName) jdk_52_method_91_code (2 : Nat) (Option.none : Option Jvm.ClassFile.FieldType)).before args0 about1 = true := code_word (m := ⟨8, 12⟩) (meth := k8m12) (c := k8c12) (by decide +kernel) rfl rfl rfl (by decide +kernel)
def codes1 : List Jvm.Cond := [Jvm.Cond.code x code maxLocals ret, Jvm.Cond.code ({ cls := "com/example/anteriorita/anteriorita/RecordIdsDuplicatePinLaw", name := "two", desc := "(I)Ljava/lang/String;" } : Jvm.MethodName) method_3_code (2 : Nat) (Option.some (Jvm.ClassFile.FieldType.object "java/lang/String")), Jvm.Cond.code ({ cls := "java/lang/String", name := "<init>", desc := "([C)V" } : Jvm.MethodName) jdk_42_method_3_code (2 : Nat) (Option.none : Option Jvm.ClassFile.FieldType), Jvm.Cond.code ({ cls := "java/lang/String", name := "<init>", desc := "([CIILjava/lang/Void;)V" } : Jvm.MethodName) jdk_42_method_149_code (6 : Nat) (Option.none : Option Jvm.ClassFile.FieldType), Jvm.Cond.code ({ cls := "java/lang/Object", name := "<init>", desc := "()V" } : Jvm.MethodName) object_method_1_code (1 : Nat) (Option.none : Option Jvm.ClassFile.FieldType), Jvm.Cond.code ({ cls := "java/lang/StringUTF16", name := "compress", desc := "([CII)[B" } : Jvm.MethodName) jdk_52_method_16_code (6 : Nat) (Option.some (Jvm.ClassFile.FieldType.array Jvm.ClassFile.FieldType.byte)), Jvm.Cond.code ({ cls := "java/lang/StringUTF16", name := "compress", desc := "([CI[BII)I" } : Jvm.MethodName) jdk_52_method_21_code (7 : Nat) (Option.some Jvm.ClassFile.FieldType.int), Jvm.Cond.code ({ cls := "java/lang/StringUTF16", name := "coderFromArrayLen", desc := "([BI)B" } : Jvm.MethodName) jdk_52_method_15_code (2 : Nat) (Option.some Jvm.ClassFile.FieldType.byte), Jvm.Cond.code ({ cls := "com/example/anteriorita/anteriorita/RecordIds", name := "duplicate", desc := "(Ljava/lang/String;Ljava/lang/String;Ljava/lang/String;)Lcom/example/anteriorita/anteriorita/InputException;" } : Jvm.MethodName) prog_17_method_3_code (3 : Nat) (Option.some (Jvm.ClassFile.FieldType.object "com/example/anteriorita/anteriorita/InputException")), Jvm.Cond.code ({ cls := "java/lang/StringBuilder", name := "<init>", desc := "()V" } : Jvm.MethodName) jdk_67_method_1_code (1 : Nat) (Option.none : Option Jvm.ClassFile.FieldType), Jvm.Cond.code ({ cls := "java/lang/AbstractStringBuilder", name := "<init>", desc := "(I)V" } : Jvm.MethodName) jdk_68_method_2_code (2 : Nat) (Option.none : Option Jvm.ClassFile.FieldType), Jvm.Cond.code ({ cls := "java/lang/StringBuilder", name := "append", desc := "(Ljava/lang/String;)Ljava/lang/StringBuilder;" } : Jvm.MethodName) jdk_67_method_7_code (2 : Nat) (Option.some (Jvm.ClassFile.FieldType.object "java/lang/StringBuilder")), Jvm.Cond.code ({ cls := "java/lang/AbstractStringBuilder", name := "append", desc := "(Ljava/lang/String;)Ljava/lang/AbstractStringBuilder;" } : Jvm.MethodName) jdk_68_method_22_code (3 : Nat) (Option.some (Jvm.ClassFile.FieldType.object "java/lang/AbstractStringBuilder")), Jvm.Cond.code ({ cls := "java/lang/String", name := "length", desc := "()I" } : Jvm.MethodName) jdk_42_method_54_code (1 : Nat) (Option.some Jvm.ClassFile.FieldType.int), Jvm.Cond.code ({ cls := "java/lang/String", name := "coder", desc := "()B" } : Jvm.MethodName) jdk_42_method_152_code (1 : Nat) (Option.some Jvm.ClassFile.FieldType.byte), Jvm.Cond.code ({ cls := "java/lang/AbstractStringBuilder", name := "ensureCapacityInternal", desc := "(I)V" } : Jvm.MethodName) jdk_68_method_9_code (3 : Nat) (Option.none : Option Jvm.ClassFile.FieldType), Jvm.Cond.code ({ cls := "java/lang/AbstractStringBuilder", name := "putStringAt", desc := "(ILjava/lang/String;)V" } : Jvm.MethodName) jdk_68_method_73_code (3 : Nat) (Option.none : Option Jvm.ClassFile.FieldType), Jvm.Cond.code ({ cls := "java/lang/AbstractStringBuilder", name := "inflateIfNeededFor", desc := "(Ljava/lang/String;)V" } : Jvm.MethodName) jdk_68_method_71_code (2 : Nat) (Option.none : Option Jvm.ClassFile.FieldType), Jvm.Cond.code ({ cls := "java/lang/String", name := "getBytes", desc := "([BIB)V" } : Jvm.MethodName) jdk_42_method_147_code (4 : Nat) (Option.none : Option Jvm.ClassFile.FieldType), Jvm.Cond.code ({ cls := "java/lang/AbstractStringBuilder", name := "newCapacity", desc := "(I)I" } : Jvm.MethodName) jdk_68_method_10_code (6 : Nat) (Option.some Jvm.ClassFile.FieldType.int), Jvm.Cond.code ({ cls := "jdk/internal/util/ArraysSupport", name := "newLength", desc := "(III)I" } : Jvm.MethodName) jdk_48_method_27_code (4 : Nat) (Option.some Jvm.ClassFile.FieldType.int), Jvm.Cond.code ({ cls := "java/lang/Math", name := "max", desc := "(II)I" } : Jvm.MethodName) jdk_29_method_65_code (2 : Nat) (Option.some Jvm.ClassFile.FieldType.int), Jvm.Cond.code ({ cls := "java/util/Arrays", name := "copyOf", desc := "([BI)[B" } : Jvm.MethodName) jdk_65_method_121_code (3 : Nat) (Option.some (Jvm.ClassFile.FieldType.array Jvm.ClassFile.FieldType.byte)), Jvm.Cond.code ({ cls := "java/lang/Math", name := "min", desc := "(II)I" } : Jvm.MethodName) jdk_29_method_69_code (2 : Nat) (Option.some Jvm.ClassFile.FieldType.int), Jvm.Cond.code ({ cls := "java/lang/StringBuilder", name := "toString", desc := "()Ljava/lang/String;" } : Jvm.MethodName) jdk_67_method_42_code (1 : Nat) (Option.some (Jvm.ClassFile.FieldType.object "java/lang/String")), Jvm.Cond.code ({ cls := "java/lang/String", name := "<init>", desc := "(Ljava/lang/StringBuilder;)V" } : Jvm.MethodName) jdk_42_method_53_code (2 : Nat) (Option.none : Option Jvm.ClassFile.FieldType), Jvm.Cond.code ({ cls := "java/lang/String", name := "<init>", desc := "(Ljava/lang/AbstractStringBuilder;Ljava/lang/Void;)V" } : Jvm.MethodName) jdk_42_method_150_code (5 : Nat) (Option.none : Option Jvm.ClassFile.FieldType), Jvm.Cond.code ({ cls := "java/lang/AbstractStringBuilder", name := "getValue", desc := "()[B" } : Jvm.MethodName) jdk_68_method_64_code (1 : Nat) (Option.some (Jvm.ClassFile.FieldType.array Jvm.ClassFile.FieldType.byte)), Jvm.Cond.code ({ cls := "java/lang/StringBuilder", name := "length", desc := "()I" } : Jvm.MethodName) jdk_67_method_93_code (1 : Nat) (Option.some Jvm.ClassFile.FieldType.int), Jvm.Cond.code ({ cls := "java/lang/AbstractStringBuilder", name := "length", desc := "()I" } : Jvm.MethodName) jdk_68_method_6_code (1 : Nat) (Option.some Jvm.ClassFile.FieldType.int), Jvm.Cond.code ({ cls := "java/lang/AbstractStringBuilder", name := "isLatin1", desc := "()Z" } : Jvm.MethodName) jdk_68_method_68_code (1 : Nat) (Option.some Jvm.ClassFile.FieldType.boolean), Jvm.Cond.code ({ cls := "java/util/Arrays", name := "copyOfRange", desc := "([BII)[B" } : Jvm.MethodName) jdk_65_method_132_code (3 : Nat) (Option.some (Jvm.ClassFile.FieldType.array Jvm.ClassFile.FieldType.byte)), Jvm.Cond.code ({ cls := "com/example/anteriorita/anteriorita/InputException", name := "<init>", desc := "(Ljava/lang/String;)V" } : Jvm.MethodName) prog_8_method_1_code (2 : Nat) (Option.none : Option Jvm.ClassFile.FieldType), Jvm.Cond.code ({ cls := "java/lang/Exception", name := "<init>", desc := "(Ljava/lang/String;)V" } : Jvm.MethodName) jdk_59_method_2_code (2 : Nat) (Option.none : Option Jvm.ClassFile.FieldType), Jvm.Cond.code ({ cls := "java/lang/Throwable", name := "<init>", desc := "(Ljava/lang/String;)V" } : Jvm.MethodName) jdk_78_method_2_code (2 : Nat) (Option.none : Option Jvm.ClassFile.FieldType), Jvm.Cond.code ({ cls := "java/lang/Throwable", name := "<init>", desc := "()V" } : Jvm.MethodName) jdk_78_method_1_code (1 : Nat) (Option.none : Option Jvm.ClassFile.FieldType), Jvm.Cond.code ({ cls := "java/lang/Throwable", name := "getMessage", desc := "()Ljava/lang/String;" } : Jvm.MethodName) jdk_78_method_6_code (1 : Nat) (Option.some (Jvm.ClassFile.FieldType.object "java/lang/String")), Jvm.Cond.code ({ cls := "java/lang/String", name := "charAt", desc := "(I)C" } : Jvm.MethodName) jdk_42_method_56_code (2 : Nat) (Option.some Jvm.ClassFile.FieldType.char), Jvm.Cond.code ({ cls := "java/lang/String", name := "isLatin1", desc := "()Z" } : Jvm.MethodName) jdk_42_method_154_code (1 : Nat) (Option.some Jvm.ClassFile.FieldType.boolean), Jvm.Cond.code ({ cls := "java/lang/StringLatin1", name := "charAt", desc := "([BI)C" } : Jvm.MethodName) jdk_43_method_2_code (2 : Nat) (Option.some Jvm.ClassFile.FieldType.char), Jvm.Cond.code ({ cls := "java/lang/String", name := "checkIndex", desc := "(II)V" } : Jvm.MethodName) jdk_42_method_155_code (2 : Nat) (Option.none : Option Jvm.ClassFile.FieldType), Jvm.Cond.code ({ cls := "jdk/internal/util/Preconditions", name := "checkIndex", desc := "(IILjava/util/function/BiFunction;)I" } : Jvm.MethodName) jdk_41_method_11_code (3 : Nat) (Option.some Jvm.ClassFile.FieldType.int), Jvm.Cond.code ({ cls := "java/lang/String", name := "equals", desc := "(Ljava/lang/Object;)Z" } : Jvm.MethodName) jdk_42_method_66_code (3 : Nat) (Option.some Jvm.ClassFile.FieldType.boolean), Jvm.Cond.code ({ cls := "java/lang/StringLatin1", name := "equals", desc := "([B[B)Z" } : Jvm.MethodName) jdk_43_method_13_code (3 : Nat) (Option.some Jvm.ClassFile.FieldType.boolean), Jvm.Cond.code ({ cls := "java/lang/StringUTF16", name := "toBytes", desc := "([CII)[B" } : Jvm.MethodName) jdk_52_method_14_code (5 : Nat) (Option.some (Jvm.ClassFile.FieldType.array Jvm.ClassFile.FieldType.byte)), Jvm.Cond.code ({ cls := "java/lang/StringUTF16", name := "newBytesFor", desc := "(I)[B" } : Jvm.MethodName) jdk_52_method_2_code (1 : Nat) (Option.some (Jvm.ClassFile.FieldType.array Jvm.ClassFile.FieldType.byte)), Jvm.Cond.code ({ cls := "java/lang/StringUTF16", name := "newBytesLength", desc := "(I)I" } : Jvm.MethodName) jdk_52_method_3_code (1 : Nat) (Option.some Jvm.ClassFile.FieldType.int), Jvm.Cond.code ({ cls := "java/lang/StringUTF16", name := "putChar", desc := "([BII)V" } : Jvm.MethodName) jdk_52_method_4_code (3 : Nat) (Option.none : Option Jvm.ClassFile.FieldType), Jvm.Cond.code ({ cls := "java/lang/StringUTF16", name := "getChar", desc := "([BI)C" } : Jvm.MethodName) jdk_52_method_5_code (2 : Nat) (Option.some Jvm.ClassFile.FieldType.char), Jvm.Cond.code ({ cls := "java/lang/AbstractStringBuilder", name := "inflate", desc := "()V" } : Jvm.MethodName) jdk_68_method_11_code (2 : Nat) (Option.none : Option Jvm.ClassFile.FieldType), Jvm.Cond.code ({ cls := "java/lang/StringLatin1", name := "inflate", desc := "([BI[BII)V" } : Jvm.MethodName) jdk_43_method_50_code (5 : Nat) (Option.none : Option Jvm.ClassFile.FieldType), Jvm.Cond.code ({ cls := "java/lang/StringUTF16", name := "inflate", desc := "([BI[BII)V" } : Jvm.MethodName) jdk_52_method_86_code (6 : Nat) (Option.none : Option Jvm.ClassFile.FieldType), Jvm.Cond.code ({ cls := "java/lang/StringUTF16", name := "checkBoundsOffCount", desc := "(II[B)V" } : Jvm.MethodName) jdk_52_method_94_code (3 : Nat) (Option.none : Option Jvm.ClassFile.FieldType), Jvm.Cond.code ({ cls := "java/lang/StringUTF16", name := "length", desc := "([B)I" } : Jvm.MethodName) jdk_52_method_6_code (1 : Nat) (Option.some Jvm.ClassFile.FieldType.int), Jvm.Cond.code ({ cls := "java/lang/String", name := "checkBoundsOffCount", desc := "(III)I" } : Jvm.MethodName) jdk_42_method_157_code (3 : Nat) (Option.some Jvm.ClassFile.FieldType.int), Jvm.Cond.code ({ cls := "jdk/internal/util/Preconditions", name := "checkFromIndexSize", desc := "(IIILjava/util/function/BiFunction;)I" } : Jvm.MethodName) jdk_41_method_13_code (4 : Nat) (Option.some Jvm.ClassFile.FieldType.int), Jvm.Cond.code ({ cls := "java/lang/StringUTF16", name := "charAt", desc := "([BI)C" } : Jvm.MethodName) jdk_52_method_83_code (2 : Nat) (Option.some Jvm.ClassFile.FieldType.char), Jvm.Cond.code ({ cls := "java/lang/StringUTF16", name := "checkIndex", desc := "(I[B)V" } : Jvm.MethodName) jdk_52_method_91_code (2 : Nat) (Option.none : Option Jvm.ClassFile.FieldType)]
set_option maxRecDepth 65536 in
theorem codes_eq : words1.filter isCode = codes1 := rfl
theorem w_codes : ∀ c ∈ words1.filter isCode, c.before args0 about1 = true := by
  rw [codes_eq]
  intro c hc
  simp only [codes1, List.mem_cons, List.not_mem_nil, or_false] at hc
  rcases hc with rfl | rfl | rfl | rfl | rfl | rfl | rfl | rfl | rfl | rfl | rfl | rfl | rfl | rfl | rfl | rfl | rfl | rfl | rfl | rfl | rfl | rfl | rfl | rfl | rfl | rfl | rfl | rfl | rfl | rfl | rfl | rfl | rfl | rfl | rfl | rfl | rfl | rfl | rfl | rfl | rfl | rfl | rfl | rfl | rfl | rfl | rfl | rfl | rfl | rfl | rfl | rfl | rfl | rfl | rfl | rfl | rfl | rfl
  · exact w_c0
  · exact w_c1
  · exact w_c2
  · exact w_c3
  · exact w_c4
  · exact w_c5
  · exact w_c6
  · exact w_c7
  · exact w_c8
  · exact w_c9
  · exact w_c10
  · exact w_c11
  · exact w_c12
  · exact w_c13
  · exact w_c14
  · exact w_c15
  · exact w_c16
  · exact w_c17
  · exact w_c18
  · exact w_c19
  · exact w_c20
  · exact w_c21
  · exact w_c22
  · exact w_c23
  · exact w_c24
  · exact w_c25
  · exact w_c26
  · exact w_c27
  · exact w_c28
  · exact w_c29
  · exact w_c30
  · exact w_c31
  · exact w_c32
  · exact w_c33
  · exact w_c34
  · exact w_c35
  · exact w_c36
  · exact w_c37
  · exact w_c38
  · exact w_c39
  · exact w_c40
  · exact w_c41
  · exact w_c42
  · exact w_c43
  · exact w_c44
  · exact w_c45
  · exact w_c46
  · exact w_c47
  · exact w_c48
  · exact w_c49
  · exact w_c50
  · exact w_c51
  · exact w_c52
  · exact w_c53
  · exact w_c54
  · exact w_c55
  · exact w_c56
  · exact w_c57
set_option maxRecDepth 65536 in
theorem w_t1 : (words1.take 24).all (fun c => isCode c || c.before args0 about1) = true := by decide +kernel
set_option maxRecDepth 65536 in
theorem w_t2 : ((words1.drop 24).take 24).all (fun c => isCode c || c.before args0 about1) = true := by decide +kernel
set_option maxRecDepth 65536 in
theorem w_t3 : (((words1.drop 24).drop 24).take 24).all (fun c => isCode c || c.before args0 about1) = true := by decide +kernel
set_option maxRecDepth 65536 in
theorem w_t4 : ((((words1.drop 24).drop 24).drop 24).take 24).all (fun c => isCode c || c.before args0 about1) = true := by decide +kernel
set_option maxRecDepth 65536 in
theorem w_t5 : (((((words1.drop 24).drop 24).drop 24).drop 24).take 24).all (fun c => isCode c || c.before args0 about1) = true := by decide +kernel
set_option maxRecDepth 65536 in
theorem w_t6 : ((((((words1.drop 24).drop 24).drop 24).drop 24).drop 24).take 24).all (fun c => isCode c || c.before args0 about1) = true := by decide +kernel
set_option maxRecDepth 65536 in
theorem w_t7 : (((((((words1.drop 24).drop 24).drop 24).drop 24).drop 24).drop 24).take 24).all (fun c => isCode c || c.before args0 about1) = true := by decide +kernel
set_option maxRecDepth 65536 in
theorem w_t8 : ((((((((words1.drop 24).drop 24).drop 24).drop 24).drop 24).drop 24).drop 24).take 24).all (fun c => isCode c || c.before args0 about1) = true := by decide +kernel
set_option maxRecDepth 65536 in
theorem w_t9 : (((((((((words1.drop 24).drop 24).drop 24).drop 24).drop 24).drop 24).drop 24).drop 24).take 24).all (fun c => isCode c || c.before args0 about1) = true := by decide +kernel
set_option maxRecDepth 65536 in
theorem w_t10 : ((((((((((words1.drop 24).drop 24).drop 24).drop 24).drop 24).drop 24).drop 24).drop 24).drop 24).take 24).all (fun c => isCode c || c.before args0 about1) = true := by decide +kernel
set_option maxRecDepth 65536 in
theorem w_t11 : (((((((((((words1.drop 24).drop 24).drop 24).drop 24).drop 24).drop 24).drop 24).drop 24).drop 24).drop 24).take 24).all (fun c => isCode c || c.before args0 about1) = true := by decide +kernel
set_option maxRecDepth 65536 in
theorem w_t12 : ((((((((((((words1.drop 24).drop 24).drop 24).drop 24).drop 24).drop 24).drop 24).drop 24).drop 24).drop 24).drop 24).take 24).all (fun c => isCode c || c.before args0 about1) = true := by decide +kernel
set_option maxRecDepth 65536 in
theorem w_t13 : (((((((((((((words1.drop 24).drop 24).drop 24).drop 24).drop 24).drop 24).drop 24).drop 24).drop 24).drop 24).drop 24).drop 24).take 24).all (fun c => isCode c || c.before args0 about1) = true := by decide +kernel
set_option maxRecDepth 65536 in
theorem w_t14 : (((((((((((((words1.drop 24).drop 24).drop 24).drop 24).drop 24).drop 24).drop 24).drop 24).drop 24).drop 24).drop 24).drop 24).drop 24).all (fun c => isCode c || c.before args0 about1) = true := by decide +kernel
theorem w_tables : (allAtoms (Jvm.Cond.code x code maxLocals ret :: tables_1)).before args0 about1 = true := by
  rw [allAtoms_all]
  show words1.all (fun c => c.before args0 about1) = true
  refine all_split ?_ w_codes
  rw [← List.take_append_drop 24 words1, List.all_append, w_t1, ← List.take_append_drop 24 (words1.drop 24), List.all_append, w_t2, ← List.take_append_drop 24 ((words1.drop 24).drop 24), List.all_append, w_t3, ← List.take_append_drop 24 (((words1.drop 24).drop 24).drop 24), List.all_append, w_t4, ← List.take_append_drop 24 ((((words1.drop 24).drop 24).drop 24).drop 24), List.all_append, w_t5, ← List.take_append_drop 24 (((((words1.drop 24).drop 24).drop 24).drop 24).drop 24), List.all_append, w_t6, ← List.take_append_drop 24 ((((((words1.drop 24).drop 24).drop 24).drop 24).drop 24).drop 24), List.all_append, w_t7, ← List.take_append_drop 24 (((((((words1.drop 24).drop 24).drop 24).drop 24).drop 24).drop 24).drop 24), List.all_append, w_t8, ← List.take_append_drop 24 ((((((((words1.drop 24).drop 24).drop 24).drop 24).drop 24).drop 24).drop 24).drop 24), List.all_append, w_t9, ← List.take_append_drop 24 (((((((((words1.drop 24).drop 24).drop 24).drop 24).drop 24).drop 24).drop 24).drop 24).drop 24), List.all_append, w_t10, ← List.take_append_drop 24 ((((((((((words1.drop 24).drop 24).drop 24).drop 24).drop 24).drop 24).drop 24).drop 24).drop 24).drop 24), List.all_append, w_t11, ← List.take_append_drop 24 (((((((((((words1.drop 24).drop 24).drop 24).drop 24).drop 24).drop 24).drop 24).drop 24).drop 24).drop 24).drop 24), List.all_append, w_t12, ← List.take_append_drop 24 ((((((((((((words1.drop 24).drop 24).drop 24).drop 24).drop 24).drop 24).drop 24).drop 24).drop 24).drop 24).drop 24).drop 24), List.all_append, w_t13, w_t14]
  rfl
set_option maxRecDepth 65536 in
theorem w_rest : rest_1_c.before args0 about1 = true := by decide +kernel
set_option maxRecDepth 65536 in
theorem w_case : (Jvm.Cond.and given_1 narrow_1).before args0 about1 = true := by decide +kernel
set_option maxRecDepth 65536 in
theorem w_consts : constsHeld consts_1 about1 := Jvm.Lit.constsHeldB_iff.mp (by decide +kernel)
theorem w_applies : (headSpec (Jvm.Cond.code x code maxLocals ret :: tables_1) room_1).applies x e0.platform about1 = true :=
  (Spec.applies_iff w_frames).mpr ⟨w_running, w_runnable, w_alone, w_named, w_hears, w_ripe, w_room, w_tables⟩
theorem atStart : AtStart classFile x code maxLocals ret World_1 tables_1 room_1 Calls_1 rest_1 Pre_1 launch0 p0 e0 about1 theMethod args0 below0 :=
  ⟨lists_1, trivial, launch0.admits_env _ _ _, launch0.least_env, fairChoices_fair.cas, fairChoices_fair.clock, w_frames, w_args, w_heap, w_applies, ⟨(by decide +kernel : framesKnown about1 = true), ⟨(by decide +kernel : tablesKnown about1 = true), ⟨w_consts, trivial⟩⟩⟩, w_rest, w_case⟩
end start1
theorem witness_1 : WitnessClaimed_1 := ⟨start1.p0, start1.e0, start1.about1, start1.theMethod, start1.args0, start1.below0, start1.atStart⟩
end Jvm.Pilot.@@N@@
