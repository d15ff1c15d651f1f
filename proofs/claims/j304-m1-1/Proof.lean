import JvmDerived
import JvmDerived.Pilot.@@N@@Statement
import JvmDerived.Pilot.@@N@@Code
set_option linter.unusedVariables false
set_option linter.unusedSimpArgs false
/- laws to paste: Road.backV, StrChars.pair_says, StrChars.chr8_lo8, StrChars.narrow_ch (cut by pick.py; bodies as the Statement names them) -/
namespace Jvm.Pilot.@@N@@
namespace StrChars
open Jvm Sem ClassFile Op Lib Jvm.Stand Jvm.Free.XT Jvm.Free.ALB Jvm.Free.JM Jvm.Free
open Jvm.Lib.Cold (StaticIs)
/-- a char array whose places are chars -/
def Ch (a : Addr) (A : Cell) (U : State) : Prop := Arr .char a A U ∧ Typed .char A
theorem Ch.mv {a : Addr} {A : Cell} {U U' : State} (h : Ch a A U) (hal : U.vm.Alike U'.vm) (hh : U'.heap = U.heap) : Ch a A U' := ⟨h.1.mv hal hh, h.2⟩
theorem Ch.keep {a : Addr} {A : Cell} {U U' : State} (h : Ch a A U) (hal : U.vm.Alike U'.vm) (hk : U'.heap[a]? = some A) : Ch a A U' := ⟨h.1.keep hal hk, h.2⟩
/-- what place i of a char[]'s cell holds -/
def cv (A : Cell) (i : Nat) : Int32 := match A.slots[i]? with | some (.int x) => x | _ => 0
theorem Ch.get {a : Addr} {A : Cell} {U : State} (h : Ch a A U) {i : Nat} (hi : i < A.slots.size) : A.slots[i]? = some (.int (cv A i)) := by
  have e := Array.getElem?_eq_getElem hi
  have f := h.2 i _ e
  unfold cv; rw [e]
  generalize A.slots[i] = v at f
  cases v <;> simp [fits] at f ⊢
/-- the byte that i2b leaves of a char -/
def lo8 (x : Int32) : Int32 := x.toInt8.toInt32
theorem fits_lo8 (y : Int32) : fits .byte (.int (lo8 y)) = true := by
  have h1 := y.toInt8.le_toInt
  have h2 := y.toInt8.toInt_lt
  simp only [lo8, fits, Bool.and_eq_true, decide_eq_true_eq, Int32.le_iff_toInt_le, Int8.toInt_toInt32, show (-128 : Int32).toInt = -128 from by decide, show (127 : Int32).toInt = 127 from by decide]
  omega
/-- A' is A but that each place j of lo .. hi - 1 holds f j -/
def Laid (A A' : Cell) (lo hi : Nat) (f : Nat → Value) : Prop := A'.cls = A.cls ∧ A'.vm = A.vm ∧ A'.slots.size = A.slots.size ∧ ∀ i, A'.slots[i]? = if lo ≤ i ∧ i < hi then some (f i) else A.slots[i]?
theorem Laid.zero (A : Cell) (lo : Nat) (f : Nat → Value) : Laid A A lo (lo + 0) f := ⟨rfl, rfl, rfl, fun i => by rw [if_neg (by omega)]⟩
theorem Laid.step {A Ak : Cell} {lo k : Nat} {f : Nat → Value} {v : Value} (h : Laid A Ak lo k f) (hlo : lo ≤ k) (hk : k < Ak.slots.size) (hv : v = f k) : Laid A (Ak.setSlot k v) lo (k + 1) f := by
  refine ⟨h.1, h.2.1, by simpa [Cell.setSlot] using h.2.2.1, fun i => ?_⟩
  by_cases e : k = i
  · subst e; rw [Cell.slots_setSlot_self v hk, if_pos (by omega), hv]
  · rw [Cell.slots_setSlot_ne v e, h.2.2.2 i]
    by_cases q : lo ≤ i ∧ i < k
    · rw [if_pos q, if_pos (by omega)]
    · rw [if_neg q, if_neg (by omega)]
def U16 : String := "java/lang/StringUTF16"
namespace Cmp5
def yN : MethodName := ⟨"java/lang/StringUTF16", "compress", "([CI[BII)I"⟩
abbrev yB : ByteArray := jdk_52_method_21_code
theorem d0 : decode yB 0 = .ok (.iconst 0, 1) := by decide +kernel
theorem d1 : decode yB 1 = .ok (.istore 5, 2) := by decide +kernel
theorem d3 : decode yB 3 = .ok (.iload 5, 2) := by decide +kernel
theorem d5 : decode yB 5 = .ok (.iload 4, 2) := by decide +kernel
theorem d7 : decode yB 7 = .ok (.if_icmp (.ge) 37, 3) := by decide +kernel
theorem d10 : decode yB 10 = .ok (.aload_n 0, 1) := by decide +kernel
theorem d11 : decode yB 11 = .ok (.iload_n 1, 1) := by decide +kernel
theorem d12 : decode yB 12 = .ok (.caload, 1) := by decide +kernel
theorem d13 : decode yB 13 = .ok (.istore 6, 2) := by decide +kernel
theorem d15 : decode yB 15 = .ok (.iload 6, 2) := by decide +kernel
theorem d17 : decode yB 17 = .ok (.sipush 255, 3) := by decide +kernel
theorem d20 : decode yB 20 = .ok (.if_icmp (.le) 6, 3) := by decide +kernel
theorem d26 : decode yB 26 = .ok (.aload_n 2, 1) := by decide +kernel
theorem d27 : decode yB 27 = .ok (.iload_n 3, 1) := by decide +kernel
theorem d28 : decode yB 28 = .ok (.iload 6, 2) := by decide +kernel
theorem d30 : decode yB 30 = .ok (.i2b, 1) := by decide +kernel
theorem d31 : decode yB 31 = .ok (.bastore, 1) := by decide +kernel
theorem d32 : decode yB 32 = .ok (.iinc 1 1, 3) := by decide +kernel
theorem d35 : decode yB 35 = .ok (.iinc 3 1, 3) := by decide +kernel
theorem d38 : decode yB 38 = .ok (.iinc 5 1, 3) := by decide +kernel
theorem d41 : decode yB 41 = .ok (.goto (-38), 3) := by decide +kernel
theorem d44 : decode yB 44 = .ok (.iload 4, 2) := by decide +kernel
theorem d46 : decode yB 46 = .ok (.ireturn, 1) := by decide +kernel
def site : List Cond := []
def tab : Cond := tabOf yN yB 7 (some .int) site
def P (b : Addr) (A : Cell) (d : Addr) (B : Cell) (o q len : Nat) (args : Array Value) (s : State) : Prop := args = #[.ref b, .int (Int32.ofNat o), .ref d, .int (Int32.ofNat q), .int (Int32.ofNat len)] ∧ Ch b A s ∧ Arr .byte d B s ∧ b ≠ d ∧ o + len ≤ A.slots.size ∧ q + len ≤ B.slots.size ∧ ∀ i, i < len → ¬ 255 < cv A (o + i)
def E (b : Addr) (A : Cell) (d : Addr) (B : Cell) (o q len : Nat) (r : Option Value) (s u : State) : Prop := r = some (.int (Int32.ofNat len)) ∧ ∃ B', Put d B' s u ∧ Laid B B' q (q + len) (fun j => Value.int (lo8 (cv A (o + (j - q)))))
/-- no char of the range above 255: len; the places written hold each char's low byte -/
theorem law (l : Launch) (b : Addr) (A : Cell) (d : Addr) (B : Cell) (o q len : Nat) : Law l yN 5 5 0 0 yB 7 (some .int) site (P b A d B o q len) (E b A d B o q len) (copyLocs d q len) 0 0 := by
  refine Law.of_walk (plainFor_of_name (by decide +kernel)) (by decide +kernel) (by decide +kernel) (by decide) (fun _ _ h => by rw [h.1]; rfl) (fun _ U U' hal hh h => ⟨h.1, h.2.1.mv hal hh, h.2.2.1.mv hal hh, h.2.2.2⟩) (fun r U U' V V' h1 hal h2 h => ⟨h.1, h.2.elim fun B' q => ⟨B', q.1.mv h1 h2, q.2⟩⟩) ?_
  intro p e s m args below meth c s₁ X0 hexec hbytes hml hret hlk hnm hown hh0 W hP
  obtain ⟨rfl, hA, hB, hne, l1, l2, hp⟩ := hP
  have c1 : Steps p.tables e below (s₁.setTop (entryFrame m #[.ref b, .int (Int32.ofNat o), .ref d, .int (Int32.ofNat q), .int (Int32.ofNat len)] 7)) (s₁.setTop (mkF m 0 #[.val (.ref b), .val (.int (Int32.ofNat o)), .val (.ref d), .val (.int (Int32.ofNat q)), .val (.int (Int32.ofNat len)), .unset, .unset] [])) := entry rfl
  have hA0 := hA.1.mv X0.warmed.alike hh0
  have hB0 := hB.mv X0.warmed.alike hh0
  have a31 := hA.1.2.2.2
  have c2 : Steps p.tables e below (s₁.setTop (entryFrame m #[.ref b, .int (Int32.ofNat o), .ref d, .int (Int32.ofNat q), .int (Int32.ofNat len)] 7)) (s₁.setTop (mkF m 3 #[.val (.ref b), .val (.int (Int32.ofNat o)), .val (.ref d), .val (.int (Int32.ofNat q)), .val (.int (Int32.ofNat len)), .val (.int 0), .unset] [])) := c1.trans (by
    refine iconstV X0.here hexec rfl 0 (hb hbytes d0) (by decide) ?_
    refine XS.istore X0.here hexec rfl (hb hbytes d1) rfl rfl ?_
    exact Steps.refl _)
  have loop : ∀ (r i : Nat), i + r = len → ∀ (z : Slot), (z = .unset ∨ ∃ w, z = .val w ∧ w.category = 1) → ∀ (Tl : State) (Bk : Cell), Stand p l e { frames := 0, locals := 0, cells := 0, slots := 0 } s m #[.ref b, .int (Int32.ofNat o), .ref d, .int (Int32.ofNat q), .int (Int32.ofNat len)] below meth c Tl ([] ++ copyLocs d q i) 0 0 → Put d Bk s₁ Tl → Laid B Bk q (q + i) (fun j => Value.int (lo8 (cv A (o + (j - q))))) →
      Steps p.tables e below (s₁.setTop (entryFrame m #[.ref b, .int (Int32.ofNat o), .ref d, .int (Int32.ofNat q), .int (Int32.ofNat len)] 7)) (Tl.setTop (mkF m 3 #[.val (.ref b), .val (.int (Int32.ofNat (o + i))), .val (.ref d), .val (.int (Int32.ofNat (q + i))), .val (.int (Int32.ofNat len)), .val (.int (Int32.ofNat i)), z] [])) → ∃ (T' : State) (B' : Cell) (z' : Slot), Stand p l e { frames := 0, locals := 0, cells := 0, slots := 0 } s m #[.ref b, .int (Int32.ofNat o), .ref d, .int (Int32.ofNat q), .int (Int32.ofNat len)] below meth c T' ([] ++ copyLocs d q len) 0 0 ∧ Put d B' s₁ T' ∧ Laid B B' q (q + len) (fun j => Value.int (lo8 (cv A (o + (j - q))))) ∧
      Steps p.tables e below (s₁.setTop (entryFrame m #[.ref b, .int (Int32.ofNat o), .ref d, .int (Int32.ofNat q), .int (Int32.ofNat len)] 7)) (T'.setTop (mkF m 3 #[.val (.ref b), .val (.int (Int32.ofNat (o + len))), .val (.ref d), .val (.int (Int32.ofNat (q + len))), .val (.int (Int32.ofNat len)), .val (.int (Int32.ofNat len)), z'] [])) := by
    intro r
    induction r with
    | zero =>
      intro i hi z hz Tl Bk Xl pl fl cl
      have hil : i = len := by omega
      rw [hil] at Xl fl cl
      exact ⟨Tl, Bk, z, Xl, pl, fl, cl⟩
    | succ r ih =>
      intro i hi z hz Tl Bk Xl pl fl cl
      have all := X0.warmed.alike.symm.trans Xl.warmed.alike
      have hAl := hA0.keep all (pl.other hne hA0.1)
      have hBk := hB0.like all pl.1 fl.1 fl.2.1 fl.2.2.1
      have hlt : q + i < Bk.slots.size := by rw [fl.2.2.1]; omega
      have c3 : Steps p.tables e below (s₁.setTop (entryFrame m #[.ref b, .int (Int32.ofNat o), .ref d, .int (Int32.ofNat q), .int (Int32.ofNat len)] 7)) (Tl.setTop (mkF m 12 #[.val (.ref b), .val (.int (Int32.ofNat (o + i))), .val (.ref d), .val (.int (Int32.ofNat (q + i))), .val (.int (Int32.ofNat len)), .val (.int (Int32.ofNat i)), z] [.int (Int32.ofNat (o + i)), .ref b])) := cl.trans (by
        refine XS.iload Xl.here hexec rfl (hb hbytes d3) rfl ?_
        refine XS.iload Xl.here hexec rfl (hb hbytes d5) rfl ?_
        refine XS.icmpNo Xl.here hexec rfl (hb hbytes d7) rfl (ii_ge_f (lt32 (by omega) (by omega))) ?_
        refine XS.aloadN Xl.here hexec rfl (hb hbytes d10) rfl rfl ?_
        refine XS.iloadN Xl.here hexec rfl (hb hbytes d11) rfl ?_
        exact Steps.refl _)
      have c4 : Steps p.tables e below (s₁.setTop (entryFrame m #[.ref b, .int (Int32.ofNat o), .ref d, .int (Int32.ofNat q), .int (Int32.ofNat len)] 7)) (Tl.setTop (mkF m 13 #[.val (.ref b), .val (.int (Int32.ofNat (o + i))), .val (.ref d), .val (.int (Int32.ofNat (q + i))), .val (.int (Int32.ofNat len)), .val (.int (Int32.ofNat i)), z] [.int (cv A (o + i))])) := c3.trans (by
        refine Xl.aget hexec hAl rfl (hA.get (i := o + i) (by omega)) rfl rfl (hb hbytes d12) ?_
        exact Steps.refl _)
      have c5 : Steps p.tables e below (s₁.setTop (entryFrame m #[.ref b, .int (Int32.ofNat o), .ref d, .int (Int32.ofNat q), .int (Int32.ofNat len)] 7)) (Tl.setTop (mkF m 15 #[.val (.ref b), .val (.int (Int32.ofNat (o + i))), .val (.ref d), .val (.int (Int32.ofNat (q + i))), .val (.int (Int32.ofNat len)), .val (.int (Int32.ofNat i)), .val (.int (cv A (o + i)))] [])) := c4.trans (by
        refine XS.istoreS Xl.here hexec rfl (hb hbytes d13) rfl rfl hz ?_
        exact Steps.refl _)
      have c6 : Steps p.tables e below (s₁.setTop (entryFrame m #[.ref b, .int (Int32.ofNat o), .ref d, .int (Int32.ofNat q), .int (Int32.ofNat len)] 7)) (Tl.setTop (mkF m 31 #[.val (.ref b), .val (.int (Int32.ofNat (o + i))), .val (.ref d), .val (.int (Int32.ofNat (q + i))), .val (.int (Int32.ofNat len)), .val (.int (Int32.ofNat i)), .val (.int (cv A (o + i)))] [.int (lo8 (cv A (o + i))), .int (Int32.ofNat (q + i)), .ref d])) := c5.trans (by
        refine XS.iload Xl.here hexec rfl (hb hbytes d15) rfl ?_
        refine sipushV Xl.here hexec rfl 255 (hb hbytes d17) (by decide) ?_
        refine XS.icmpYes Xl.here hexec rfl (pc0 := 20) rfl (hb hbytes d20) rfl (ii_le_t (hp i (by omega))) (by decide) rfl ?_
        refine XS.aloadN Xl.here hexec rfl (hb hbytes d26) rfl rfl ?_
        refine XS.iloadN Xl.here hexec rfl (hb hbytes d27) rfl ?_
        refine XS.iload Xl.here hexec rfl (hb hbytes d28) rfl ?_
        refine i2b Xl.here hexec rfl (hb hbytes d30) rfl ?_
        exact Steps.refl _)
      obtain ⟨T7, X7, p7, st7⟩ := Xl.aput hexec hBk rfl hlt rfl (fits_lo8 (cv A (o + i))) (g := (mkF m 31 #[.val (.ref b), .val (.int (Int32.ofNat (o + i))), .val (.ref d), .val (.int (Int32.ofNat (q + i))), .val (.int (Int32.ofNat len)), .val (.int (Int32.ofNat i)), .val (.int (cv A (o + i)))] [.int (lo8 (cv A (o + i))), .int (Int32.ofNat (q + i)), .ref d])) rfl (rest := []) rfl (hb hbytes d31)
      have c8 : Steps p.tables e below (s₁.setTop (entryFrame m #[.ref b, .int (Int32.ofNat o), .ref d, .int (Int32.ofNat q), .int (Int32.ofNat len)] 7)) (T7.setTop (mkF m 32 #[.val (.ref b), .val (.int (Int32.ofNat (o + i))), .val (.ref d), .val (.int (Int32.ofNat (q + i))), .val (.int (Int32.ofNat len)), .val (.int (Int32.ofNat i)), .val (.int (cv A (o + i)))] [])) := c6.trans (st7 _ (Steps.refl _))
      have c9 : Steps p.tables e below (s₁.setTop (entryFrame m #[.ref b, .int (Int32.ofNat o), .ref d, .int (Int32.ofNat q), .int (Int32.ofNat len)] 7)) (T7.setTop (mkF m 3 #[.val (.ref b), .val (.int (Int32.ofNat (o + i) + 1)), .val (.ref d), .val (.int (Int32.ofNat (q + i) + 1)), .val (.int (Int32.ofNat len)), .val (.int (Int32.ofNat i + 1)), .val (.int (cv A (o + i)))] [])) := c8.trans (by
        refine iincV X7.here hexec rfl 1 (hb hbytes d32) (by decide) rfl rfl ?_
        refine iincV X7.here hexec rfl 1 (hb hbytes d35) (by decide) rfl rfl ?_
        refine iincV X7.here hexec rfl 1 (hb hbytes d38) (by decide) rfl rfl ?_
        refine XS.goto X7.here hexec rfl (pc0 := 41) rfl (hb hbytes d41) (by decide) rfl ?_
        exact Steps.refl _)
      have c10 : Steps p.tables e below (s₁.setTop (entryFrame m #[.ref b, .int (Int32.ofNat o), .ref d, .int (Int32.ofNat q), .int (Int32.ofNat len)] 7)) (T7.setTop (mkF m 3 #[.val (.ref b), .val (.int (Int32.ofNat (o + (i + 1)))), .val (.ref d), .val (.int (Int32.ofNat (q + (i + 1)))), .val (.int (Int32.ofNat len)), .val (.int (Int32.ofNat (i + 1))), .val (.int (cv A (o + i)))] [])) := by
        have := c9
        rw [succ32, succ32, succ32] at this
        exact this
      exact ih (i + 1) (by omega) _ (Or.inr ⟨_, rfl, rfl⟩) T7 _ (by rw [copyLocs_step, ← List.append_assoc]; exact X7) (pl.trans p7) (fl.step (by omega) hlt (by simp)) c10
  obtain ⟨T9, B9, z9, X9, p9, f9, g9⟩ := loop len 0 (by omega) .unset (Or.inl rfl) s₁ B (by simpa [copyLocs] using X0) ⟨hB0.1, fun _ _ => rfl, rfl⟩ (Laid.zero _ _ _) c2
  have c11 : Steps p.tables e below (s₁.setTop (entryFrame m #[.ref b, .int (Int32.ofNat o), .ref d, .int (Int32.ofNat q), .int (Int32.ofNat len)] 7)) (T9.setTop (mkF m 46 #[.val (.ref b), .val (.int (Int32.ofNat (o + len))), .val (.ref d), .val (.int (Int32.ofNat (q + len))), .val (.int (Int32.ofNat len)), .val (.int (Int32.ofNat len)), z9] [.int (Int32.ofNat len)])) := g9.trans (by
    refine XS.iload X9.here hexec rfl (hb hbytes d3) rfl ?_
    refine XS.iload X9.here hexec rfl (hb hbytes d5) rfl ?_
    refine XS.icmpYes X9.here hexec rfl (pc0 := 7) rfl (hb hbytes d7) rfl (ii_ge_t (nlt32 (by omega) (Nat.le_refl _))) (by decide) rfl ?_
    refine XS.iload X9.here hexec rfl (hb hbytes d44) rfl ?_
    exact Steps.refl _)
  exact ⟨T9, some (.int (Int32.ofNat len)), _, _, _, X9, by simp, rfl, rfl, (fun h => by cases h), ⟨rfl, B9, p9.from hh0, f9⟩, fun fs hl => c11.trans (X9.ireturnOut hexec hret rfl (Or.inl rfl) (hb hbytes d46) hl)⟩
end Cmp5
namespace Cmp3
def yN : MethodName := ⟨"java/lang/StringUTF16", "compress", "([CII)[B"⟩
abbrev yB : ByteArray := jdk_52_method_16_code
theorem d0 : decode yB 0 = .ok (.iload_n 2, 1) := by decide +kernel
theorem d1 : decode yB 1 = .ok (.newarray .byte, 2) := by decide +kernel
theorem d3 : decode yB 3 = .ok (.astore_n 3, 1) := by decide +kernel
theorem d4 : decode yB 4 = .ok (.aload_n 0, 1) := by decide +kernel
theorem d5 : decode yB 5 = .ok (.iload_n 1, 1) := by decide +kernel
theorem d6 : decode yB 6 = .ok (.aload_n 3, 1) := by decide +kernel
theorem d7 : decode yB 7 = .ok (.iconst 0, 1) := by decide +kernel
theorem d8 : decode yB 8 = .ok (.iload_n 2, 1) := by decide +kernel
theorem d9 : decode yB 9 = .ok (.invokestatic 115, 3) := by decide +kernel
theorem d12 : decode yB 12 = .ok (.istore 4, 2) := by decide +kernel
theorem d14 : decode yB 14 = .ok (.iload 4, 2) := by decide +kernel
theorem d16 : decode yB 16 = .ok (.iload_n 2, 1) := by decide +kernel
theorem d17 : decode yB 17 = .ok (.if_icmp (.eq) 40, 3) := by decide +kernel
theorem d57 : decode yB 57 = .ok (.aload_n 3, 1) := by decide +kernel
theorem d58 : decode yB 58 = .ok (.areturn, 1) := by decide +kernel
def site : List Cond := [.arrayClass .byte, Cmp5.tab] ++ staticW U16 115 Cmp5.yN
def tab : Cond := tabOf yN yB 6 (some (.array .byte)) site
def P (b : Addr) (A : Cell) (o len : Nat) (args : Array Value) (s : State) : Prop := args = #[.ref b, .int (Int32.ofNat o), .int (Int32.ofNat len)] ∧ Ch b A s ∧ o + len ≤ A.slots.size ∧ len ≤ 536870912 ∧ ∀ i, i < len → ¬ 255 < cv A (o + i)
def E (b : Addr) (A : Cell) (o len : Nat) (r : Option Value) (s u : State) : Prop := NewArr .byte "[B" len (fun j => .int (lo8 (cv A (o + j)))) r s u ∧ u.heap.size = s.heap.size + 1
/-- no char of the range above 255: a new byte[] of their low bytes -/
theorem law (l : Launch) (b : Addr) (A : Cell) (o len : Nat) : Law l yN 3 3 1 18 yB 6 (some (.array .byte)) site (P b A o len) (E b A o len) [] 1 len := by
  refine Law.of_walk (plainFor_of_name (by decide +kernel)) (by decide +kernel) (by decide +kernel) (by decide) (fun _ _ h => by rw [h.1]; rfl) (fun _ U U' hal hh h => ⟨h.1, h.2.1.mv hal hh, h.2.2⟩) (fun r U U' V V' h1 hal h2 h => ⟨NewArr.mv r U U' V V' h1 hal h2 h.1, by rw [h1, h2]; exact h.2⟩) ?_
  intro p e s m args below meth c s₁ X0 hexec hbytes hml hret hlk hnm hown hh0 W hP
  obtain ⟨rfl, hA, l1, l2, hp⟩ := hP
  have a31 := hA.1.2.2.2
  have c1 : Steps p.tables e below (s₁.setTop (entryFrame m #[.ref b, .int (Int32.ofNat o), .int (Int32.ofNat len)] 6)) (s₁.setTop (mkF m 0 #[.val (.ref b), .val (.int (Int32.ofNat o)), .val (.int (Int32.ofNat len)), .unset, .unset, .unset] [])) := entry rfl
  have c2 : Steps p.tables e below (s₁.setTop (entryFrame m #[.ref b, .int (Int32.ofNat o), .int (Int32.ofNat len)] 6)) (s₁.setTop (mkF m 1 #[.val (.ref b), .val (.int (Int32.ofNat o)), .val (.int (Int32.ofNat len)), .unset, .unset, .unset] [.int (Int32.ofNat len)])) := c1.trans (by
    refine XS.iloadN X0.here hexec rfl (hb hbytes d0) rfl ?_
    exact Steps.refl _)
  obtain ⟨T3, B3, X3, ba3, bs3, bv3, bh3, bf3, st3⟩ := X0.anew hexec (atype := .byte) (wk W (.arrayClass .byte)) rfl (by show len * 1 ≤ _; omega) (by omega) (g := (mkF m 1 #[.val (.ref b), .val (.int (Int32.ofNat o)), .val (.int (Int32.ofNat len)), .unset, .unset, .unset] [.int (Int32.ofNat len)])) rfl (hb hbytes d1) (rest := []) rfl (Nat.le_refl _) (by show 0 + len ≤ len; omega)
  rw [hh0] at ba3 st3
  have kp3 : XT.Kept s T3 := (XT.Kept.of_eq hh0).push bh3
  have hA3 := hA.keep X3.warmed.alike (kp3 _ _ hA.1.1)
  have hne : b ≠ s.heap.size := hA.1.ne
  have c4 : Steps p.tables e below (s₁.setTop (entryFrame m #[.ref b, .int (Int32.ofNat o), .int (Int32.ofNat len)] 6)) (T3.setTop (mkF m 3 #[.val (.ref b), .val (.int (Int32.ofNat o)), .val (.int (Int32.ofNat len)), .unset, .unset, .unset] [.ref s.heap.size])) := c2.trans (st3 _ (Steps.refl _))
  have c5 : Steps p.tables e below (s₁.setTop (entryFrame m #[.ref b, .int (Int32.ofNat o), .int (Int32.ofNat len)] 6)) (T3.setTop (mkF m 9 #[.val (.ref b), .val (.int (Int32.ofNat o)), .val (.int (Int32.ofNat len)), .val (.ref s.heap.size), .unset, .unset] [.int (Int32.ofNat len), .int 0, .ref s.heap.size, .int (Int32.ofNat o), .ref b])) := c4.trans (by
    refine XS.astoreN X3.here hexec rfl (hb hbytes d3) rfl rfl rfl ?_
    refine XS.aloadN X3.here hexec rfl (hb hbytes d4) rfl rfl ?_
    refine XS.iloadN X3.here hexec rfl (hb hbytes d5) rfl ?_
    refine XS.aloadN X3.here hexec rfl (hb hbytes d6) rfl rfl ?_
    refine iconstV X3.here hexec rfl 0 (hb hbytes d7) (by decide) ?_
    refine XS.iloadN X3.here hexec rfl (hb hbytes d8) rfl ?_
    exact Steps.refl _)
  obtain ⟨v6, T6, X6, E6, g6⟩ := X3.callS hexec (Cmp5.law l b A s.heap.size B3 o 0 len) hown (wks W (staticW U16 115 Cmp5.yN)) (wk W Cmp5.tab) (W := 0) (Nat.le_of_ble_eq_true rfl) (Nat.le_of_ble_eq_true rfl) (Nat.le_refl _) (by show 0 + len + 0 ≤ len; omega) (g := (mkF m 9 #[.val (.ref b), .val (.int (Int32.ofNat o)), .val (.int (Int32.ofNat len)), .val (.ref s.heap.size), .unset, .unset] [.int (Int32.ofNat len), .int (Int32.ofNat 0), .ref s.heap.size, .int (Int32.ofNat o), .ref b])) rfl (by rw [hml]; rfl) c5 (argsL := [.ref b, .int (Int32.ofNat o), .ref s.heap.size, .int (Int32.ofNat 0), .int (Int32.ofNat len)]) (rest := []) rfl rfl (by show 2 * 0 + 0 ≤ _; decide) (hb hbytes d9) (⟨rfl, hA3, ba3, hne, l1, by rw [bs3]; simp, hp⟩)
  obtain ⟨rfl, B6, p6, f6⟩ := E6
  have c7 : Steps p.tables e below (s₁.setTop (entryFrame m #[.ref b, .int (Int32.ofNat o), .int (Int32.ofNat len)] 6)) (T6.setTop (mkF m 12 #[.val (.ref b), .val (.int (Int32.ofNat o)), .val (.int (Int32.ofNat len)), .val (.ref s.heap.size), .unset, .unset] [.int (Int32.ofNat len)])) := g6
  have c8 : Steps p.tables e below (s₁.setTop (entryFrame m #[.ref b, .int (Int32.ofNat o), .int (Int32.ofNat len)] 6)) (T6.setTop (mkF m 58 #[.val (.ref b), .val (.int (Int32.ofNat o)), .val (.int (Int32.ofNat len)), .val (.ref s.heap.size), .val (.int (Int32.ofNat len)), .unset] [.ref s.heap.size])) := c7.trans (by
    refine XS.istore X6.here hexec rfl (hb hbytes d12) rfl rfl ?_
    refine XS.iload X6.here hexec rfl (hb hbytes d14) rfl ?_
    refine XS.iloadN X6.here hexec rfl (hb hbytes d16) rfl ?_
    refine XS.icmpYes X6.here hexec rfl (pc0 := 17) rfl (hb hbytes d17) rfl (ii_eq_t rfl) (by decide) rfl ?_
    refine XS.aloadN X6.here hexec rfl (hb hbytes d57) rfl rfl ?_
    exact Steps.refl _)
  have X8 := X6.wide (L' := []) (cells' := 1) (slots' := len) (fun x hx hlt => by
    simp only [List.nil_append, copyLocs, List.mem_map, List.mem_range] at hx
    obtain ⟨i, -, rfl⟩ := hx
    exact absurd hlt (Nat.lt_irrefl _)) (Nat.le_refl _) (by omega)
  exact ⟨T6, some (.ref s.heap.size), _, _, _, X8, rfl, rfl, rfl, (fun h => by cases h), ⟨⟨rfl, B6, ba3.like (X3.warmed.alike.symm.trans X6.warmed.alike) p6.1 f6.1 f6.2.1 f6.2.2.1, f6.2.1.trans bv3, by rw [X6.warmed.alike.findClass, f6.1]; exact bf3, by rw [f6.2.2.1, bs3]; simp, fun j hj => by rw [f6.2.2.2 j, if_pos (by omega)]; rfl, kp3.put p6 (Nat.le_refl _)⟩, by rw [p6.2.2, bh3, hh0]; simp⟩, fun fs hl => c8.trans (X8.areturnOut hexec rfl hret rfl (hb hbytes d58) hl)⟩
end Cmp3
namespace CodL
def yN : MethodName := ⟨"java/lang/StringUTF16", "coderFromArrayLen", "([BI)B"⟩
abbrev yB : ByteArray := jdk_52_method_15_code
theorem d0 : decode yB 0 = .ok (.iload_n 1, 1) := by decide +kernel
theorem d1 : decode yB 1 = .ok (.aload_n 0, 1) := by decide +kernel
theorem d2 : decode yB 2 = .ok (.arraylength, 1) := by decide +kernel
theorem d3 : decode yB 3 = .ok (.isub, 1) := by decide +kernel
theorem d4 : decode yB 4 = .ok (.bipush 31, 2) := by decide +kernel
theorem d6 : decode yB 6 = .ok (.iushr, 1) := by decide +kernel
theorem d7 : decode yB 7 = .ok (.i2b, 1) := by decide +kernel
theorem d8 : decode yB 8 = .ok (.ireturn, 1) := by decide +kernel
def site : List Cond := []
def tab : Cond := tabOf yN yB 2 (some .byte) site
def P (d : Addr) (B : Cell) (args : Array Value) (s : State) : Prop := args = #[.ref d, .int (Int32.ofNat B.slots.size)] ∧ Arr .byte d B s
def E (r : Option Value) (s u : State) : Prop := XT.PureE (some (.int 0)) r s u
/-- an array as long as the number of chars: LATIN1 -/
theorem law (l : Launch) (d : Addr) (B : Cell) : Law l yN 2 2 0 0 yB 2 (some .byte) site (P d B) E [] 0 0 := by
  refine Law.of_walk (plainFor_of_name (by decide +kernel)) (by decide +kernel) (by decide +kernel) (by decide) (fun _ _ h => by rw [h.1]; rfl) (fun _ U U' hal hh h => ⟨h.1, h.2.mv hal hh⟩) (fun r U U' V V' h1 hal h2 h => XT.PureE.mv r U U' V V' h1 hal h2 h) ?_
  intro p e s m args below meth c s₁ X0 hexec hbytes hml hret hlk hnm hown hh0 W hP
  obtain ⟨rfl, hB⟩ := hP
  have hB0 := hB.mv X0.warmed.alike hh0
  have c1 : Steps p.tables e below (s₁.setTop (entryFrame m #[.ref d, .int (Int32.ofNat B.slots.size)] 2)) (s₁.setTop (mkF m 0 #[.val (.ref d), .val (.int (Int32.ofNat B.slots.size))] [])) := entry rfl
  have c2 : Steps p.tables e below (s₁.setTop (entryFrame m #[.ref d, .int (Int32.ofNat B.slots.size)] 2)) (s₁.setTop (mkF m 2 #[.val (.ref d), .val (.int (Int32.ofNat B.slots.size))] [.ref d, .int (Int32.ofNat B.slots.size)])) := c1.trans (by
    refine XS.iloadN X0.here hexec rfl (hb hbytes d0) rfl ?_
    refine XS.aloadN X0.here hexec rfl (hb hbytes d1) rfl rfl ?_
    exact Steps.refl _)
  have c3 : Steps p.tables e below (s₁.setTop (entryFrame m #[.ref d, .int (Int32.ofNat B.slots.size)] 2)) (s₁.setTop (mkF m 8 #[.val (.ref d), .val (.int (Int32.ofNat B.slots.size))] [.int (lo8 (ushr (Int32.ofNat B.slots.size - Int32.ofNat B.slots.size) 31))])) := c2.trans (by
    refine X0.alen hexec hB0 rfl rfl (hb hbytes d2) ?_
    refine XS.isub X0.here hexec rfl (hb hbytes d3) rfl ?_
    refine bipushV X0.here hexec rfl 31 (hb hbytes d4) (by decide) ?_
    refine iushr X0.here hexec rfl (hb hbytes d6) rfl ?_
    refine i2b X0.here hexec rfl (hb hbytes d7) rfl ?_
    exact Steps.refl _)
  have e0 : lo8 (ushr (Int32.ofNat B.slots.size - Int32.ofNat B.slots.size) 31) = 0 := by rw [Int32.sub_self]; decide
  rw [e0] at c3
  exact ⟨s₁, some (.int 0), _, _, _, X0, rfl, rfl, rfl, (fun h => by cases h), ⟨rfl, hh0⟩, fun fs hl => c3.trans (X0.ireturnOut hexec hret rfl (Or.inr (Or.inr (Or.inl rfl))) (hb hbytes d8) hl)⟩
end CodL
/-- the String at a is Latin-1 over a new byte[] (the heap's one new cell): the low bytes of the len chars of A from o on; every cell but a is kept -/
def Got (a : Addr) (D : Cell) (fV fC : Field) (A : Cell) (o len : Nat) (r : Option Value) (s u : State) : Prop := r = none ∧ ∃ D' V : Cell, Blank "java/lang/String" a D' u ∧ Same D D' [fV.slot, fC.slot] ∧ D'.slots[fV.slot]? = some (.ref s.heap.size) ∧ D'.slots[fC.slot]? = some (.int 0) ∧ Arr .byte s.heap.size V u ∧ V.vm = .none ∧ u.vm.findClass "[B" = some V.cls ∧ V.slots.size = len ∧ (∀ j, j < len → V.slots[j]? = some (.int (lo8 (cv A (o + j))))) ∧ (∀ (y : Addr) (c : Cell), y ≠ a → s.heap[y]? = some c → u.heap[y]? = some c) ∧ u.heap.size = s.heap.size + 1
theorem Got.mv {a : Addr} {D A : Cell} {fV fC : Field} {o len : Nat} : ∀ r (U U' V V' : State), U'.heap = U.heap → V.vm.Alike V'.vm → V'.heap = V.heap → Got a D fV fC A o len r U V → Got a D fV fC A o len r U' V' :=
  fun r U U' V V' h1 hal h2 ⟨e0, D', X, a1, a2, a3, a4, a5, a6, a7, a8, a9, a10, a11⟩ => ⟨e0, D', X, a1.mv hal h2, a2, by rw [h1]; exact a3, a4, by rw [h1]; exact a5.mv hal h2, a6, by rw [hal.findClass]; exact a7, a8, a9, by rw [h1, h2]; exact a10, by rw [h1, h2]; exact a11⟩
namespace New4
def yN : MethodName := ⟨"java/lang/String", "<init>", "([CIILjava/lang/Void;)V"⟩
abbrev yB : ByteArray := jdk_42_method_149_code
theorem d0 : decode yB 0 = .ok (.aload_n 0, 1) := by decide +kernel
theorem d1 : decode yB 1 = .ok (.invokespecial 1, 3) := by decide +kernel
theorem d4 : decode yB 4 = .ok (.iload_n 3, 1) := by decide +kernel
theorem d5 : decode yB 5 = .ok (.ifCond (.ne) 22, 3) := by decide +kernel
theorem d27 : decode yB 27 = .ok (.getstatic 38, 3) := by decide +kernel
theorem d30 : decode yB 30 = .ok (.ifCond (.eq) 28, 3) := by decide +kernel
theorem d33 : decode yB 33 = .ok (.aload_n 1, 1) := by decide +kernel
theorem d34 : decode yB 34 = .ok (.iload_n 2, 1) := by decide +kernel
theorem d35 : decode yB 35 = .ok (.iload_n 3, 1) := by decide +kernel
theorem d36 : decode yB 36 = .ok (.invokestatic 177, 3) := by decide +kernel
theorem d39 : decode yB 39 = .ok (.astore 5, 2) := by decide +kernel
theorem d41 : decode yB 41 = .ok (.aload_n 0, 1) := by decide +kernel
theorem d42 : decode yB 42 = .ok (.aload 5, 2) := by decide +kernel
theorem d44 : decode yB 44 = .ok (.iload_n 3, 1) := by decide +kernel
theorem d45 : decode yB 45 = .ok (.invokestatic 47, 3) := by decide +kernel
theorem d48 : decode yB 48 = .ok (.putfield 15, 3) := by decide +kernel
theorem d51 : decode yB 51 = .ok (.aload_n 0, 1) := by decide +kernel
theorem d52 : decode yB 52 = .ok (.aload 5, 2) := by decide +kernel
theorem d54 : decode yB 54 = .ok (.putfield 9, 3) := by decide +kernel
theorem d57 : decode yB 57 = .ok (.return_, 1) := by decide +kernel
def site : List Cond := [.fieldLink "java/lang/String" 38 "java/lang/String" "COMPACT_STRINGS" "Z", Cmp3.tab, CodL.tab, .laysFinal "java/lang/String" "java/lang/String" "value" "[B", .fieldLink "java/lang/String" 9 "java/lang/String" "value" "[B", .laysFinal "java/lang/String" "java/lang/String" "coder" "B", .fieldLink "java/lang/String" 15 "java/lang/String" "coder" "B"] ++ objW "java/lang/String" 1 ++ staticW "java/lang/String" 177 Cmp3.yN ++ staticW "java/lang/String" 47 CodL.yN
def tab : Cond := tabOf yN yB 6 none site
def P (a : Addr) (D : Cell) (fV fC : Field) (b : Addr) (A : Cell) (z : Int32) (o len : Nat) (args : Array Value) (s : State) : Prop := args = #[.ref a, .ref b, .int (Int32.ofNat o), .int (Int32.ofNat len), .null] ∧ Blank "java/lang/String" a D s ∧ Found "java/lang/String" "value" "[B" fV s ∧ Found "java/lang/String" "coder" "B" fC s ∧ Ch b A s ∧ StaticIs s "java/lang/String" "COMPACT_STRINGS" "Z" (.int z) ∧ ¬ z = 0 ∧ 0 < len ∧ o + len ≤ A.slots.size ∧ len ≤ 536870912 ∧ ∀ i, i < len → ¬ 255 < cv A (o + i)
def E (a : Addr) (D : Cell) (fV fC : Field) (A : Cell) (o len : Nat) (r : Option Value) (s u : State) : Prop := Got a D fV fC A o len r s u
/-- len > 0, no char of the range above 255: a Latin-1 String of their low bytes -/
theorem law (l : Launch) (a : Addr) (D : Cell) (fV fC : Field) (b : Addr) (A : Cell) (z : Int32) (o len : Nat) : Law l yN 5 4 2 35 yB 6 none site (P a D fV fC b A z o len) (E a D fV fC A o len) [⟨a, fC.slot⟩, ⟨a, fV.slot⟩] 1 len := by
  refine Law.of_walk (plainFor_of_name (by decide +kernel)) (by decide +kernel) (by decide +kernel) (by decide) (fun _ _ h => by rw [h.1]; rfl) (fun _ U U' hal hh h => ⟨h.1, h.2.1.mv hal hh, h.2.2.1.al hal, h.2.2.2.1.al hal, h.2.2.2.2.1.mv hal hh, h.2.2.2.2.2.1.there hal hh, h.2.2.2.2.2.2⟩) (fun r U U' V V' h1 hal h2 h => Got.mv r U U' V V' h1 hal h2 h) ?_
  intro p e s m args below meth c s₁ X0 hexec hbytes hml hret hlk hnm hown hh0 W hP
  obtain ⟨rfl, hB, f1, f2, hA, s1, hz, l0, l1, l2, hp⟩ := hP
  have a31 := hA.1.2.2.2
  have c1 : Steps p.tables e below (s₁.setTop (entryFrame m #[.ref a, .ref b, .int (Int32.ofNat o), .int (Int32.ofNat len), .null] 6)) (s₁.setTop (mkF m 0 #[.val (.ref a), .val (.ref b), .val (.int (Int32.ofNat o)), .val (.int (Int32.ofNat len)), .val .null, .unset] [])) := entry rfl
  have c2 : Steps p.tables e below (s₁.setTop (entryFrame m #[.ref a, .ref b, .int (Int32.ofNat o), .int (Int32.ofNat len), .null] 6)) (s₁.setTop (mkF m 1 #[.val (.ref a), .val (.ref b), .val (.int (Int32.ofNat o)), .val (.int (Int32.ofNat len)), .val .null, .unset] [.ref a])) := c1.trans (by
    refine XS.aloadN X0.here hexec rfl (hb hbytes d0) rfl rfl ?_
    exact Steps.refl _)
  obtain ⟨T3, X3, q3, st3⟩ := X0.oinit hexec hown (wks W (objW "java/lang/String" 1)) (g := (mkF m 1 #[.val (.ref a), .val (.ref b), .val (.int (Int32.ofNat o)), .val (.int (Int32.ofNat len)), .val .null, .unset] [.ref a])) rfl (by rw [hml]; rfl) (rest := []) rfl (hb hbytes d1) (W := 0) (by show 2 * 0 + 0 ≤ _; decide) (Nat.le_of_ble_eq_true rfl) (Nat.le_of_ble_eq_true rfl)
  have hh3 := q3.trans hh0
  have c4 : Steps p.tables e below (s₁.setTop (entryFrame m #[.ref a, .ref b, .int (Int32.ofNat o), .int (Int32.ofNat len), .null] 6)) (T3.setTop (mkF m 27 #[.val (.ref a), .val (.ref b), .val (.int (Int32.ofNat o)), .val (.int (Int32.ofNat len)), .val .null, .unset] [])) := (c2.trans (st3 _ (Steps.refl _))).trans (by
    refine XS.iloadN X3.here hexec rfl (hb hbytes d4) rfl ?_
    refine XS.ifYes X3.here hexec rfl (pc0 := 5) rfl (hb hbytes d5) rfl (i0_ne_t (nz32 (by omega) l0)) (by decide) rfl ?_
    exact Steps.refl _)
  obtain ⟨T5, X5, q5, st5⟩ := X3.sget hexec hown (wk W (.fieldLink "java/lang/String" 38 "java/lang/String" "COMPACT_STRINGS" "Z")) s1 (fun _ _ h => by rw [hh3]; exact h) (g := (mkF m 27 #[.val (.ref a), .val (.ref b), .val (.int (Int32.ofNat o)), .val (.int (Int32.ofNat len)), .val .null, .unset] [])) rfl (hb hbytes d27)
  have hh5 := q5.trans hh3
  have c6 : Steps p.tables e below (s₁.setTop (entryFrame m #[.ref a, .ref b, .int (Int32.ofNat o), .int (Int32.ofNat len), .null] 6)) (T5.setTop (mkF m 30 #[.val (.ref a), .val (.ref b), .val (.int (Int32.ofNat o)), .val (.int (Int32.ofNat len)), .val .null, .unset] [.int z])) := c4.trans (st5 _ (Steps.refl _))
  have c7 : Steps p.tables e below (s₁.setTop (entryFrame m #[.ref a, .ref b, .int (Int32.ofNat o), .int (Int32.ofNat len), .null] 6)) (T5.setTop (mkF m 36 #[.val (.ref a), .val (.ref b), .val (.int (Int32.ofNat o)), .val (.int (Int32.ofNat len)), .val .null, .unset] [.int (Int32.ofNat len), .int (Int32.ofNat o), .ref b])) := c6.trans (by
    refine XS.ifNo X5.here hexec rfl (hb hbytes d30) rfl (i0_eq_f hz) ?_
    refine XS.aloadN X5.here hexec rfl (hb hbytes d33) rfl rfl ?_
    refine XS.iloadN X5.here hexec rfl (hb hbytes d34) rfl ?_
    refine XS.iloadN X5.here hexec rfl (hb hbytes d35) rfl ?_
    exact Steps.refl _)
  obtain ⟨v8, T8, X8, E8, g8⟩ := X5.callS hexec (Cmp3.law l b A o len) hown (wks W (staticW "java/lang/String" 177 Cmp3.yN)) (wk W Cmp3.tab) (W := 0) (Nat.le_of_ble_eq_true rfl) (Nat.le_of_ble_eq_true rfl) (Nat.le_refl _) (by show 0 + len ≤ len; omega) (g := (mkF m 36 #[.val (.ref a), .val (.ref b), .val (.int (Int32.ofNat o)), .val (.int (Int32.ofNat len)), .val .null, .unset] [.int (Int32.ofNat len), .int (Int32.ofNat o), .ref b])) rfl (by rw [hml]; rfl) c7 (argsL := [.ref b, .int (Int32.ofNat o), .int (Int32.ofNat len)]) (rest := []) rfl rfl (by show 2 * 0 + 0 ≤ _; decide) (hb hbytes d36) (⟨rfl, hA.mv X5.warmed.alike hh5, l1, l2, hp⟩)
  obtain ⟨e8, z8⟩ := E8
  obtain ⟨rfl, N, n1, n2, n3, n4, n5, n6⟩ := NewArr.mv _ T5 s _ _ hh5.symm (Vm.Alike.refl _) rfl e8
  rw [hh5] at z8
  have hB1 := hB.keep X8.warmed.alike (n6 _ _ hB.1)
  have hne : s.heap.size ≠ a := (Nat.ne_of_lt (Array.getElem?_eq_some_iff.mp hB.1).1).symm
  have c9 : Steps p.tables e below (s₁.setTop (entryFrame m #[.ref a, .ref b, .int (Int32.ofNat o), .int (Int32.ofNat len), .null] 6)) (T8.setTop (mkF m 39 #[.val (.ref a), .val (.ref b), .val (.int (Int32.ofNat o)), .val (.int (Int32.ofNat len)), .val .null, .unset] [.ref s.heap.size])) := g8
  have c10 : Steps p.tables e below (s₁.setTop (entryFrame m #[.ref a, .ref b, .int (Int32.ofNat o), .int (Int32.ofNat len), .null] 6)) (T8.setTop (mkF m 45 #[.val (.ref a), .val (.ref b), .val (.int (Int32.ofNat o)), .val (.int (Int32.ofNat len)), .val .null, .val (.ref s.heap.size)] [.int (Int32.ofNat N.slots.size), .ref s.heap.size, .ref a])) := by
    have hc : Steps p.tables e below (s₁.setTop (entryFrame m #[.ref a, .ref b, .int (Int32.ofNat o), .int (Int32.ofNat len), .null] 6)) (T8.setTop (mkF m 45 #[.val (.ref a), .val (.ref b), .val (.int (Int32.ofNat o)), .val (.int (Int32.ofNat len)), .val .null, .val (.ref s.heap.size)] [.int (Int32.ofNat len), .ref s.heap.size, .ref a])) := c9.trans (by
      refine XS.astore X8.here hexec rfl (hb hbytes d39) rfl rfl rfl ?_
      refine XS.aloadN X8.here hexec rfl (hb hbytes d41) rfl rfl ?_
      refine XS.aload X8.here hexec rfl (hb hbytes d42) rfl rfl ?_
      refine XS.iloadN X8.here hexec rfl (hb hbytes d44) rfl ?_
      exact Steps.refl _)
    rw [n4]; exact hc
  obtain ⟨v11, T11, X11, E11, g11⟩ := X8.callS hexec (CodL.law l s.heap.size N) hown (wks W (staticW "java/lang/String" 47 CodL.yN)) (wk W CodL.tab) (W := 1) (Nat.le_of_ble_eq_true rfl) (Nat.le_of_ble_eq_true rfl) (Nat.le_refl _) (by show 0 + len + 0 ≤ len; omega) (g := (mkF m 45 #[.val (.ref a), .val (.ref b), .val (.int (Int32.ofNat o)), .val (.int (Int32.ofNat len)), .val .null, .val (.ref s.heap.size)] [.int (Int32.ofNat N.slots.size), .ref s.heap.size, .ref a])) rfl (by rw [hml]; rfl) c10 (argsL := [.ref s.heap.size, .int (Int32.ofNat N.slots.size)]) (rest := [.ref a]) rfl rfl (by show 2 * 0 + (1 + 0) ≤ _; decide) (hb hbytes d45) (⟨rfl, n1⟩)
  obtain ⟨rfl, q11⟩ := E11
  have hB11 := hB1.mv (X8.warmed.alike.symm.trans X11.warmed.alike) q11
  have c12 : Steps p.tables e below (s₁.setTop (entryFrame m #[.ref a, .ref b, .int (Int32.ofNat o), .int (Int32.ofNat len), .null] 6)) (T11.setTop (mkF m 48 #[.val (.ref a), .val (.ref b), .val (.int (Int32.ofNat o)), .val (.int (Int32.ofNat len)), .val .null, .val (.ref s.heap.size)] [.int 0, .ref a])) := g11
  obtain ⟨T13, X13, p13, bl13, sl13, st13⟩ := X11.finit hexec hown (wk W (.fieldLink "java/lang/String" 15 "java/lang/String" "coder" "B")) (Or.inr ⟨_, (wk W (.laysFinal "java/lang/String" "java/lang/String" "coder" "B"))⟩) (Or.inl ⟨rfl, hnm⟩) f2 (Or.inl rfl) hB11 (t := .byte) (by decide +kernel) rfl (g := (mkF m 48 #[.val (.ref a), .val (.ref b), .val (.int (Int32.ofNat o)), .val (.int (Int32.ofNat len)), .val .null, .val (.ref s.heap.size)] [.int 0, .ref a])) rfl (rest := []) rfl (hb hbytes d48)
  have c14 : Steps p.tables e below (s₁.setTop (entryFrame m #[.ref a, .ref b, .int (Int32.ofNat o), .int (Int32.ofNat len), .null] 6)) (T13.setTop (mkF m 54 #[.val (.ref a), .val (.ref b), .val (.int (Int32.ofNat o)), .val (.int (Int32.ofNat len)), .val .null, .val (.ref s.heap.size)] [.ref s.heap.size, .ref a])) := (c12.trans (st13 _ (Steps.refl _))).trans (by
    refine XS.aloadN X13.here hexec rfl (hb hbytes d51) rfl rfl ?_
    refine XS.aload X13.here hexec rfl (hb hbytes d52) rfl rfl ?_
    exact Steps.refl _)
  obtain ⟨T15, X15, p15, bl15, sl15, st15⟩ := X13.finit hexec hown (wk W (.fieldLink "java/lang/String" 9 "java/lang/String" "value" "[B")) (Or.inr ⟨_, (wk W (.laysFinal "java/lang/String" "java/lang/String" "value" "[B"))⟩) (Or.inl ⟨rfl, hnm⟩) f1 (Or.inl rfl) bl13 (t := (.array .byte)) (by decide +kernel) rfl (g := (mkF m 54 #[.val (.ref a), .val (.ref b), .val (.int (Int32.ofNat o)), .val (.int (Int32.ofNat len)), .val .null, .val (.ref s.heap.size)] [.ref s.heap.size, .ref a])) rfl (rest := []) rfl (hb hbytes d54)
  have c16 : Steps p.tables e below (s₁.setTop (entryFrame m #[.ref a, .ref b, .int (Int32.ofNat o), .int (Int32.ofNat len), .null] 6)) (T15.setTop (mkF m 57 #[.val (.ref a), .val (.ref b), .val (.int (Int32.ofNat o)), .val (.int (Int32.ofNat len)), .val .null, .val (.ref s.heap.size)] [])) := c14.trans (st15 _ (Steps.refl _))
  have ap := apart (Or.inr ⟨_, (wk W (.laysFinal "java/lang/String" "java/lang/String" "value" "[B"))⟩) (Or.inr ⟨_, (wk W (.laysFinal "java/lang/String" "java/lang/String" "coder" "B"))⟩) f1 f2 (t₁ := .array .byte) (t₂ := .byte) (by decide +kernel) (by decide +kernel) (by decide)
  have al := X8.warmed.alike.symm.trans X15.warmed.alike
  have n7 : T11.heap[s.heap.size]? = some N := by rw [q11]; exact n1.1
  exact ⟨T15, none, _, _, _, X15, by simp, rfl, by omega, (fun _ => rfl), ⟨rfl, _, N, bl15, ((Same.refl D _).set _ (by simp)).set _ (by simp), sl15, (Cell.slots_setSlot_ne _ ap).trans sl13, n1.keep al (p15.other hne (p13.other hne n7)), n2, by rw [al.findClass]; exact n3, n4, n5, fun y c h1 h2 => p15.other h1 (p13.other h1 (by rw [q11]; exact n6 y c h2)), by rw [p15.2.2, p13.2.2, q11]; exact z8⟩, fun fs hl => c16.trans (X15.returnOut hexec hret (hb hbytes d57) hl)⟩
end New4
namespace New1
def yN : MethodName := ⟨"java/lang/String", "<init>", "([C)V"⟩
abbrev yB : ByteArray := jdk_42_method_3_code
theorem d0 : decode yB 0 = .ok (.aload_n 0, 1) := by decide +kernel
theorem d1 : decode yB 1 = .ok (.aload_n 1, 1) := by decide +kernel
theorem d2 : decode yB 2 = .ok (.iconst 0, 1) := by decide +kernel
theorem d3 : decode yB 3 = .ok (.aload_n 1, 1) := by decide +kernel
theorem d4 : decode yB 4 = .ok (.arraylength, 1) := by decide +kernel
theorem d5 : decode yB 5 = .ok (.aconst_null, 1) := by decide +kernel
theorem d6 : decode yB 6 = .ok (.invokespecial 27, 3) := by decide +kernel
theorem d9 : decode yB 9 = .ok (.return_, 1) := by decide +kernel
def site : List Cond := [New4.tab] ++ initW "java/lang/String" 27 New4.yN
def tab : Cond := tabOf yN yB 2 none site
def P (a : Addr) (D : Cell) (fV fC : Field) (b : Addr) (A : Cell) (z : Int32) (args : Array Value) (s : State) : Prop := args = #[.ref a, .ref b] ∧ Blank "java/lang/String" a D s ∧ Found "java/lang/String" "value" "[B" fV s ∧ Found "java/lang/String" "coder" "B" fC s ∧ Ch b A s ∧ StaticIs s "java/lang/String" "COMPACT_STRINGS" "Z" (.int z) ∧ ¬ z = 0 ∧ 0 < A.slots.size ∧ A.slots.size ≤ 536870912 ∧ ∀ i, i < A.slots.size → ¬ 255 < cv A i
def E (a : Addr) (D : Cell) (fV fC : Field) (A : Cell) (r : Option Value) (s u : State) : Prop := Got a D fV fC A 0 A.slots.size r s u
/-- new String(chars), not empty, no char above 255: a Latin-1 String of their low bytes -/
theorem law (l : Launch) (a : Addr) (D : Cell) (fV fC : Field) (b : Addr) (A : Cell) (z : Int32) : Law l yN 2 1 3 52 yB 2 none site (P a D fV fC b A z) (E a D fV fC A) [⟨a, fC.slot⟩, ⟨a, fV.slot⟩] 1 A.slots.size := by
  refine Law.of_walk (plainFor_of_name (by decide +kernel)) (by decide +kernel) (by decide +kernel) (by decide) (fun _ _ h => by rw [h.1]; rfl) (fun _ U U' hal hh h => ⟨h.1, h.2.1.mv hal hh, h.2.2.1.al hal, h.2.2.2.1.al hal, h.2.2.2.2.1.mv hal hh, h.2.2.2.2.2.1.there hal hh, h.2.2.2.2.2.2⟩) (fun r U U' V V' h1 hal h2 h => Got.mv r U U' V V' h1 hal h2 h) ?_
  intro p e s m args below meth c s₁ X0 hexec hbytes hml hret hlk hnm hown hh0 W hP
  obtain ⟨rfl, hB, f1, f2, hA, s1, hz, l0, l2, hp⟩ := hP
  have c1 : Steps p.tables e below (s₁.setTop (entryFrame m #[.ref a, .ref b] 2)) (s₁.setTop (mkF m 0 #[.val (.ref a), .val (.ref b)] [])) := entry rfl
  have c2 : Steps p.tables e below (s₁.setTop (entryFrame m #[.ref a, .ref b] 2)) (s₁.setTop (mkF m 6 #[.val (.ref a), .val (.ref b)] [.null, .int (Int32.ofNat A.slots.size), .int 0, .ref b, .ref a])) := c1.trans (by
    refine XS.aloadN X0.here hexec rfl (hb hbytes d0) rfl rfl ?_
    refine XS.aloadN X0.here hexec rfl (hb hbytes d1) rfl rfl ?_
    refine iconstV X0.here hexec rfl 0 (hb hbytes d2) (by decide) ?_
    refine XS.aloadN X0.here hexec rfl (hb hbytes d3) rfl rfl ?_
    refine X0.alen hexec (hA.1.mv X0.warmed.alike hh0) rfl rfl (hb hbytes d4) ?_
    refine XS.aconstNull X0.here hexec rfl (hb hbytes d5) ?_
    exact Steps.refl _)
  obtain ⟨v3, T3, X3, E3, g3⟩ := X0.callN hexec (New4.law l a D fV fC b A z 0 A.slots.size) rfl hown (wks W (initW "java/lang/String" 27 New4.yN)) (W New4.tab (by simp only [site, List.mem_cons, List.mem_append, true_or, or_true])) (W := 0) (Nat.le_of_ble_eq_true rfl) (Nat.le_of_ble_eq_true rfl) (Nat.le_refl _) (by show 0 + A.slots.size ≤ A.slots.size; omega) (g := (mkF m 6 #[.val (.ref a), .val (.ref b)] [.null, .int (Int32.ofNat A.slots.size), .int (Int32.ofNat 0), .ref b, .ref a])) rfl (by rw [hml]; rfl) c2 (argsL := [.ref b, .int (Int32.ofNat 0), .int (Int32.ofNat A.slots.size), .null]) (rest := []) rfl rfl (by show 2 * 0 + 0 ≤ _; decide) (hb hbytes d6) (⟨rfl, hB.mv X0.warmed.alike hh0, f1.al X0.warmed.alike, f2.al X0.warmed.alike, hA.mv X0.warmed.alike hh0, s1.there X0.warmed.alike hh0, hz, l0, by omega, l2, fun i hi => by rw [Nat.zero_add]; exact hp i hi⟩)
  have e0 := Got.mv _ s₁ s _ _ hh0.symm (Vm.Alike.refl _) rfl E3
  obtain rfl := e0.1
  have c4 : Steps p.tables e below (s₁.setTop (entryFrame m #[.ref a, .ref b] 2)) (T3.setTop (mkF m 9 #[.val (.ref a), .val (.ref b)] [])) := g3
  exact ⟨T3, none, _, _, _, X3, by simp, rfl, by omega, (fun _ => rfl), e0, fun fs hl => c4.trans (X3.returnOut hexec hret (hb hbytes d9) hl)⟩
theorem pays {l : Launch} {R : Room} {p : Program} {e : Env} {below : List Frame} {s : State} {sargs : Array Value} {len W : Nat} (a : Addr) (D : Cell) (fV fC : Field) (b : Addr) (A : Cell) (z : Int32) (htab : tab.before sargs s = true) (hfr : 4 ≤ R.frames) (hlo : W + 65 ≤ R.locals) :
    Back l R p e below s sargs yN len W (fun A₁ a₁ => A₁.cells + 1 ≤ R.cells ∧ A₁.slots + A.slots.size ≤ R.slots ∧ P a D fV fC b A z a₁ A₁.U) (fun A₁ _ v₁ B₁ => E a D fV fC A v₁ A₁.U B₁.U ∧ B₁.locs = A₁.locs ++ [⟨a, fC.slot⟩, ⟨a, fV.slot⟩] ∧ B₁.cells = A₁.cells + 1 ∧ B₁.slots = A₁.slots + A.slots.size) :=
  (law l a D fV fC b A z).pays htab hfr (by omega)
end New1
/-- the byte, read back as charAt reads it, is the char -/
theorem lo8_mask {x : Int32} (h0 : ¬ x < 0) (h1 : ¬ 255 < x) : lo8 x &&& 255 = x := by
  have t : ∀ k : Fin 256, lo8 (Int32.ofNat k.val) &&& 255 = Int32.ofNat k.val := by decide +kernel
  rw [Int32.lt_iff_toInt_lt] at h0 h1
  have e0 : (0 : Int32).toInt = 0 := rfl
  have e1 : (255 : Int32).toInt = 255 := rfl
  obtain ⟨k, hk⟩ : ∃ k : Nat, x.toInt = k := ⟨x.toInt.toNat, by omega⟩
  have hx : x = Int32.ofNat k := Int32.toInt_inj.mp (by rw [hk, Int32.toInt_ofNat_small (by omega)])
  rw [hx]
  exact t ⟨k, by omega⟩
end StrChars
namespace StrChars.Road
open Jvm Sem ClassFile Op Lib Jvm.Stand Jvm.Free Jvm.Free.XT
open Jvm.Lib.Cold (StaticIs)
abbrev ST : String := "java/lang/String"
/-- every table word that New1's law asks, flat -/
abbrev words : List Jvm.Cond := [.code New1.yN New1.yB 2 none, .initialized ST, .methodLink ST 27 New4.yN, .instanceMethod New4.yN,
  .code New4.yN New4.yB 6 none, .fieldLink ST 38 ST "COMPACT_STRINGS" "Z", .laysFinal ST ST "value" "[B", .fieldLink ST 9 ST "value" "[B", .laysFinal ST ST "coder" "B", .fieldLink ST 15 ST "coder" "B",
  .methodLink ST 1 Lib.objectInit, .instanceMethod Lib.objectInit, .code Lib.objectInit ⟨#[0xb1]⟩ 1 none, .methodLink ST 177 Cmp3.yN, .static Cmp3.yN, .methodLink ST 47 CodL.yN, .static CodL.yN,
  .code Cmp3.yN Cmp3.yB 6 (some (.array .byte)), .initialized U16, .arrayClass .byte, .methodLink U16 115 Cmp5.yN, .static Cmp5.yN, .code Cmp5.yN Cmp5.yB 7 (some .int), .code CodL.yN CodL.yB 2 (some .byte)]
theorem tab_of {a : Array Value} {s : State} (h : ∀ w ∈ words, w.before a s = true) : New1.tab.before a s = true := by
  have h5 : Cmp5.tab.before a s = true := unparts (wk h (.code Cmp5.yN Cmp5.yB 7 (some .int))) (wks h (.initialized Cmp5.yN.cls :: Cmp5.site))
  have hc : CodL.tab.before a s = true := unparts (wk h (.code CodL.yN CodL.yB 2 (some .byte))) (wks h (.initialized CodL.yN.cls :: CodL.site))
  have q5 : ∀ w ∈ Cmp5.tab :: words, w.before a s = true := fun w hw => (List.mem_cons.mp hw).elim (fun e => e ▸ h5) (h w)
  have h3 : Cmp3.tab.before a s = true := unparts (wk q5 (.code Cmp3.yN Cmp3.yB 6 (some (.array .byte)))) (wks q5 (.initialized Cmp3.yN.cls :: Cmp3.site))
  have q3 : ∀ w ∈ Cmp3.tab :: CodL.tab :: words, w.before a s = true := fun w hw => (List.mem_cons.mp hw).elim (fun e => e ▸ h3) fun hw => (List.mem_cons.mp hw).elim (fun e => e ▸ hc) (h w)
  have h4 : New4.tab.before a s = true := unparts (wk q3 (.code New4.yN New4.yB 6 none)) (wks q3 (.initialized New4.yN.cls :: New4.site))
  have q4 : ∀ w ∈ New4.tab :: words, w.before a s = true := fun w hw => (List.mem_cons.mp hw).elim (fun e => e ▸ h4) (h w)
  exact unparts (wk q4 (.code New1.yN New1.yB 2 none)) (wks q4 (.initialized New1.yN.cls :: New1.site))
/-- the words ride from the start Z to the walk's own state -/
theorem moved {Z s : State} {a0 args : Array Value} (hZ : Z.Warmed39 s.vm) (hw : ∀ d ∈ words, d.before a0 Z = true) : ∀ d ∈ words, d.before args s = true := fun d hd => by
  have q := hw d hd
  have t : ∀ d ∈ words, d = .arrayClass .byte ∨ (d.onTables && d.keepsFace) = true := by decide +kernel
  rcases t d hd with rfl | t
  · exact RoadKit.mvA hZ q
  · exact RoadKit.mv hZ q t
/-- WHAT COMES BACK, over the tables of the start Z: h the heap at the call, h' behind it -/
def Q (Z : State) (x : Addr) (A : Cell) (h : Heap) (v : Option Value) (h' : Heap) (L : List Loc) : Prop := v = none ∧ (∀ y ∈ L, y.base = x) ∧ RoadKit.Keep h h' [x] ∧ h'.size = h.size + 1 ∧ RoadKit.Exa Z h' x ST ∧ RoadKit.Fld Z h' x ST "value" "[B" (.ref h.size) ∧ RoadKit.Fld Z h' x ST "coder" "B" (.int 0) ∧
  (∃ V : Cell, RoadKit.Arr Z h' h.size V .byte ∧ V.vm = .none ∧ Z.vm.findClass "[B" = some V.cls ∧ V.slots.size = A.slots.size ∧ ∀ j, j < A.slots.size → V.slots[j]? = some (.int (lo8 (cv A j)))) ∧
  ∀ (O n d : String) (w : Value), RoadKit.Fld Z h x O n d w → RoadKit.slotOf Z O n d ≠ RoadKit.slotOf Z ST "value" "[B" → RoadKit.slotOf Z O n d ≠ RoadKit.slotOf Z ST "coder" "B" → RoadKit.Fld Z h' x O n d w
/-- **new String(chars) AT A CALL, IN THE ROAD'S FORM**: for specialBack behind newO: x the fresh String, b the char[] with the cell A -/
theorem back {p : Program} {l : Launch} {e : Env} {R : Room} {s : State} {args : Array Value} {below : List Frame} {len W : Nat} {Z : State} {a0 : Array Value} {h : Heap} (hZ : Z.Warmed39 s.vm) (hw : ∀ d ∈ words, d.before a0 Z = true) {kI : Nat} (wi : (Jvm.Cond.instantiable ST kI).before a0 Z = true)
    {x b : Addr} {A : Cell} {z : Int32} {v0 c0 : Value} (E : RoadKit.Exa Z h x ST) (V : RoadKit.Fld Z h x ST "value" "[B" v0) (C : RoadKit.Fld Z h x ST "coder" "B" c0) (K : RoadKit.Arr Z h b A .char) (hty : Typed .char A) (S : RoadKit.Sta Z h ST "COMPACT_STRINGS" "Z" (.int z)) (hz : ¬ z = 0)
    (l0 : 0 < A.slots.size) (l2 : A.slots.size ≤ 536870912) (hp : ∀ i, i < A.slots.size → ¬ 255 < cv A i) (hfr : 4 ≤ R.frames) (hlo : W + 65 ≤ R.locals) :
    Back l R p e below s args New1.yN len W (fun P a => a = #[.ref x, .ref b] ∧ P.U.heap = h ∧ P.cells + 1 ≤ R.cells ∧ P.slots + A.slots.size ≤ R.slots)
      (fun P _ v B => ∃ L, Q Z x A h v B.U.heap L ∧ B.locs = P.locs ++ L ∧ B.cells = P.cells + 1 ∧ B.slots = P.slots + A.slots.size) := by
  intro m meth c P g ig mk a X hg hsize hdg hW hn hp'
  obtain ⟨rfl, rfl, r1, r2⟩ := hp'
  have al : Z.vm.Alike P.U.vm := hZ.alike.trans X.warmed.alike
  obtain ⟨D, cfV, kV, iV, fV, hD, gV, stV, knV, obV, asV, slV⟩ := id V
  obtain ⟨D', cfC, kC, iC, fC, hD', gC, stC, -, -, asC, slC⟩ := id C
  cases hD.symm.trans hD'
  obtain ⟨D2, kD, e1, e2, e3, e4, e5⟩ := id E
  cases hD.symm.trans e1
  obtain ⟨c2, k2, i1, i2, i3, -⟩ := Cond.instantiable_spec wi
  cases e2.symm.trans i1
  cases e3.symm.trans i2
  obtain ⟨kU, u1, u2⟩ := al.2.2 _ _ e3
  have hB : Blank ST x D P.U := ⟨hD, ⟨knV, fun q hq => by rw [hq] at obV; cases obV⟩, by rw [al.findClass]; exact e2, kU, u1, by rw [u2]; exact i3, by rw [u2]; exact e5 i3⟩
  have F1 : Found ST "value" "[B" fV P.U := ⟨SBG.found_only al ⟨cfV, kV, iV, gV⟩, stV⟩
  have F2 : Found ST "coder" "B" fC P.U := ⟨SBG.found_only al ⟨cfC, kC, iC, gC⟩, stC⟩
  have hA : Ch b A P.U := ⟨⟨K.1, State.isArrayOf_alike al K.2.1, K.2.2, by omega⟩, hty⟩
  have hS : StaticIs P.U ST "COMPACT_STRINGS" "Z" (.int z) := by
    obtain ⟨cfS, iS, kS, fS, st, cS, t1, t2, t3, t4, t5, t6, t7⟩ := S
    exact StaticIs.there (s := { Z with heap := P.U.heap }) ⟨cfS, iS, kS, fS, st, cS, t1, t2, t3, t4, t5, (fun q => by rw [q] at t6; cases t6), t7⟩ al rfl
  obtain ⟨v, B, X', ⟨⟨hv, E', V', q1, q2, q3, q4, q5, q6, q7, q8, q9, q10, q11⟩, hl, hc, hs⟩, st⟩ := New1.pays x D fV fC b A z (tab_of (moved hZ hw)) hfr hlo m meth c P g ig mk _ X hg hsize hdg hW hn ⟨r1, r2, rfl, hB, F1, F2, hA, hS, hz, l0, l2, hp⟩
  have al' : Z.vm.Alike B.U.vm := hZ.alike.trans X'.warmed.alike
  have hsz : E'.slots.size = D.slots.size := by
    obtain ⟨-, -, -, kB, w1, w2, w3⟩ := q1
    obtain ⟨kB', y1, y2⟩ := al'.2.2 _ _ e3
    rw [q2.2.1] at w1
    cases w1.symm.trans y1
    rw [w3, e5 i3, y2]
  refine ⟨v, B, X', ⟨_, ⟨hv, ?_, ⟨by omega, fun y cy hy hn' => q10 y cy (by simpa using hn') hy, fun y cy hy => ?_⟩, q11, ⟨E', _, q1.1, by rw [q2.2.1]; exact e2, by rw [q2.2.1]; exact e3, by rw [q2.1]; exact obV, fun _ => by rw [hsz]; exact e5 i3⟩,
    ⟨E', cfV, kV, iV, fV, q1.1, gV, stV, by rw [q2.1]; exact knV, by rw [q2.1]; exact obV, by rw [q2.2.1]; exact asV, q3⟩, ⟨E', cfC, kC, iC, fC, q1.1, gC, stC, by rw [q2.1]; exact knV, by rw [q2.1]; exact obV, by rw [q2.2.1]; exact asC, q4⟩,
    ⟨V', ⟨q5.1, State.isArrayOf_alike al'.symm q5.2.1, q5.2.2.1⟩, q6, by rw [← al'.findClass]; exact q7, q8, fun j hj => by have := q9 j hj; rwa [Nat.zero_add] at this⟩, fun O n d w F n1 n2 => ?_⟩, hl, hc, hs⟩, st⟩
  · intro y hy
    simp only [List.mem_cons, List.not_mem_nil, or_false] at hy
    rcases hy with rfl | rfl <;> rfl
  · by_cases q : y = x
    · subst q
      cases hD.symm.trans hy
      exact ⟨E', q1.1, q2.2.1, q2.1, hsz⟩
    · exact ⟨cy, q10 y cy q hy, rfl, rfl, rfl⟩
  · obtain ⟨D3, cf, k, i, f, g1, g2, g3, g4, g5, g6, g7⟩ := F
    cases hD.symm.trans g1
    simp only [RoadKit.slotOf, g2, gV, gC, Option.map_some, Option.getD_some] at n1 n2
    exact ⟨E', cf, k, i, f, q1.1, g2, g3, by rw [q2.1]; exact g4, by rw [q2.1]; exact g5, by rw [q2.2.1]; exact g6, by rw [q2.2.2 f.slot (by simp [n1, n2])]; exact g7⟩
end StrChars.Road
namespace StrChars.Road
open Jvm Sem ClassFile Op Lib Jvm.Stand Jvm.Free Jvm.Free.XT
/-- WHAT COMES BACK, the byte[] as a list of values -/
def QA (Z : State) (x : Addr) (zn : Int32) (cs : List Int32) (h : Heap) (v : Option Value) (h' : Heap) (L : List Loc) : Prop := v = none ∧ (∀ y ∈ L, y.base = x) ∧ RoadKit.Keep h h' [x] ∧ h'.size = h.size + 1 ∧ RoadKit.Exa Z h' x ST ∧ RoadKit.Fld Z h' x ST "value" "[B" (.ref h.size) ∧ RoadKit.Fld Z h' x ST "coder" "B" (.int 0) ∧
  (∃ kb, Z.vm.findClass "[B" = some kb ∧ RoadKit.Arv Z h' h.size kb .byte zn (cs.map fun c => .int (lo8 c)) (.int 0)) ∧
  ∀ (O n d : String) (w : Value), RoadKit.Fld Z h x O n d w → RoadKit.slotOf Z O n d ≠ RoadKit.slotOf Z ST "value" "[B" → RoadKit.slotOf Z O n d ≠ RoadKit.slotOf Z ST "coder" "B" → RoadKit.Fld Z h' x O n d w
/-- **new String(chars) AT A CALL, THE ARRAYS AS LISTS**: the char[] at b holds cs, not empty, no char above 255 -/
theorem backArv {p : Program} {l : Launch} {e : Env} {R : Room} {s : State} {args : Array Value} {below : List Frame} {len W : Nat} {Z : State} {a0 : Array Value} {h : Heap} (hZ : Z.Warmed39 s.vm) (hw : ∀ d ∈ words, d.before a0 Z = true) {kI : Nat} (wi : (Jvm.Cond.instantiable ST kI).before a0 Z = true)
    {x b : Addr} {k : ClassId} {zn z : Int32} {cs : List Int32} {dv v0 c0 : Value} (E : RoadKit.Exa Z h x ST) (V : RoadKit.Fld Z h x ST "value" "[B" v0) (C : RoadKit.Fld Z h x ST "coder" "B" c0) (K : RoadKit.Arv Z h b k .char zn (cs.map Value.int) dv) (S : RoadKit.Sta Z h ST "COMPACT_STRINGS" "Z" (.int z)) (hz : ¬ z = 0)
    (hlen : zn.toNatClampNeg = cs.length) (h0 : 0 < cs.length) (hbig : cs.length ≤ 536870912) (hall : ∀ c ∈ cs, ¬ 255 < c) (hfr : 4 ≤ R.frames) (hlo : W + 65 ≤ R.locals) :
    Back l R p e below s args New1.yN len W (fun P a => a = #[.ref x, .ref b] ∧ P.U.heap = h ∧ P.cells + 1 ≤ R.cells ∧ P.slots + cs.length ≤ R.slots)
      (fun P _ v B => ∃ L, QA Z x zn cs h v B.U.heap L ∧ B.locs = P.locs ++ L ∧ B.cells = P.cells + 1 ∧ B.slots = P.slots + cs.length) := by
  obtain ⟨A, K1, K2, K3, K4, K5, K6⟩ := K
  have e : A.slots.size = cs.length := K3.trans hlen
  have hat : ∀ (i : Nat) (hi : i < cs.length), A.slots[i]? = some (.int cs[i]) := fun i hi => by rw [K5 i (by omega)]; simp [List.getD_eq_getElem?_getD, hi]
  have hcv : ∀ (i : Nat) (hi : i < cs.length), cv A i = cs[i] := fun i hi => by unfold cv; rw [hat i hi]
  have hty : Typed .char A := fun i v hv => by
    have hi : i < A.slots.size := (Array.getElem?_eq_some_iff.mp hv).1
    have q := K5 i hi
    rw [hv] at q
    rw [Option.some.inj q]
    exact K6 i hi
  refine Back.mono (back hZ hw wi E V C K1 hty S hz (by omega) (by omega) (fun i hi => by rw [hcv i (by omega)]; exact hall _ (List.getElem_mem _)) hfr hlo) (fun P a hp => ⟨hp.1, hp.2.1, hp.2.2.1, by rw [e]; exact hp.2.2.2⟩) (fun P a v B hp hq => ?_)
  obtain ⟨L, ⟨q1, q2, q3, q4, q5, q6, q7, ⟨V', v1, v2, v3, v4, v5⟩, q9⟩, hl, hc, hs⟩ := hq
  refine ⟨L, ⟨q1, q2, q3, q4, q5, q6, q7, ⟨V'.cls, v3, V', v1, rfl, by rw [v4, e, hlen], K4, fun i hi => ?_, fun i hi => ?_⟩, q9⟩, hl, hc, by rw [hs, e]⟩
  · have hi' : i < cs.length := by omega
    rw [v5 i (by omega), hcv i hi']; simp [List.getD_eq_getElem?_getD, hi']
  · have hi' : i < cs.length := by omega
    simp only [List.getD_eq_getElem?_getD, List.getElem?_map, List.getElem?_eq_getElem hi', Option.map_some, Option.getD_some]
    exact fits_lo8 _
end StrChars.Road
namespace StrChars.Road
open Jvm Sem ClassFile Op Lib Jvm.Stand Jvm.Free Jvm.Free.XT
/-- WHAT COMES BACK, in the writer's own shape -/
def QV (Z : State) (x : Addr) (N : Int32) (bs : List Int32) (h : Heap) (n0 : Nat) (v : Option Value) (h' : Heap) (L : List Loc) : Prop := v = none ∧ RoadKit.Fr n0 L ∧ RoadKit.Keep h h' [x] ∧ RoadKit.Exa Z h' x ST ∧ RoadKit.Fld Z h' x ST "coder" "B" (.int 0) ∧
  ∃ (t : Addr) (kb : ClassId), n0 ≤ t ∧ h.size ≤ t ∧ ¬ t = x ∧ RoadKit.Fld Z h' x ST "value" "[B" (.ref t) ∧ RoadKit.Arv Z h' t kb .byte N (bs.map Value.int) (.int 0)
/-- **new String(chars) AT A CALL, FOR THE WRITER**: a char[] of n known ints, each 0 to 255 -/
theorem backV {p : Program} {l : Launch} {e : Env} {R : Room} {s : State} {args : Array Value} {below : List Frame} {len W : Nat} {Z : State} {a0 : Array Value} {h : Heap} (hZ : Z.Warmed39 s.vm) (hw : ∀ d ∈ words, d.before a0 Z = true) {kI : Nat} (wi : (Jvm.Cond.instantiable ST kI).before a0 Z = true)
    {x b : Addr} {kC : ClassId} {cs bs : List Int32} {d v0 c0 : Value} {z N : Int32} {n n0 : Nat} (hx0 : n0 ≤ x) (hh0 : n0 ≤ h.size) (E : RoadKit.Exa Z h x ST) (V : RoadKit.Fld Z h x ST "value" "[B" v0) (C : RoadKit.Fld Z h x ST "coder" "B" c0) (K : RoadKit.Arv Z h b kC .char N (cs.map Value.int) d) (S : RoadKit.Sta Z h ST "COMPACT_STRINGS" "Z" (.int z)) (hz : ¬ z = 0)
    (hn : cs.length = n) (hN : N = Int32.ofNat n) (l0 : 0 < n) (l2 : n ≤ 4000) (hp : ∀ c ∈ cs, ¬ c < 0 ∧ ¬ (255 : Int32) < c) (hb : bs = cs.map (fun c => c.toInt8.toInt32)) (hfr : 4 ≤ R.frames) (hlo : W + 65 ≤ R.locals) :
    Back l R p e below s args (⟨"java/lang/String", "<init>", "([C)V"⟩ : MethodName) len W (fun P a => a = #[.ref x, .ref b] ∧ P.U.heap = h ∧ P.cells + 1 ≤ R.cells ∧ P.slots + n ≤ R.slots)
      (fun P _ v B => ∃ L, QV Z x N bs h n0 v B.U.heap L ∧ B.locs = P.locs ++ L ∧ B.cells = P.cells + 1 ∧ B.slots = P.slots + n) := by
  subst hn hN hb
  refine Back.mono (backArv hZ hw wi E V C K S hz (n32 (by omega)) l0 (by omega) (fun c hc => (hp c hc).2) hfr hlo) (fun P a hp => hp) (fun P a v B hp hq => ?_)
  obtain ⟨L, ⟨q1, q2, q3, q4, q5, q6, q7, ⟨kb, v1, v2⟩, q9⟩, hl, hc, hs⟩ := hq
  exact ⟨L, ⟨q1, fun y hy => by rw [q2 y hy]; exact hx0, q3, q5, q7, h.size, kb, hh0, Nat.le_refl _, Nat.ne_of_gt E.lt, q6, by rw [List.map_map]; exact v2⟩, hl, hc, hs⟩
end StrChars.Road
namespace StrChars
open Jvm Sem ClassFile Op Lib Jvm.Stand Jvm.Free.XT Jvm.Free.ALB Jvm.Free.JM Jvm.Free
open Jvm.Lib.Cold (StaticIs)
def hi8 (x : Int32) : Int32 := lo8 (x >>> ((8 : Int32) &&& 31))
/-- what StringUTF16.getChar makes of two bytes -/
def pairCh (u v : Int32) : Int32 := (((u &&& 255) <<< ((0 : Int32) &&& 31)) ||| ((v &&& 255) <<< ((8 : Int32) &&& 31))).toUInt32.toUInt16.toUInt32.toInt32
theorem lo8_and (x : Int32) : (lo8 x &&& 255).toBitVec.toNat = x.toBitVec.toNat % 256 := by
  have h : (lo8 x).toBitVec = (x.toBitVec.signExtend 8).signExtend 32 := by rw [lo8, Int8.toBitVec_toInt32, Int32.toBitVec_toInt8]
  rw [Int32.toBitVec_and, BitVec.toNat_and, h]
  have e : ((x.toBitVec.signExtend 8).signExtend 32).toNat % 256 = x.toBitVec.toNat % 256 := by
    rw [BitVec.toNat_signExtend]
    have hlt := x.toBitVec.isLt
    simp only [BitVec.toNat_setWidth, BitVec.toNat_signExtend]
    split <;> split <;> omega
  rw [← e]
  exact Nat.and_two_pow_sub_one_eq_mod _ 8
theorem pair_says {c : Int32} (h0 : ¬ c < 0) (h1 : ¬ 65535 < c) : pairCh (lo8 c) (hi8 c) = c := by
  rw [Int32.lt_iff_toInt_lt] at h0 h1
  have e0 : (0 : Int32).toInt = 0 := rfl
  have e1 : (65535 : Int32).toInt = 65535 := rfl
  have hc : c.toInt = c.toBitVec.toNat := by
    have := c.toBitVec.isLt
    have e : c.toInt = c.toBitVec.toInt := rfl
    rw [e] at h0 h1
    rw [e]
    rw [BitVec.toInt_eq_toNat_cond] at h0 h1 ⊢
    split at h0 <;> split <;> omega
  have hn : c.toBitVec.toNat < 65536 := by omega
  have a1 := lo8_and c
  have a2 : (hi8 c &&& 255).toBitVec.toNat = c.toBitVec.toNat / 256 := by
    rw [hi8, lo8_and]
    have e : ((8 : Int32) &&& 31) = 8 := by decide
    rw [e, Int32.toBitVec_shiftRight]
    have e2 : ((8 : Int32).toBitVec.smod 32) = 8#32 := by decide
    rw [e2, BitVec.sshiftRight_eq', BitVec.toNat_sshiftRight_of_msb_false (by rw [BitVec.msb_eq_false_iff_two_mul_lt]; omega)]
    show c.toBitVec.toNat >>> 8 % 256 = _
    rw [Nat.shiftRight_eq_div_pow]
    omega
  unfold pairCh
  apply Int32.toBitVec_inj.mp
  apply BitVec.eq_of_toNat_eq
  have f0 : ((0 : Int32) &&& 31) = 0 := by decide
  have f8 : ((8 : Int32) &&& 31) = 8 := by decide
  rw [f0, f8]
  have g : (((lo8 c &&& 255) <<< (0 : Int32)) ||| ((hi8 c &&& 255) <<< (8 : Int32))).toBitVec.toNat = c.toBitVec.toNat := by
    rw [Int32.toBitVec_or, Int32.toBitVec_shiftLeft, Int32.toBitVec_shiftLeft]
    have s0 : ((0 : Int32).toBitVec.smod 32) = 0#32 := by decide
    have s8 : ((8 : Int32).toBitVec.smod 32) = 8#32 := by decide
    rw [s0, s8, BitVec.toNat_or]
    simp only [BitVec.shiftLeft_eq', BitVec.toNat_shiftLeft, a1, a2]
    show (c.toBitVec.toNat % 256) <<< 0 % 2 ^ 32 ||| (c.toBitVec.toNat / 256) <<< 8 % 2 ^ 32 = _
    rw [Nat.shiftLeft_zero, Nat.mod_eq_of_lt (show c.toBitVec.toNat % 256 < 2 ^ 32 by omega), Nat.mod_eq_of_lt (show (c.toBitVec.toNat / 256) <<< 8 < 2 ^ 32 by rw [Nat.shiftLeft_eq]; omega), Nat.or_comm, ← Nat.shiftLeft_add_eq_or_of_lt (by omega), Nat.shiftLeft_eq]
    omega
  show BitVec.toNat (((((lo8 c &&& 255) <<< (0 : Int32)) ||| ((hi8 c &&& 255) <<< (8 : Int32))).toBitVec.setWidth 16).setWidth 32) = _
  rw [BitVec.toNat_setWidth, BitVec.toNat_setWidth, g]
  omega
end StrChars
namespace StrChars
open Jvm Sem ClassFile Op Lib Jvm.Stand Jvm.Free.XT Jvm.Free.ALB Jvm.Free.JM Jvm.Free
open Jvm.Lib.Cold (StaticIs)
/-- charAt's cast of a byte read back -/
def chr8 (u : Int32) : Int32 := (u &&& 255).toUInt32.toUInt16.toUInt32.toInt32
theorem chr8_lo8 {c : Int32} (h0 : ¬ c < 0) (h1 : ¬ 255 < c) : chr8 (lo8 c) = c := by
  have t : ∀ k : Fin 256, (Int32.ofNat k.val).toUInt32.toUInt16.toUInt32.toInt32 = Int32.ofNat k.val := by decide +kernel
  unfold chr8
  rw [lo8_mask h0 h1]
  rw [Int32.lt_iff_toInt_lt] at h0 h1
  have e0 : (0 : Int32).toInt = 0 := rfl
  have e1 : (255 : Int32).toInt = 255 := rfl
  obtain ⟨k, hk⟩ : ∃ k : Nat, c.toInt = k := ⟨c.toInt.toNat, by omega⟩
  have hx : c = Int32.ofNat k := Int32.toInt_inj.mp (by rw [hk, Int32.toInt_ofNat_small (by omega)])
  rw [hx]
  exact t ⟨k, by omega⟩
theorem narrow_ch {c : Int32} (h0 : ¬ c < 0) (h1 : ¬ 65535 < c) : narrow .char (.int c) = .int c := by
  have q : narrow .char (.int (pairCh (lo8 c) (hi8 c))) = .int (pairCh (lo8 c) (hi8 c)) := narrow_c _
  rwa [pair_says h0 h1] at q
end StrChars
end Jvm.Pilot.@@N@@
namespace Jvm.OwnKit
open Jvm Jvm.ClassFile Sem Op Lib Jvm.Free Jvm.Stand Jvm.LawKit Jvm.RoadKit Bundle
/-- what is left to show of a walk that stands at S: it ends, and Q holds there -/
def Go (tb : Tables) (e : Env) (below : List Frame) (Q : Outcome → State → Prop) (S : State) : Prop :=
  ∃ (U : State) (o : Outcome), Steps tb e below S U ∧ U.status = .running ∧ Ended U below o ∧ Q o U
section
variable {tb : Tables} {e : Env} {below : List Frame} {Q : Outcome → State → Prop} {S S' : State}
theorem Go.st (f : ∀ {t : State}, Steps tb e below S' t → Steps tb e below S t) (h : Go tb e below Q S') : Go tb e below Q S := by
  obtain ⟨U, o, h1, h2⟩ := h
  exact ⟨U, o, f h1, h2⟩
theorem Go.to (f : ∀ t : State, Steps tb e below S' t → Steps tb e below S t) (h : Go tb e below Q S') : Go tb e below Q S := Go.st (fun {t} => f t) h
theorem Go.run (f : Steps tb e below S S') (h : Go tb e below Q S') : Go tb e below Q S := by
  obtain ⟨U, o, h1, h2⟩ := h
  exact ⟨U, o, f.trans h1, h2⟩
end
theorem castGo {tb : Tables} {e : Env} {below : List Frame} {Q : Outcome → State → Prop} {T : State} {g g' : JFrame} (q : g = g') (k : Go tb e below Q (T.setTop g')) : Go tb e below Q (T.setTop g) := q ▸ k
/-- the end of a plain walk -/
def PEnd (s : State) (Qc : Option Value → Heap → List Loc → Prop) (kc ks : Nat) (o : Outcome) (U : State) : Prop :=
  ∃ v L, o = .returned v ∧ Qc v U.heap L ∧ FrameEnd s o U L kc ks
/-- a plain contract: from the heap h with these arguments it returns, Qc holds, the room is kept -/
def Con (l : Launch) (Z : State) (y : MethodName) (bytes : ByteArray) (maxL : Nat) (ret : Option FieldType) (rm : Room) (as' : Array Value) (h : Heap) (Qc : Option Value → Heap → List Loc → Prop) : Prop :=
  ∀ ws : List Jvm.Cond, MetFree l y (head1 (Jvm.Cond.code y bytes maxL ret :: ws) rm) (fun a U => a = as' ∧ Z.Warmed39 U.vm ∧ U.heap = h) (fun _ _ _ _ _ => True) (fun _ U o U' => PEnd U Qc rm.cells rm.slots o U')
theorem Con.intro {l : Launch} {Z : State} {y : MethodName} {bytes : ByteArray} {maxL : Nat} {ret : Option FieldType} {rm : Room} {as' : Array Value} {h : Heap} {Qc : Option Value → Heap → List Loc → Prop} (pn : plainName y.cls = true)
    (body : ∀ (p : Program) (e : Env) (s : State) (m : MethodId) (below : List Frame) (meth : Method) (c : Code) (T : State), Stand p l e rm s m as' below meth c T [] 0 0 → p.tables.exec = Jvm.exec → c.code = bytes → c.maxLocals = maxL →
      s.vm.findClass y.cls = some m.cls → meth.name = y.name → meth.sig.returnType = ret → meth.locks = false → Z.Warmed39 s.vm → T.heap = h →
      Go p.tables e below (PEnd s Qc rm.cells rm.slots) (T.setTop (entryFrame m as' maxL))) : Con l Z y bytes maxL ret rm as' h Qc := by
  intro ws
  refine MetFree.of_bodySF (plainFor_of_name pn) hisR ?_
  intro p e s m args below meth c s₁ Bd hml0 hP hK
  obtain ⟨rfl, hZ, hh⟩ := hP
  exact body p e s m below meth c s₁ (Stand.of_body Bd) Bd.exec Bd.bytes hml0 (findClass_of_methodNamed Bd.named) (name_of_methodNamed Bd.named Bd.method).1 Bd.returns Bd.notSynchronized hZ (by rw [← hh, Bd.state]; rfl)
/-- the end of a walk that may have interned -/
def SEnd (Z : State) (EL : List (String × Nat)) (s : State) (Qc : Option Value → Heap → List Loc → Prop) (kc ks : Nat) (o : Outcome) (U : State) : Prop :=
  ∃ v L, o = .returned v ∧ Qc v U.heap L ∧ CHr Z EL s.vm s.heap U.vm U.heap ∧ ReturnedEndW s o U L kc ks
/-- a contract of a method that may load String constants; sl: cells that no constant uses -/
def ConS (l : Launch) (Z : State) (EL : List (String × Nat)) (y : MethodName) (bytes : ByteArray) (maxL : Nat) (ret : Option FieldType) (rm : Room) (as' : Array Value) (h : Heap) (sl : List Addr) (Qc : Option Value → Heap → List Loc → Prop) : Prop :=
  ∀ ws : List Jvm.Cond, MetFree l y (head1 (Jvm.Cond.code y bytes maxL ret :: ws) rm) (fun a U => a = as' ∧ Z.Warmed39 U.vm ∧ U.heap = h ∧ CHv Z EL U.vm h ∧ ∀ x ∈ sl, Safe Z EL U.vm h x) (fun _ _ _ _ _ => True) (fun _ U o U' => SEnd Z EL U Qc rm.cells rm.slots o U')
theorem ConS.intro {l : Launch} {Z : State} {EL : List (String × Nat)} {y : MethodName} {bytes : ByteArray} {maxL : Nat} {ret : Option FieldType} {rm : Room} {as' : Array Value} {h : Heap} {sl : List Addr} {Qc : Option Value → Heap → List Loc → Prop} (pn : plainName y.cls = true)
    (body : ∀ (p : Program) (e : Env) (s : State) (m : MethodId) (below : List Frame) (meth : Method) (c : Code) (T : State) (v0 : Vm), Stand p l e rm (s.setVm v0) m as' below meth c T [] 0 0 → p.tables.exec = Jvm.exec → c.code = bytes → c.maxLocals = maxL →
      v0.findClass y.cls = some m.cls → meth.name = y.name → meth.sig.returnType = ret → meth.locks = false → Z.Warmed39 v0 → T.heap = h → s.Since v0 0 → CHr Z EL s.vm s.heap v0 h → (∀ x ∈ sl, Safe Z EL v0 h x) →
      Go p.tables e below (SEnd Z EL s Qc rm.cells rm.slots) (T.setTop (entryFrame m as' maxL))) : ConS l Z EL y bytes maxL ret rm as' h sl Qc := by
  intro ws
  refine MetFree.of_bodySF (plainFor_of_name pn) hisR ?_
  intro p e s m args below meth c s₁ Bd hml0 hP hK
  obtain ⟨rfl, hZ, hh, hC, hs⟩ := hP
  exact body p e s m below meth c s₁ s.vm (Stand.of_body Bd) Bd.exec Bd.bytes hml0 (findClass_of_methodNamed Bd.named) (name_of_methodNamed Bd.named Bd.method).1 Bd.returns Bd.notSynchronized hZ (by rw [← hh, Bd.state]; rfl) ((State.WarmedH.refl s).since 0) (by rw [hh]; exact CHr.refl hC) hs
section Ends
variable {p : Program} {l : Launch} {e : Env} {R : Room} {s : State} {m : MethodId} {args : Array Value} {below : List Frame} {meth : Method} {c : Code} {T : State} {locs : List Loc} {cells slots : Nat} {Z : State} {a0 : Array Value} {EL : List (String × Nat)} {h : Heap} {Qc : Option Value → Heap → List Loc → Prop} {kc ks pc : Nat} {Ls : Array Slot} {rest : List Value} {vm1 : Vm} {n1 : Nat}
/-- any plain end, its last step given -/
theorem endP (X : Stand p l e R s m args below meth c T locs cells slots) (hlk : meth.locks = false) {v : Option Value} (hv : meth.sig.returnType = none → v = none) {S : State}
    (hst : ∀ fs : List Frame, (∀ (f : JFrame) (acts : List Action), f.method = m → f.locked = none → f.entered = [] → (doReturn e (T.setTop f) acts v).1 = T.setFrames fs) → Steps p.tables e below S (T.setFrames fs))
    (hq : Qc v T.heap locs) (h1 : cells ≤ kc) (h2 : slots ≤ ks) : Go p.tables e below (PEnd s Qc kc ks) S := by
  obtain ⟨fs, hr, hrun, hended, hW, hsame⟩ := X.leave (v := v) hv hlk
  exact ⟨_, _, hst fs hr, hrun, hended, _, _, rfl, hq, ⟨_, rfl⟩, hW, hsame.mono h1 h2⟩
theorem mono_sbn {s t : State} {L : List Loc} {k n k' n' : Nat} {o : Outcome} (h : ReturnedEndW s o t L k n) (h1 : k ≤ k') (h2 : n ≤ n') : ReturnedEndW s o t L k' n' := ⟨h.1, h.2.1, h.2.2.1, h.2.2.2.mono h1 h2⟩
theorem endC (X : Stand p l e R (s.setVm vm1) m args below meth c T locs cells slots) (hlk : meth.locks = false) (hS : s.Since vm1 n1) (hk : n1 ≤ T.heap.size) (hZ : Z.Warmed39 vm1) (w : EW Z a0 EL) (C : CHr Z EL s.vm s.heap vm1 T.heap) {v : Option Value} (hv : meth.sig.returnType = none → v = none) {S : State}
    (hst : ∀ fs : List Frame, (∀ (f : JFrame) (acts : List Action), f.method = m → f.locked = none → f.entered = [] → (doReturn e (T.setTop f) acts v).1 = T.setFrames fs) → Steps p.tables e below S (T.setFrames fs))
    (hq : Qc v T.heap locs) (h1 : cells ≤ kc) (h2 : slots ≤ ks) : Go p.tables e below (SEnd Z EL s Qc kc ks) S := by
  obtain ⟨fs, hr, hrun, hended, hW⟩ := X.leaveW hS hk (v := v) hv hlk
  have hC : CHr Z EL s.vm s.heap T.vm T.heap := C.trans (CHv.at X hZ w C.1)
  exact ⟨_, _, hst fs hr, hrun, hended, _, _, rfl, hq, hC, mono_sbn hW h1 h2⟩
/-- the last steps -/
theorem lastV (X : Stand p l e R s m args below meth c T locs cells slots) (hx : p.tables.exec = Jvm.exec) (hret : meth.sig.returnType = none) (hd : decode c.code pc = .ok (.return_, 1)) : ∀ fs : List Frame, (∀ (f : JFrame) (acts : List Action), f.method = m → f.locked = none → f.entered = [] → (doReturn e (T.setTop f) acts none).1 = T.setFrames fs) →
    Steps p.tables e below (T.setTop (mkF m pc Ls [])) (T.setFrames fs) := fun fs hr => X.returnOut hx hret hd hr
theorem lastN (X : Stand p l e R s m args below meth c T locs cells slots) (hx : p.tables.exec = Jvm.exec) {z z' : Int32} {t : FieldType} (hret : meth.sig.returnType = some t) (ht : t = .boolean ∨ t = .byte ∨ t = .char ∨ t = .short) (hz : nar t z = z') (hd : decode c.code pc = .ok (.ireturn, 1)) :
    ∀ fs : List Frame, (∀ (f : JFrame) (acts : List Action), f.method = m → f.locked = none → f.entered = [] → (doReturn e (T.setTop f) acts (some (.int z'))).1 = T.setFrames fs) → Steps p.tables e below (T.setTop (mkF m pc Ls (.int z :: rest))) (T.setFrames fs) := fun fs hr => by
  subst hz; exact retN X hx hret ht hd hr
theorem lastI (X : Stand p l e R s m args below meth c T locs cells slots) (hx : p.tables.exec = Jvm.exec) {z : Int32} (hret : meth.sig.returnType = some .int) (hd : decode c.code pc = .ok (.ireturn, 1)) :
    ∀ fs : List Frame, (∀ (f : JFrame) (acts : List Action), f.method = m → f.locked = none → f.entered = [] → (doReturn e (T.setTop f) acts (some (.int z))).1 = T.setFrames fs) → Steps p.tables e below (T.setTop (mkF m pc Ls (.int z :: rest))) (T.setFrames fs) := fun fs hr =>
  retOut X hx hret rfl (Or.inl ⟨rfl, Or.inl rfl, z, rfl⟩) hd hr
theorem lastL (X : Stand p l e R s m args below meth c T locs cells slots) (hx : p.tables.exec = Jvm.exec) {z : Int64} (hret : meth.sig.returnType = some .long) (hd : decode c.code pc = .ok (.lreturn, 1)) :
    ∀ fs : List Frame, (∀ (f : JFrame) (acts : List Action), f.method = m → f.locked = none → f.entered = [] → (doReturn e (T.setTop f) acts (some (.long z))).1 = T.setFrames fs) → Steps p.tables e below (T.setTop (mkF m pc Ls (.long z :: rest))) (T.setFrames fs) := fun fs hr =>
  retOut X hx hret rfl (Or.inr (Or.inl ⟨rfl, rfl, z, rfl⟩)) hd hr
theorem lastA (X : Stand p l e R s m args below meth c T locs cells slots) (hx : p.tables.exec = Jvm.exec) {w : Value} {t : FieldType} (hret : meth.sig.returnType = some t) (ht : t.isReference = true) (hn : narrow t w = w) (hw : w.isRef = true) (hd : decode c.code pc = .ok (.areturn, 1)) :
    ∀ fs : List Frame, (∀ (f : JFrame) (acts : List Action), f.method = m → f.locked = none → f.entered = [] → (doReturn e (T.setTop f) acts (some w)).1 = T.setFrames fs) → Steps p.tables e below (T.setTop (mkF m pc Ls (w :: rest))) (T.setFrames fs) := fun fs hr =>
  retOut X hx hret hn (Or.inr (Or.inr (Or.inr (Or.inr ⟨rfl, ht, hw⟩)))) hd hr
end Ends
/-- what pays a call: from the heap h, k cells and n slots -/
abbrev BackQ (l : Launch) (R : Room) (p : Program) (e : Env) (below : List Frame) (s : State) (sargs : Array Value) (y : MethodName) (len W : Nat) (as' : Array Value) (h : Heap) (k n : Nat) (Q : Option Value → Heap → List Loc → Prop) : Prop :=
  Back l R p e below s sargs y len W (fun A a => a = as' ∧ A.U.heap = h ∧ A.cells + k ≤ R.cells ∧ A.slots + n ≤ R.slots) (fun A _ v B => ∃ L, Q v B.U.heap L ∧ B.locs = A.locs ++ L ∧ B.cells = A.cells + k ∧ B.slots = A.slots + n)
abbrev BackSQ (l : Launch) (R : Room) (p : Program) (e : Env) (below : List Frame) (s : State) (vm0 : Vm) (sargs : Array Value) (y : MethodName) (len W : Nat) (as' : Array Value) (h : Heap) (k n : Nat) (Z : State) (EL : List (String × Nat)) (Q : Option Value → Heap → List Loc → Prop) : Prop :=
  BackS l R p e below (s.setVm vm0) sargs y len W (fun A a => a = as' ∧ A.U.heap = h ∧ A.cells + k ≤ R.cells ∧ A.slots + n ≤ R.slots) (fun A _ v B => ∃ L, Q v B.U.heap L ∧ B.locs = A.locs ++ L ∧ B.cells = A.cells + k ∧ B.slots = A.slots + n ∧ CHr Z EL vm0 h B.U.vm B.U.heap)
section Calls
variable {p : Program} {l : Launch} {e : Env} {R : Room} {s : State} {m : MethodId} {args : Array Value} {below : List Frame} {meth : Method} {c : Code} {T : State} {locs : List Loc} {cells slots : Nat} {Z : State} {a0 : Array Value} {EL : List (String × Nat)} {h : Heap} {Qc : Option Value → Heap → List Loc → Prop} {vm0 : Vm} {n0 : Nat}
  {y z : MethodName} {bytes : ByteArray} {maxL : Nat} {ret : Option FieldType} {rm : Room} {as' : Array Value} {own C : String} {index count W k n len : Nat} {g : JFrame} {a : Addr} {argsL rest : List Value}
theorem Con.back (hM : Con l Z y bytes maxL ret rm as' h Qc) (hZ : Z.Warmed39 s.vm) (wc : (Jvm.Cond.code y bytes maxL ret).before a0 Z = true) (wz : (Jvm.Cond.initialized y.cls).before a0 Z = true) (hf : rm.frames + 1 ≤ R.frames) (hl : W + (maxL + 11) + rm.locals ≤ R.locals) :
    BackQ l R p e below s args y len W as' h rm.cells rm.slots Qc := backOf (Q := Qc) (hM []) hZ wc wz hf hl
theorem ConS.back {sl : List Addr} (hM : ConS l Z EL y bytes maxL ret rm as' h sl Qc) (hZ : Z.Warmed39 vm0) (wc : (Jvm.Cond.code y bytes maxL ret).before a0 Z = true) (wz : (Jvm.Cond.initialized y.cls).before a0 Z = true) (hf : rm.frames + 1 ≤ R.frames) (hl : W + (maxL + 11) + rm.locals ≤ R.locals) (hEL : EW Z a0 EL) (H : CHv Z EL vm0 h)
    (hs : ∀ x ∈ sl, Safe Z EL vm0 h x) (hlt : ∀ x ∈ sl, x < h.size) : BackSQ l R p e below s vm0 args y len W as' h rm.cells rm.slots Z EL Qc :=
  BackS.of_freeW (bytes := bytes) (maxL := maxL) (ret := ret) (E := fun _ first o t L k n => k = rm.cells ∧ n = rm.slots ∧ (∃ v, o = .returned v ∧ Qc v t.heap L) ∧ CHr Z EL first.vm first.heap t.vm t.heap) (hM []) hf hl
    (fun m meth c A a Y hp => have hU : Z.Warmed39 A.U.vm := wtrans (s := s.setVm vm0) hZ Y.warmed
      ⟨by show (Cond.and _ .tt).before a A.U = true; rw [Cond.before_and, mv hU wc]; rfl, mv hU wc, mv hU wz, hp.2.2.1, hp.2.2.2⟩)
    (fun m meth c A a g mk Y hp => ⟨hp.1, wtrans (s := s.setVm vm0) hZ Y.warmed, hp.2.1, (CHv.at Y hZ hEL H).1, fun x hx => (CHv.at Y hZ hEL H).safe (hlt x hx) (hs x hx)⟩) (fun _ _ _ _ _ _ _ _ _ => trivial)
    (fun _ _ _ _ ⟨v, L, h1, h2, h3, h4⟩ => ⟨L, _, _, h4, rfl, rfl, ⟨v, h1, h2⟩, h3⟩)
    (fun m meth c A a g mk v t L k n Y hp _ _ ⟨e1, e2, ⟨v', e3, e4⟩, e5⟩ => by
      cases e3; subst e1 e2
      refine ⟨L, e4, rfl, rfl, rfl, (CHv.at Y hZ hEL H).trans ?_⟩
      rw [← hp.2.1]; exact e5)
theorem callSp (X : Stand p l e R s m args below meth c T locs cells slots) (hx : p.tables.exec = Jvm.exec) (hZ : Z.Warmed39 s.vm) (hown : s.vm.findClass own = some m.cls) (hy1 : y.name = "<init>") (w1 : (Jvm.Cond.methodLink own index y).before a0 Z = true) (w2 : (Jvm.Cond.instanceMethod y).before a0 Z = true) (w3 : (Jvm.Cond.code y bytes maxL none).before a0 Z = true)
    (hyc : y.cls ≠ "java/lang/invoke/MethodHandle" ∧ y.cls ≠ "java/lang/invoke/VarHandle") (eT : T.heap = h) (hK : BackQ l R p e below s args y 3 W (.ref a :: argsL).toArray h k n Qc)
    (hg : g.method = m) (hsize : g.locals.size = c.maxLocals) (hlen : ∀ sig, parseMethodDescriptor y.desc = some sig → argsL.length = sig.parameters.length) (hstack : g.stack = argsL.reverse ++ .ref a :: rest) (hW : 2 * g.monitorRoom + (rest.map fun v => v.category).sum ≤ W)
    (hdg : decode c.code g.pc = .ok (.invokespecial index, 3)) (hc : cells + k ≤ R.cells) (hs : slots + n ≤ R.slots) :
    ∃ v T' L, Stand p l e R s m args below meth c T' (locs ++ L) (cells + k) (slots + n) ∧ Qc v T'.heap L ∧ Steps p.tables e below (T.setTop g) (T'.setTop { g with pc := g.pc + 3, stack := v.toList ++ rest }) := by
  obtain ⟨v, vm1, ⟨T', L', k', n'⟩, -, X', ⟨L, hQ, rfl, rfl, rfl⟩, st⟩ := X.specialBack hx hy1 hown (mvT hZ w1) (mvT hZ w2) (mvT hZ w3) hyc hK hg hsize (Steps.refl _) hlen hstack hW hdg (fun _ _ => ⟨rfl, eT, hc, hs⟩)
  exact ⟨v, T', L, X', hQ, st⟩
theorem callVi (X : Stand p l e R s m args below meth c T locs cells slots) (hx : p.tables.exec = Jvm.exec) (hZ : Z.Warmed39 s.vm) (hown : s.vm.findClass own = some m.cls) (w1 : (Jvm.Cond.methodLink own index y).before a0 Z = true) (w2 : (Jvm.Cond.declares y).before a0 Z = true) (nf : NotFace s y) (w4 : (Jvm.Cond.selects C y z).before a0 Z = true) (w5 : (Jvm.Cond.instanceMethod z).before a0 Z = true)
    (hyc : y.cls ≠ "java/lang/invoke/MethodHandle" ∧ y.cls ≠ "java/lang/invoke/VarHandle") (eT : T.heap = h) (E : Exa Z h a C) (hK : BackQ l R p e below s args z 3 W (.ref a :: argsL).toArray h k n Qc)
    (hg : g.method = m) (hsize : g.locals.size = c.maxLocals) (hlen : ∀ sig, parseMethodDescriptor y.desc = some sig → argsL.length = sig.parameters.length) (hstack : g.stack = argsL.reverse ++ .ref a :: rest) (hW : 2 * g.monitorRoom + (rest.map fun v => v.category).sum ≤ W)
    (hdg : decode c.code g.pc = .ok (.invokevirtual index, 3)) (hc : cells + k ≤ R.cells) (hs : slots + n ≤ R.slots) :
    ∃ v T' L, Stand p l e R s m args below meth c T' (locs ++ L) (cells + k) (slots + n) ∧ Qc v T'.heap L ∧ Steps p.tables e below (T.setTop g) (T'.setTop { g with pc := g.pc + 3, stack := v.toList ++ rest }) := by
  obtain ⟨cB, kB, q1, q2, q3⟩ := isOf hZ eT E
  obtain ⟨v, vm1, ⟨T', L', k', n'⟩, -, X', ⟨L, hQ, rfl, rfl, rfl⟩, st⟩ := X.virtualBack hx hown (mvT hZ w1) (mvT hZ w2) nf (mvT hZ w4) (mvT hZ w5) hyc hK q1 q3 hg hsize (Steps.refl _) hlen hstack hW hdg (fun _ _ => ⟨rfl, eT, hc, hs⟩)
  exact ⟨v, T', L, X', hQ, st⟩
theorem callSt (X : Stand p l e R s m args below meth c T locs cells slots) (hx : p.tables.exec = Jvm.exec) (hZ : Z.Warmed39 s.vm) (hown : s.vm.findClass own = some m.cls) (w1 : (Jvm.Cond.methodLink own index y).before a0 Z = true) (w2 : (Jvm.Cond.static y).before a0 Z = true) (w3 : (Jvm.Cond.initialized y.cls).before a0 Z = true) (w4 : (Jvm.Cond.code y bytes maxL ret).before a0 Z = true)
    (hyc : y.cls ≠ "java/lang/invoke/MethodHandle" ∧ y.cls ≠ "java/lang/invoke/VarHandle") (eT : T.heap = h) (hK : BackQ l R p e below s args y 3 W argsL.toArray h k n Qc)
    (hg : g.method = m) (hsize : g.locals.size = c.maxLocals) (hlen : ∀ sig, parseMethodDescriptor y.desc = some sig → argsL.length = sig.parameters.length) (hstack : g.stack = argsL.reverse ++ rest) (hW : 2 * g.monitorRoom + (rest.map fun v => v.category).sum ≤ W)
    (hdg : decode c.code g.pc = .ok (.invokestatic index, 3)) (hc : cells + k ≤ R.cells) (hs : slots + n ≤ R.slots) :
    ∃ v T' L, Stand p l e R s m args below meth c T' (locs ++ L) (cells + k) (slots + n) ∧ Qc v T'.heap L ∧ Steps p.tables e below (T.setTop g) (T'.setTop { g with pc := g.pc + 3, stack := v.toList ++ rest }) := by
  obtain ⟨v, vm1, ⟨T', L', k', n'⟩, -, X', ⟨L, hQ, rfl, rfl, rfl⟩, st⟩ := Jvm.LawKit.callS X hx hown (mvT hZ w1) (mvT hZ w2) (mvT hZ w3) (mvT hZ w4) hyc hK hg hsize hlen hstack hW hdg (fun _ _ => ⟨rfl, eT, hc, hs⟩)
  exact ⟨v, T', L, X', hQ, st _ (Steps.refl _)⟩
theorem callIf (X : Stand p l e R s m args below meth c T locs cells slots) (hx : p.tables.exec = Jvm.exec) (hZ : Z.Warmed39 s.vm) (hown : s.vm.findClass own = some m.cls) (w1 : (Jvm.Cond.methodLink own index y).before a0 Z = true) (w2 : (Jvm.Cond.declares y).before a0 Z = true) (w3 : (Jvm.Cond.interfaceMethod y.cls y.cls y.name y.desc).before a0 Z = true) (h3 : ((Jvm.Cond.interfaceMethod y.cls y.cls y.name y.desc).onTables && (Jvm.Cond.interfaceMethod y.cls y.cls y.name y.desc).keepsFace) = true) (w4 : (Jvm.Cond.selects C y z).before a0 Z = true) (w5 : (Jvm.Cond.instanceMethod z).before a0 Z = true)
    (w6 : (Jvm.Cond.publicMethod z).before a0 Z = true) (w7 : (Jvm.Cond.unhidden C y.name y.desc).before a0 Z = true) (w8 : (Jvm.Cond.castable C y.cls).before a0 Z = true)
    (hyc : y.cls ≠ "java/lang/invoke/MethodHandle" ∧ y.cls ≠ "java/lang/invoke/VarHandle") (eT : T.heap = h) (E : Exa Z h a C) (hK : BackQ l R p e below s args z 5 W (.ref a :: argsL).toArray h k n Qc)
    (hg : g.method = m) (hsize : g.locals.size = c.maxLocals) (hlen : ∀ sig, parseMethodDescriptor y.desc = some sig → argsL.length = sig.parameters.length) (hstack : g.stack = argsL.reverse ++ .ref a :: rest) (hW : 2 * g.monitorRoom + (rest.map fun v => v.category).sum ≤ W)
    (hdg : decode c.code g.pc = .ok (.invokeinterface index count, 5)) (hc : cells + k ≤ R.cells) (hs : slots + n ≤ R.slots) :
    ∃ v T' L, Stand p l e R s m args below meth c T' (locs ++ L) (cells + k) (slots + n) ∧ Qc v T'.heap L ∧ Steps p.tables e below (T.setTop g) (T'.setTop { g with pc := g.pc + 5, stack := v.toList ++ rest }) := by
  obtain ⟨cB, kB, q1, q2, q3⟩ := isOf hZ eT E
  obtain ⟨v, vm1, ⟨T', L', k', n'⟩, -, X', ⟨L, hQ, rfl, rfl, rfl⟩, st⟩ := X.interfaceBack hx hown (mvT hZ w1) (mvT hZ w2) (mvT hZ w3 h3) (mvT hZ w4) (mvT hZ w5) (mvT hZ w6) (mvT hZ w7) (mvT hZ w8) hyc hK q1 q2 q3 hg hsize (Steps.refl _) hlen hstack hW hdg (fun _ _ => ⟨rfl, eT, hc, hs⟩)
  exact ⟨v, T', L, X', hQ, st⟩
theorem callVu (X : Stand p l e R s m args below meth c T locs cells slots) (hx : p.tables.exec = Jvm.exec) (hZ : Z.Warmed39 s.vm) (hown : s.vm.findClass own = some m.cls) {owner : String} (w1 : (Jvm.Cond.methodLink own index y).before a0 Z = true) (w2 : (Jvm.Cond.sameMethod y.cls owner y.name y.desc).before a0 Z = true) (w3 : (Jvm.Cond.declares ⟨owner, y.name, y.desc⟩).before a0 Z = true) (hyc : owner ≠ "java/lang/invoke/MethodHandle" ∧ owner ≠ "java/lang/invoke/VarHandle") (w4 : (Jvm.Cond.selects C y z).before a0 Z = true) (w5 : (Jvm.Cond.instanceMethod z).before a0 Z = true)
    (eT : T.heap = h) (E : Exa Z h a C) (hK : BackQ l R p e below s args z 3 W (.ref a :: argsL).toArray h k n Qc)
    (hg : g.method = m) (hsize : g.locals.size = c.maxLocals) (hlen : ∀ sig, parseMethodDescriptor y.desc = some sig → argsL.length = sig.parameters.length) (hstack : g.stack = argsL.reverse ++ .ref a :: rest) (hW : 2 * g.monitorRoom + (rest.map fun v => v.category).sum ≤ W)
    (hdg : decode c.code g.pc = .ok (.invokevirtual index, 3)) (hc : cells + k ≤ R.cells) (hs : slots + n ≤ R.slots) :
    ∃ v T' L, Stand p l e R s m args below meth c T' (locs ++ L) (cells + k) (slots + n) ∧ Qc v T'.heap L ∧ Steps p.tables e below (T.setTop g) (T'.setTop { g with pc := g.pc + 3, stack := v.toList ++ rest }) := by
  obtain ⟨cB, kB, q1, q2, q3⟩ := isOf hZ eT E
  obtain ⟨v, vm1, ⟨T', L', k', n'⟩, -, X', ⟨L, hQ, rfl, rfl, rfl⟩, st⟩ := X.virtualBackUp hx hown (mvT hZ w1) (mvT hZ w2) (mvT hZ w3) hyc (mvT hZ w4) (mvT hZ w5) hK q1 q3 hg hsize (Steps.refl _) hlen hstack hW hdg (fun _ _ => ⟨rfl, eT, hc, hs⟩)
  exact ⟨v, T', L, X', hQ, st⟩
/-- an object of C is one of K, or it isn't, as the tables have it -/
theorem insEither (hZ : Z.Warmed39 s.vm) (hown : s.vm.findClass own = some m.cls) {K : String} (w : (Jvm.Cond.classLink own index K).before a0 Z = true) (E : Exa Z h a C) : Ins Z h a K true ∨ ∃ c t, Z.vm.findClass C = some c ∧ Z.vm.findClass K = some t ∧ Z.vm.assignable c t = false := by
  have hd : Z.vm.findClass own = some m.cls := by rw [← hZ.alike.findClass]; exact hown
  obtain ⟨t, ht, -⟩ := Cond.classLink_spec hd w {} rfl
  obtain ⟨cell, k, h1, h2, h3, h4, h5⟩ := E
  cases hq : Z.vm.assignable cell.cls t with
  | true => exact Or.inl ⟨cell, t, h1, ht, by simp [h4, hq]⟩
  | false => exact Or.inr ⟨cell.cls, t, h2, ht, hq⟩
/-- what stands behind a call that may have interned -/
def AfterS (p : Program) (l : Launch) (e : Env) (R : Room) (s : State) (m : MethodId) (args : Array Value) (below : List Frame) (meth : Method) (c : Code) (Z : State) (EL : List (String × Nat)) (own : String) (vm0 : Vm) (h : Heap) (T' : State) (locs : List Loc) (cells slots : Nat) : Prop :=
  Stand p l e R (s.setVm T'.vm) m args below meth c T' locs cells slots ∧ s.Since T'.vm T'.heap.size ∧ Z.Warmed39 T'.vm ∧ T'.vm.findClass own = some m.cls ∧ CHr Z EL vm0 h T'.vm T'.heap
theorem callSpS (X : Stand p l e R (s.setVm vm0) m args below meth c T locs cells slots) (hx : p.tables.exec = Jvm.exec) (hZ : Z.Warmed39 vm0) (hown : vm0.findClass own = some m.cls) (hS : s.Since vm0 n0) (hk : n0 ≤ h.size) (hy1 : y.name = "<init>") (w1 : (Jvm.Cond.methodLink own index y).before a0 Z = true) (w2 : (Jvm.Cond.instanceMethod y).before a0 Z = true) (w3 : (Jvm.Cond.code y bytes maxL none).before a0 Z = true)
    (hyc : y.cls ≠ "java/lang/invoke/MethodHandle" ∧ y.cls ≠ "java/lang/invoke/VarHandle") (eT : T.heap = h) (hK : BackSQ l R p e below s vm0 args y 3 W (.ref a :: argsL).toArray h k n Z EL Qc)
    (hg : g.method = m) (hsize : g.locals.size = c.maxLocals) (hlen : ∀ sig, parseMethodDescriptor y.desc = some sig → argsL.length = sig.parameters.length) (hstack : g.stack = argsL.reverse ++ .ref a :: rest) (hW : 2 * g.monitorRoom + (rest.map fun v => v.category).sum ≤ W)
    (hdg : decode c.code g.pc = .ok (.invokespecial index, 3)) (hc : cells + k ≤ R.cells) (hs : slots + n ≤ R.slots) :
    ∃ v T' L, AfterS p l e R s m args below meth c Z EL own vm0 h T' (locs ++ L) (cells + k) (slots + n) ∧ Qc v T'.heap L ∧ Steps p.tables e below (T.setTop g) (T'.setTop { g with pc := g.pc + 3, stack := v.toList ++ rest }) := by
  obtain ⟨v, vm1, ⟨T', L', k', n'⟩, -, X', h2, gr, ⟨L, hQ, rfl, rfl, rfl, hC⟩, st⟩ := X.specialBackS hx hy1 hown (mvT hZ w1) (mvT hZ w2) (mvT hZ w3) hyc hK hg hsize (Steps.refl _) hlen hstack hW hdg (fun _ _ => ⟨rfl, eT, hc, hs⟩)
  obtain ⟨b1, b2, b3, b4⟩ := rebS hS (eT ▸ hk) X' h2 gr hZ hown
  exact ⟨v, T', L, ⟨b1, b2, b3, b4, hC⟩, hQ, st⟩
theorem callViS (X : Stand p l e R (s.setVm vm0) m args below meth c T locs cells slots) (hx : p.tables.exec = Jvm.exec) (hZ : Z.Warmed39 vm0) (hown : vm0.findClass own = some m.cls) (hS : s.Since vm0 n0) (hk : n0 ≤ h.size) (w1 : (Jvm.Cond.methodLink own index y).before a0 Z = true) (w2 : (Jvm.Cond.declares y).before a0 Z = true) (nf : NotFace (s.setVm vm0) y) (w4 : (Jvm.Cond.selects C y z).before a0 Z = true) (w5 : (Jvm.Cond.instanceMethod z).before a0 Z = true)
    (hyc : y.cls ≠ "java/lang/invoke/MethodHandle" ∧ y.cls ≠ "java/lang/invoke/VarHandle") (eT : T.heap = h) (E : Exa Z h a C) (hK : BackSQ l R p e below s vm0 args z 3 W (.ref a :: argsL).toArray h k n Z EL Qc)
    (hg : g.method = m) (hsize : g.locals.size = c.maxLocals) (hlen : ∀ sig, parseMethodDescriptor y.desc = some sig → argsL.length = sig.parameters.length) (hstack : g.stack = argsL.reverse ++ .ref a :: rest) (hW : 2 * g.monitorRoom + (rest.map fun v => v.category).sum ≤ W)
    (hdg : decode c.code g.pc = .ok (.invokevirtual index, 3)) (hc : cells + k ≤ R.cells) (hs : slots + n ≤ R.slots) :
    ∃ v T' L, AfterS p l e R s m args below meth c Z EL own vm0 h T' (locs ++ L) (cells + k) (slots + n) ∧ Qc v T'.heap L ∧ Steps p.tables e below (T.setTop g) (T'.setTop { g with pc := g.pc + 3, stack := v.toList ++ rest }) := by
  obtain ⟨cB, kB, q1, q2, q3⟩ := isOf (s := s.setVm vm0) hZ eT E
  obtain ⟨v, vm1, ⟨T', L', k', n'⟩, -, X', h2, gr, ⟨L, hQ, rfl, rfl, rfl, hC⟩, st⟩ := X.virtualBackS hx hown (mvT hZ w1) (mvT hZ w2) nf (mvT hZ w4) (mvT hZ w5) hyc hK q1 q3 hg hsize (Steps.refl _) hlen hstack hW hdg (fun _ _ => ⟨rfl, eT, hc, hs⟩)
  obtain ⟨b1, b2, b3, b4⟩ := rebS hS (eT ▸ hk) X' h2 gr hZ hown
  exact ⟨v, T', L, ⟨b1, b2, b3, b4, hC⟩, hQ, st⟩
theorem callStS (X : Stand p l e R (s.setVm vm0) m args below meth c T locs cells slots) (hx : p.tables.exec = Jvm.exec) (hZ : Z.Warmed39 vm0) (hown : vm0.findClass own = some m.cls) (hS : s.Since vm0 n0) (hk : n0 ≤ h.size) (w1 : (Jvm.Cond.methodLink own index y).before a0 Z = true) (w2 : (Jvm.Cond.static y).before a0 Z = true) (w3 : (Jvm.Cond.initialized y.cls).before a0 Z = true) (w4 : (Jvm.Cond.code y bytes maxL ret).before a0 Z = true)
    (hyc : y.cls ≠ "java/lang/invoke/MethodHandle" ∧ y.cls ≠ "java/lang/invoke/VarHandle") (eT : T.heap = h) (hK : BackSQ l R p e below s vm0 args y 3 W argsL.toArray h k n Z EL Qc)
    (hg : g.method = m) (hsize : g.locals.size = c.maxLocals) (hlen : ∀ sig, parseMethodDescriptor y.desc = some sig → argsL.length = sig.parameters.length) (hstack : g.stack = argsL.reverse ++ rest) (hW : 2 * g.monitorRoom + (rest.map fun v => v.category).sum ≤ W)
    (hdg : decode c.code g.pc = .ok (.invokestatic index, 3)) (hc : cells + k ≤ R.cells) (hs : slots + n ≤ R.slots) :
    ∃ v T' L, AfterS p l e R s m args below meth c Z EL own vm0 h T' (locs ++ L) (cells + k) (slots + n) ∧ Qc v T'.heap L ∧ Steps p.tables e below (T.setTop g) (T'.setTop { g with pc := g.pc + 3, stack := v.toList ++ rest }) := by
  obtain ⟨v, vm1, ⟨T', L', k', n'⟩, -, X', h2, gr, ⟨L, hQ, rfl, rfl, rfl, hC⟩, st⟩ := callSS X hx hown (mvT hZ w1) (mvT hZ w2) (mvT hZ w3) (mvT hZ w4) hyc hK hg hsize hlen hstack hW hdg (fun _ _ => ⟨rfl, eT, hc, hs⟩)
  obtain ⟨b1, b2, b3, b4⟩ := rebS hS (eT ▸ hk) X' h2 gr hZ hown
  exact ⟨v, T', L, ⟨b1, b2, b3, b4, hC⟩, hQ, st⟩
end Calls
section Arrays
variable {p : Program} {l : Launch} {e : Env} {R : Room} {s : State} {m : MethodId} {args : Array Value} {below : List Frame} {meth : Method} {c : Code} {T : State} {locs : List Loc} {cells slots : Nat} {Z : State} {a0 : Array Value} {h : Heap} {g : JFrame} {rest : List Value} {a : Addr} {k : ClassId} {ty : FieldType} {z j x x' : Int32} {i : Nat} {vs : List Value} {d v : Value}
theorem newArr (X : Stand p l e R s m args below meth c T locs cells slots) (hx : p.tables.exec = Jvm.exec) (hZ : Z.Warmed39 s.vm) {aty : ArrayType} (w : (Jvm.Cond.arrayClass (newarray.typeOf aty)).before a0 Z = true) (eT : T.heap = h) (hg : g.method = m) (hd : decode c.code g.pc = .ok (.newarray aty, 2)) {n : Int32} (hs : g.stack = .int n :: rest)
    (hn : ¬ n < 0) {q : Nat} (hq : n.toNatClampNeg = q) (hb : q * 8 ≤ 536870912) (hc : cells + 1 ≤ R.cells) (hl : slots + q ≤ R.slots) :
    ∃ T' h' cA, Stand p l e R s m args below meth c T' locs (cells + 1) (slots + q) ∧ T'.heap = h' ∧ Ext h h' ∧ Arv Z h' h.size cA (newarray.typeOf aty) n (List.replicate q (defaultValue (newarray.typeOf aty))) (defaultValue (newarray.typeOf aty)) ∧
      ∀ target, Steps p.tables e below (T'.setTop { g with pc := g.pc + 2, stack := .ref h.size :: rest }) target → Steps p.tables e below (T.setTop g) target := by
  obtain ⟨T', h', cA, X', e', E', A', st⟩ := newP X hx hZ w eT hg hd hs hn (cap := q) (Nat.le_of_eq hq) hb hc hl
  exact ⟨T', h', cA, X', e', E', (Arv.new A' hn).pad (fun i => by have := pad_rep [] (defaultValue (newarray.typeOf aty)) q i; simpa using this), st⟩
theorem setC (X : Stand p l e R s m args below meth c T locs cells slots) (hx : p.tables.exec = Jvm.exec) (hZ : Z.Warmed39 s.vm) (eT : T.heap = h) (A : Arv Z h a k .char z vs d) (hj : j.toNatClampNeg = i) (h0 : ¬ j < 0) (hjz : j < z) (hi : i < vs.length) (hn : nar .char x = x') (hg : g.method = m) (hs : g.stack = .int x :: .int j :: .ref a :: rest) (hd : decode c.code g.pc = .ok (.castore, 1)) :
    ∃ T' h', Stand p l e R s m args below meth c T' (locs ++ [⟨a, i⟩]) cells slots ∧ T'.heap = h' ∧ Wr h h' a i (.int x') ∧ Arv Z h' a k .char z (vs.set i (.int x')) d ∧ ∀ target, Steps p.tables e below (T'.setTop { g with pc := g.pc + 1, stack := rest }) target → Steps p.tables e below (T.setTop g) target := by
  subst hj hn
  obtain ⟨cl, A1, A2, A3, A4, A5, A6⟩ := A
  obtain ⟨T', h', X', e', W', st⟩ := stC X hx hZ eT A1 (inb_of A3 ⟨h0, hjz⟩) hg hs hd
  exact ⟨T', h', X', e', W', Arv.set A1 A2 A3 A4 A5 A6 (fits_nar_char x) W' _ rfl hi, st⟩
theorem setB (X : Stand p l e R s m args below meth c T locs cells slots) (hx : p.tables.exec = Jvm.exec) (hZ : Z.Warmed39 s.vm) (eT : T.heap = h) (A : Arv Z h a k .byte z vs d) (hj : j.toNatClampNeg = i) (h0 : ¬ j < 0) (hjz : j < z) (hi : i < vs.length) (hn : nar .byte x = x') (hg : g.method = m) (hs : g.stack = .int x :: .int j :: .ref a :: rest) (hd : decode c.code g.pc = .ok (.bastore, 1)) :
    ∃ T' h', Stand p l e R s m args below meth c T' (locs ++ [⟨a, i⟩]) cells slots ∧ T'.heap = h' ∧ Wr h h' a i (.int x') ∧ Arv Z h' a k .byte z (vs.set i (.int x')) d ∧ ∀ target, Steps p.tables e below (T'.setTop { g with pc := g.pc + 1, stack := rest }) target → Steps p.tables e below (T.setTop g) target := by
  subst hj hn
  obtain ⟨cl, A1, A2, A3, A4, A5, A6⟩ := A
  obtain ⟨T', h', X', e', W', st⟩ := stB X hx hZ eT A1 (inb_of A3 ⟨h0, hjz⟩) hg hs hd
  exact ⟨T', h', X', e', W', Arv.set A1 A2 A3 A4 A5 A6 (fits_nar_byte x) W' _ rfl hi, st⟩
theorem setI (X : Stand p l e R s m args below meth c T locs cells slots) (hx : p.tables.exec = Jvm.exec) (hZ : Z.Warmed39 s.vm) (eT : T.heap = h) (A : Arv Z h a k .int z vs d) (hj : j.toNatClampNeg = i) (h0 : ¬ j < 0) (hjz : j < z) (hi : i < vs.length) (hg : g.method = m) (hs : g.stack = .int x :: .int j :: .ref a :: rest) (hd : decode c.code g.pc = .ok (.iastore, 1)) :
    ∃ T' h', Stand p l e R s m args below meth c T' (locs ++ [⟨a, i⟩]) cells slots ∧ T'.heap = h' ∧ Wr h h' a i (.int x) ∧ Arv Z h' a k .int z (vs.set i (.int x)) d ∧ ∀ target, Steps p.tables e below (T'.setTop { g with pc := g.pc + 1, stack := rest }) target → Steps p.tables e below (T.setTop g) target := by
  subst hj
  obtain ⟨cl, A1, A2, A3, A4, A5, A6⟩ := A
  obtain ⟨T', h', X', e', W', st⟩ := stI X hx hZ eT A1 (inb_of A3 ⟨h0, hjz⟩) hg hs hd
  exact ⟨T', h', X', e', W', Arv.set A1 A2 A3 A4 A5 A6 rfl W' _ rfl hi, st⟩
theorem setR (X : Stand p l e R s m args below meth c T locs cells slots) (hx : p.tables.exec = Jvm.exec) (hZ : Z.Warmed39 s.vm) (eT : T.heap = h) (A : Arv Z h a k ty z vs d) (hty : ty.isReference = true) (F : Sto Z h a v) (hfit : fits ty v = true) (hj : j.toNatClampNeg = i) (h0 : ¬ j < 0) (hjz : j < z) (hi : i < vs.length) (hg : g.method = m) (hs : g.stack = v :: .int j :: .ref a :: rest) (hd : decode c.code g.pc = .ok (.aastore, 1)) :
    ∃ T' h', Stand p l e R s m args below meth c T' (locs ++ [⟨a, i⟩]) cells slots ∧ T'.heap = h' ∧ Wr h h' a i v ∧ Arv Z h' a k ty z (vs.set i v) d ∧ ∀ target, Steps p.tables e below (T'.setTop { g with pc := g.pc + 1, stack := rest }) target → Steps p.tables e below (T.setTop g) target := by
  subst hj
  obtain ⟨cl, A1, A2, A3, A4, A5, A6⟩ := A
  obtain ⟨T', h', X', e', W', st⟩ := stR X hx hZ eT A1 (inb_of A3 ⟨h0, hjz⟩) hty F hg hs hd
  exact ⟨T', h', X', e', W', Arv.set A1 A2 A3 A4 A5 A6 hfit W' _ rfl hi, st⟩
theorem ldC (X : Stand p l e R s m args below meth c T locs cells slots) (hx : p.tables.exec = Jvm.exec) (hZ : Z.Warmed39 s.vm) (eT : T.heap = h) (A : Arv Z h a k .char z vs d) (hj : j.toNatClampNeg = i) (h0 : ¬ j < 0) (hjz : j < z) (hv : vs.getD i d = v) (hg : g.method = m) (hs : g.stack = .int j :: .ref a :: rest) (hd : decode c.code g.pc = .ok (.caload, 1)) :
    ∀ target, Steps p.tables e below (T.setTop { g with pc := g.pc + 1, stack := v :: rest }) target → Steps p.tables e below (T.setTop g) target := by
  subst hj hv
  obtain ⟨cl, A1, A2, A3, A4, A5, A6⟩ := A
  exact X.caload hx (by rw [eT]; exact A1.1) (State.isArrayOf_alike hZ.alike A1.2.1) A1.2.2 (inb_of A3 ⟨h0, hjz⟩) (A5.at (inb_of A3 ⟨h0, hjz⟩) rfl) hg hs hd
theorem ldB (X : Stand p l e R s m args below meth c T locs cells slots) (hx : p.tables.exec = Jvm.exec) (hZ : Z.Warmed39 s.vm) (eT : T.heap = h) (A : Arv Z h a k .byte z vs d) (hj : j.toNatClampNeg = i) (h0 : ¬ j < 0) (hjz : j < z) (hv : vs.getD i d = v) (hg : g.method = m) (hs : g.stack = .int j :: .ref a :: rest) (hd : decode c.code g.pc = .ok (.baload, 1)) :
    ∀ target, Steps p.tables e below (T.setTop { g with pc := g.pc + 1, stack := v :: rest }) target → Steps p.tables e below (T.setTop g) target := by
  subst hj hv
  obtain ⟨cl, A1, A2, A3, A4, A5, A6⟩ := A
  exact X.baloadBytes hx (by rw [eT]; exact A1.1) (State.isArrayOf_alike hZ.alike A1.2.1) A1.2.2 (inb_of A3 ⟨h0, hjz⟩) (A5.at (inb_of A3 ⟨h0, hjz⟩) rfl) hg hs hd
theorem ldI (X : Stand p l e R s m args below meth c T locs cells slots) (hx : p.tables.exec = Jvm.exec) (hZ : Z.Warmed39 s.vm) (eT : T.heap = h) (A : Arv Z h a k .int z vs d) (hj : j.toNatClampNeg = i) (h0 : ¬ j < 0) (hjz : j < z) (hv : vs.getD i d = v) (hg : g.method = m) (hs : g.stack = .int j :: .ref a :: rest) (hd : decode c.code g.pc = .ok (.iaload, 1)) :
    ∀ target, Steps p.tables e below (T.setTop { g with pc := g.pc + 1, stack := v :: rest }) target → Steps p.tables e below (T.setTop g) target := by
  subst hj hv
  obtain ⟨cl, A1, A2, A3, A4, A5, A6⟩ := A
  exact X.iaload hx (by rw [eT]; exact A1.1) (State.isArrayOf_alike hZ.alike A1.2.1) A1.2.2 (inb_of A3 ⟨h0, hjz⟩) (A5.at (inb_of A3 ⟨h0, hjz⟩) rfl) hg hs hd
theorem ldR (X : Stand p l e R s m args below meth c T locs cells slots) (hx : p.tables.exec = Jvm.exec) (hZ : Z.Warmed39 s.vm) (eT : T.heap = h) (A : Arv Z h a k ty z vs d) (hty : ty.isReference = true) (hj : j.toNatClampNeg = i) (h0 : ¬ j < 0) (hjz : j < z) (hv : vs.getD i d = v) (hg : g.method = m) (hs : g.stack = .int j :: .ref a :: rest) (hd : decode c.code g.pc = .ok (.aaload, 1)) :
    ∀ target, Steps p.tables e below (T.setTop { g with pc := g.pc + 1, stack := v :: rest }) target → Steps p.tables e below (T.setTop g) target := by
  subst hj hv
  obtain ⟨cl, A1, A2, A3, A4, A5, A6⟩ := A
  exact X.aaload hx (by rw [eT]; exact A1.1) (State.isArrayOf_alike hZ.alike A1.2.1) hty A1.2.2 (inb_of A3 ⟨h0, hjz⟩) (A5.at (inb_of A3 ⟨h0, hjz⟩) rfl) hg hs hd
theorem alen (X : Stand p l e R s m args below meth c T locs cells slots) (hx : p.tables.exec = Jvm.exec) (hZ : Z.Warmed39 s.vm) (eT : T.heap = h) (A : Arv Z h a k ty z vs d) (hg : g.method = m) (hs : g.stack = .ref a :: rest) (hd : decode c.code g.pc = .ok (.arraylength, 1)) :
    ∀ target, Steps p.tables e below (T.setTop { g with pc := g.pc + 1, stack := .int z :: rest }) target → Steps p.tables e below (T.setTop g) target := fun t ht => by
  obtain ⟨cl, A1, A2, A3, A4, A5, A6⟩ := A
  refine X.arraylength hx (by rw [eT]; exact A1.1) (State.isArrayOf_alike hZ.alike A1.2.1) hg hs hd t ?_
  rw [len_of A3 A4]; exact ht
end Arrays
end Jvm.OwnKit
namespace Jvm.OwnKit
open Jvm Jvm.ClassFile Sem Op Lib Jvm.Free Jvm.Stand Jvm.LawKit Jvm.RoadKit Bundle
section Steps1
variable {p : Program} {l : Launch} {e : Env} {R : Room} {s : State} {m : MethodId} {args : Array Value} {below : List Frame} {meth : Method} {c : Code} {T : State} {locs : List Loc} {cells slots : Nat} {Z : State} {a0 : Array Value} {EL : List (String × Nat)} {h : Heap} {Q : Outcome → State → Prop} {pc q : Nat} {Ls Ls' : Array Slot} {st : List Value} {x y z : Int32} {jx jy jz : Int64} {a : Addr} {v w : Value} {k : Nat} {k4 : Fin 4} {i : Nat} {vs : List Value} {d : Value} {ty : FieldType} {kc : ClassId} {own C O f dd : String} {index : Nat}
theorem aL (X : Stand p l e R s m args below meth c T locs cells slots) (hx : p.tables.exec = Jvm.exec) (hd : decode c.code pc = .ok (.aload_n k4, 1)) (hq : pc + 1 = q) (hl : Ls[k4.val]? = some (.val v)) (hv : v.isRef = true) (kk : Go p.tables e below Q (T.setTop (mkF m q Ls (v :: st)))) : Go p.tables e below Q (T.setTop (mkF m pc Ls st)) := by
  subst hq; exact Go.st (XS.aloadN X.here hx rfl hd hl hv) kk
theorem aLw (X : Stand p l e R s m args below meth c T locs cells slots) (hx : p.tables.exec = Jvm.exec) (hd : decode c.code pc = .ok (.aload k, 2)) (hq : pc + 2 = q) (hl : Ls[k]? = some (.val v)) (hv : v.isRef = true) (kk : Go p.tables e below Q (T.setTop (mkF m q Ls (v :: st)))) : Go p.tables e below Q (T.setTop (mkF m pc Ls st)) := by
  subst hq; exact Go.st (XS.aload X.here hx rfl hd hl hv) kk
theorem iL (X : Stand p l e R s m args below meth c T locs cells slots) (hx : p.tables.exec = Jvm.exec) (hd : decode c.code pc = .ok (.iload_n k4, 1)) (hq : pc + 1 = q) (hl : Ls[k4.val]? = some (.val (.int x))) (kk : Go p.tables e below Q (T.setTop (mkF m q Ls (.int x :: st)))) : Go p.tables e below Q (T.setTop (mkF m pc Ls st)) := by
  subst hq; exact Go.st (XS.iloadN X.here hx rfl hd hl) kk
theorem iLw (X : Stand p l e R s m args below meth c T locs cells slots) (hx : p.tables.exec = Jvm.exec) (hd : decode c.code pc = .ok (.iload k, 2)) (hq : pc + 2 = q) (hl : Ls[k]? = some (.val (.int x))) (kk : Go p.tables e below Q (T.setTop (mkF m q Ls (.int x :: st)))) : Go p.tables e below Q (T.setTop (mkF m pc Ls st)) := by
  subst hq; exact Go.st (XS.iload X.here hx rfl hd hl) kk
theorem lL (X : Stand p l e R s m args below meth c T locs cells slots) (hx : p.tables.exec = Jvm.exec) (hd : decode c.code pc = .ok (.lload_n k4, 1)) (hq : pc + 1 = q) (hl : Ls[k4.val]? = some (.val (.long jx))) (kk : Go p.tables e below Q (T.setTop (mkF m q Ls (.long jx :: st)))) : Go p.tables e below Q (T.setTop (mkF m pc Ls st)) := by
  subst hq; exact Go.st (XS.lloadN X.here hx rfl hd hl) kk
theorem lLw (X : Stand p l e R s m args below meth c T locs cells slots) (hx : p.tables.exec = Jvm.exec) (hd : decode c.code pc = .ok (.lload k, 2)) (hq : pc + 2 = q) (hl : Ls[k]? = some (.val (.long jx))) (kk : Go p.tables e below Q (T.setTop (mkF m q Ls (.long jx :: st)))) : Go p.tables e below Q (T.setTop (mkF m pc Ls st)) := by
  subst hq; exact Go.st (XS.lload X.here hx rfl hd hl) kk
theorem sI (X : Stand p l e R s m args below meth c T locs cells slots) (hx : p.tables.exec = Jvm.exec) (hd : decode c.code pc = .ok (.istore_n k4, 1)) (hq : pc + 1 = q) (hl : storeLocals Ls k4.val (.int x) = some Ls') (kk : Go p.tables e below Q (T.setTop (mkF m q Ls' st))) : Go p.tables e below Q (T.setTop (mkF m pc Ls (.int x :: st))) := by
  subst hq; exact Go.st (XS.istoreN X.here hx rfl hd rfl hl) kk
theorem sIw (X : Stand p l e R s m args below meth c T locs cells slots) (hx : p.tables.exec = Jvm.exec) (hd : decode c.code pc = .ok (.istore k, 2)) (hq : pc + 2 = q) (hl : storeLocals Ls k (.int x) = some Ls') (kk : Go p.tables e below Q (T.setTop (mkF m q Ls' st))) : Go p.tables e below Q (T.setTop (mkF m pc Ls (.int x :: st))) := by
  subst hq; exact Go.st (XS.istore X.here hx rfl hd rfl hl) kk
theorem sL (X : Stand p l e R s m args below meth c T locs cells slots) (hx : p.tables.exec = Jvm.exec) (hd : decode c.code pc = .ok (.lstore_n k4, 1)) (hq : pc + 1 = q) (hl : storeLocals Ls k4.val (.long jx) = some Ls') (kk : Go p.tables e below Q (T.setTop (mkF m q Ls' st))) : Go p.tables e below Q (T.setTop (mkF m pc Ls (.long jx :: st))) := by
  subst hq; exact Go.st (XS.lstoreN X.here hx rfl hd rfl hl) kk
theorem sLw (X : Stand p l e R s m args below meth c T locs cells slots) (hx : p.tables.exec = Jvm.exec) (hd : decode c.code pc = .ok (.lstore k, 2)) (hq : pc + 2 = q) (hl : storeLocals Ls k (.long jx) = some Ls') (kk : Go p.tables e below Q (T.setTop (mkF m q Ls' st))) : Go p.tables e below Q (T.setTop (mkF m pc Ls (.long jx :: st))) := by
  subst hq; exact Go.st (XS.lstore X.here hx rfl hd rfl hl) kk
theorem sA (X : Stand p l e R s m args below meth c T locs cells slots) (hx : p.tables.exec = Jvm.exec) (hd : decode c.code pc = .ok (.astore_n k4, 1)) (hq : pc + 1 = q) (hv : v.isRef = true) (hl : storeLocals Ls k4.val v = some Ls') (kk : Go p.tables e below Q (T.setTop (mkF m q Ls' st))) : Go p.tables e below Q (T.setTop (mkF m pc Ls (v :: st))) := by
  subst hq; exact Go.st (XS.astoreN X.here hx rfl hd rfl hv hl) kk
theorem sAw (X : Stand p l e R s m args below meth c T locs cells slots) (hx : p.tables.exec = Jvm.exec) (hd : decode c.code pc = .ok (.astore k, 2)) (hq : pc + 2 = q) (hv : v.isRef = true) (hl : storeLocals Ls k v = some Ls') (kk : Go p.tables e below Q (T.setTop (mkF m q Ls' st))) : Go p.tables e below Q (T.setTop (mkF m pc Ls (v :: st))) := by
  subst hq; exact Go.st (XS.astore X.here hx rfl hd rfl hv hl) kk
theorem cI (X : Stand p l e R s m args below meth c T locs cells slots) (hx : p.tables.exec = Jvm.exec) {j : Int} (hd : decode c.code pc = .ok (.iconst j, 1)) (hq : pc + 1 = q) (hz : Int32.ofInt j = z) (kk : Go p.tables e below Q (T.setTop (mkF m q Ls (.int z :: st)))) : Go p.tables e below Q (T.setTop (mkF m pc Ls st)) := by
  subst hq hz; exact Go.st (XS.iconst X.here hx rfl hd) kk
theorem bI (X : Stand p l e R s m args below meth c T locs cells slots) (hx : p.tables.exec = Jvm.exec) {j : Int} (hd : decode c.code pc = .ok (.bipush j, 2)) (hq : pc + 2 = q) (hz : (Int8.ofInt j).toInt32 = z) (kk : Go p.tables e below Q (T.setTop (mkF m q Ls (.int z :: st)))) : Go p.tables e below Q (T.setTop (mkF m pc Ls st)) := by
  subst hq hz; exact Go.st (XS.bipush X.here hx rfl hd) kk
theorem pI (X : Stand p l e R s m args below meth c T locs cells slots) (hx : p.tables.exec = Jvm.exec) {j : Int} (hd : decode c.code pc = .ok (.sipush j, 3)) (hq : pc + 3 = q) (hz : (Int16.ofInt j).toInt32 = z) (kk : Go p.tables e below Q (T.setTop (mkF m q Ls (.int z :: st)))) : Go p.tables e below Q (T.setTop (mkF m pc Ls st)) := by
  subst hq hz; exact Go.st (XS.sipush X.here hx rfl hd) kk
theorem cJ (X : Stand p l e R s m args below meth c T locs cells slots) (hx : p.tables.exec = Jvm.exec) {j2 : Fin 2} (hd : decode c.code pc = .ok (.lconst j2, 1)) (hq : pc + 1 = q) (hz : Int64.ofNat j2 = jz) (kk : Go p.tables e below Q (T.setTop (mkF m q Ls (.long jz :: st)))) : Go p.tables e below Q (T.setTop (mkF m pc Ls st)) := by
  subst hq hz; exact Go.st (XS.lconst X.here hx rfl hd) kk
theorem cN (X : Stand p l e R s m args below meth c T locs cells slots) (hx : p.tables.exec = Jvm.exec) (hd : decode c.code pc = .ok (.aconst_null, 1)) (hq : pc + 1 = q) (kk : Go p.tables e below Q (T.setTop (mkF m q Ls (.null :: st)))) : Go p.tables e below Q (T.setTop (mkF m pc Ls st)) := by
  subst hq; exact Go.st (XS.aconstNull X.here hx rfl hd) kk
theorem g_iadd (X : Stand p l e R s m args below meth c T locs cells slots) (hx : p.tables.exec = Jvm.exec) (hd : decode c.code pc = .ok (.iadd, 1)) (hq : pc + 1 = q) (hz : x + y = z) (kk : Go p.tables e below Q (T.setTop (mkF m q Ls (.int z :: st)))) : Go p.tables e below Q (T.setTop (mkF m pc Ls (.int y :: .int x :: st))) := by
  subst hq hz; exact Go.st (XS.iadd X.here hx rfl hd rfl) kk
theorem g_isub (X : Stand p l e R s m args below meth c T locs cells slots) (hx : p.tables.exec = Jvm.exec) (hd : decode c.code pc = .ok (.isub, 1)) (hq : pc + 1 = q) (hz : x - y = z) (kk : Go p.tables e below Q (T.setTop (mkF m q Ls (.int z :: st)))) : Go p.tables e below Q (T.setTop (mkF m pc Ls (.int y :: .int x :: st))) := by
  subst hq hz; exact Go.st (XS.isub X.here hx rfl hd rfl) kk
theorem g_imul (X : Stand p l e R s m args below meth c T locs cells slots) (hx : p.tables.exec = Jvm.exec) (hd : decode c.code pc = .ok (.imul, 1)) (hq : pc + 1 = q) (hz : x * y = z) (kk : Go p.tables e below Q (T.setTop (mkF m q Ls (.int z :: st)))) : Go p.tables e below Q (T.setTop (mkF m pc Ls (.int y :: .int x :: st))) := by
  subst hq hz; exact Go.st (XS.imul X.here hx rfl hd rfl) kk
theorem g_iand (X : Stand p l e R s m args below meth c T locs cells slots) (hx : p.tables.exec = Jvm.exec) (hd : decode c.code pc = .ok (.iand, 1)) (hq : pc + 1 = q) (hz : x &&& y = z) (kk : Go p.tables e below Q (T.setTop (mkF m q Ls (.int z :: st)))) : Go p.tables e below Q (T.setTop (mkF m pc Ls (.int y :: .int x :: st))) := by
  subst hq hz; exact Go.st (XS.iand X.here hx rfl hd rfl) kk
theorem g_ior (X : Stand p l e R s m args below meth c T locs cells slots) (hx : p.tables.exec = Jvm.exec) (hd : decode c.code pc = .ok (.ior, 1)) (hq : pc + 1 = q) (hz : x ||| y = z) (kk : Go p.tables e below Q (T.setTop (mkF m q Ls (.int z :: st)))) : Go p.tables e below Q (T.setTop (mkF m pc Ls (.int y :: .int x :: st))) := by
  subst hq hz; exact Go.st (XS.ior X.here hx rfl hd rfl) kk
theorem g_ixor (X : Stand p l e R s m args below meth c T locs cells slots) (hx : p.tables.exec = Jvm.exec) (hd : decode c.code pc = .ok (.ixor, 1)) (hq : pc + 1 = q) (hz : x ^^^ y = z) (kk : Go p.tables e below Q (T.setTop (mkF m q Ls (.int z :: st)))) : Go p.tables e below Q (T.setTop (mkF m pc Ls (.int y :: .int x :: st))) := by
  subst hq hz; exact Go.st (XS.ixor X.here hx rfl hd rfl) kk
theorem g_ishl (X : Stand p l e R s m args below meth c T locs cells slots) (hx : p.tables.exec = Jvm.exec) (hd : decode c.code pc = .ok (.ishl, 1)) (hq : pc + 1 = q) (hz : x <<< (y &&& 31) = z) (kk : Go p.tables e below Q (T.setTop (mkF m q Ls (.int z :: st)))) : Go p.tables e below Q (T.setTop (mkF m pc Ls (.int y :: .int x :: st))) := by
  subst hq hz; exact Go.st (XS.ishl X.here hx rfl hd rfl) kk
theorem g_ishr (X : Stand p l e R s m args below meth c T locs cells slots) (hx : p.tables.exec = Jvm.exec) (hd : decode c.code pc = .ok (.ishr, 1)) (hq : pc + 1 = q) (hz : x >>> (y &&& 31) = z) (kk : Go p.tables e below Q (T.setTop (mkF m q Ls (.int z :: st)))) : Go p.tables e below Q (T.setTop (mkF m pc Ls (.int y :: .int x :: st))) := by
  subst hq hz; exact Go.st (XS.ishr X.here hx rfl hd rfl) kk
theorem g_iushr (X : Stand p l e R s m args below meth c T locs cells slots) (hx : p.tables.exec = Jvm.exec) (hd : decode c.code pc = .ok (.iushr, 1)) (hq : pc + 1 = q) (hz : (x.toUInt32 >>> (y &&& 31).toUInt32).toInt32 = z) (kk : Go p.tables e below Q (T.setTop (mkF m q Ls (.int z :: st)))) : Go p.tables e below Q (T.setTop (mkF m pc Ls (.int y :: .int x :: st))) := by
  subst hq hz; exact Go.st (XS.iushr X.here hx rfl hd rfl) kk
theorem g_irem (X : Stand p l e R s m args below meth c T locs cells slots) (hx : p.tables.exec = Jvm.exec) (hd : decode c.code pc = .ok (.irem, 1)) (hq : pc + 1 = q) (hy : y ≠ 0) (hz : x % y = z) (kk : Go p.tables e below Q (T.setTop (mkF m q Ls (.int z :: st)))) : Go p.tables e below Q (T.setTop (mkF m pc Ls (.int y :: .int x :: st))) := by
  subst hq hz; exact Go.st (iremM X hx rfl hd rfl hy) kk
theorem g_idiv (X : Stand p l e R s m args below meth c T locs cells slots) (hx : p.tables.exec = Jvm.exec) (hd : decode c.code pc = .ok (.idiv, 1)) (hq : pc + 1 = q) (hy : y ≠ 0) (hz : x / y = z) (kk : Go p.tables e below Q (T.setTop (mkF m q Ls (.int z :: st)))) : Go p.tables e below Q (T.setTop (mkF m pc Ls (.int y :: .int x :: st))) := by
  subst hq hz; exact Go.st (XS.idiv X.here hx rfl hd rfl hy) kk
theorem g_ladd (X : Stand p l e R s m args below meth c T locs cells slots) (hx : p.tables.exec = Jvm.exec) (hd : decode c.code pc = .ok (.ladd, 1)) (hq : pc + 1 = q) (hz : jx + jy = jz) (kk : Go p.tables e below Q (T.setTop (mkF m q Ls (.long jz :: st)))) : Go p.tables e below Q (T.setTop (mkF m pc Ls (.long jy :: .long jx :: st))) := by
  subst hq hz; exact Go.st (XS.ladd X.here hx rfl hd rfl) kk
theorem g_lsub (X : Stand p l e R s m args below meth c T locs cells slots) (hx : p.tables.exec = Jvm.exec) (hd : decode c.code pc = .ok (.lsub, 1)) (hq : pc + 1 = q) (hz : jx - jy = jz) (kk : Go p.tables e below Q (T.setTop (mkF m q Ls (.long jz :: st)))) : Go p.tables e below Q (T.setTop (mkF m pc Ls (.long jy :: .long jx :: st))) := by
  subst hq hz; exact Go.st (XS.lsub X.here hx rfl hd rfl) kk
theorem g_lmul (X : Stand p l e R s m args below meth c T locs cells slots) (hx : p.tables.exec = Jvm.exec) (hd : decode c.code pc = .ok (.lmul, 1)) (hq : pc + 1 = q) (hz : jx * jy = jz) (kk : Go p.tables e below Q (T.setTop (mkF m q Ls (.long jz :: st)))) : Go p.tables e below Q (T.setTop (mkF m pc Ls (.long jy :: .long jx :: st))) := by
  subst hq hz; exact Go.st (XS.lmul X.here hx rfl hd rfl) kk
theorem g_land (X : Stand p l e R s m args below meth c T locs cells slots) (hx : p.tables.exec = Jvm.exec) (hd : decode c.code pc = .ok (.land, 1)) (hq : pc + 1 = q) (hz : jx &&& jy = jz) (kk : Go p.tables e below Q (T.setTop (mkF m q Ls (.long jz :: st)))) : Go p.tables e below Q (T.setTop (mkF m pc Ls (.long jy :: .long jx :: st))) := by
  subst hq hz; exact Go.st (XS.land X.here hx rfl hd rfl) kk
theorem g_lor (X : Stand p l e R s m args below meth c T locs cells slots) (hx : p.tables.exec = Jvm.exec) (hd : decode c.code pc = .ok (.lor, 1)) (hq : pc + 1 = q) (hz : jx ||| jy = jz) (kk : Go p.tables e below Q (T.setTop (mkF m q Ls (.long jz :: st)))) : Go p.tables e below Q (T.setTop (mkF m pc Ls (.long jy :: .long jx :: st))) := by
  subst hq hz; exact Go.st (XS.lor X.here hx rfl hd rfl) kk
theorem g_lxor (X : Stand p l e R s m args below meth c T locs cells slots) (hx : p.tables.exec = Jvm.exec) (hd : decode c.code pc = .ok (.lxor, 1)) (hq : pc + 1 = q) (hz : jx ^^^ jy = jz) (kk : Go p.tables e below Q (T.setTop (mkF m q Ls (.long jz :: st)))) : Go p.tables e below Q (T.setTop (mkF m pc Ls (.long jy :: .long jx :: st))) := by
  subst hq hz; exact Go.st (XS.lxor X.here hx rfl hd rfl) kk
theorem g_ldiv (X : Stand p l e R s m args below meth c T locs cells slots) (hx : p.tables.exec = Jvm.exec) (hd : decode c.code pc = .ok (.ldiv, 1)) (hq : pc + 1 = q) (hy : jy ≠ 0) (hz : jx / jy = jz) (kk : Go p.tables e below Q (T.setTop (mkF m q Ls (.long jz :: st)))) : Go p.tables e below Q (T.setTop (mkF m pc Ls (.long jy :: .long jx :: st))) := by
  subst hq hz; exact Go.st (XS.ldiv X.here hx rfl hd rfl hy) kk
theorem g_lrem (X : Stand p l e R s m args below meth c T locs cells slots) (hx : p.tables.exec = Jvm.exec) (hd : decode c.code pc = .ok (.lrem, 1)) (hq : pc + 1 = q) (hy : jy ≠ 0) (hz : jx - (jx / jy) * jy = jz) (kk : Go p.tables e below Q (T.setTop (mkF m q Ls (.long jz :: st)))) : Go p.tables e below Q (T.setTop (mkF m pc Ls (.long jy :: .long jx :: st))) := by
  subst hq hz; exact Go.st (XS.lrem X.here hx rfl hd rfl hy) kk
theorem g_lshl (X : Stand p l e R s m args below meth c T locs cells slots) (hx : p.tables.exec = Jvm.exec) (hd : decode c.code pc = .ok (.lshl, 1)) (hq : pc + 1 = q) (hz : jx <<< (y &&& 0x3f).toInt64 = jz) (kk : Go p.tables e below Q (T.setTop (mkF m q Ls (.long jz :: st)))) : Go p.tables e below Q (T.setTop (mkF m pc Ls (.int y :: .long jx :: st))) := by
  subst hq hz; exact Go.st (XS.lshl X.here hx rfl hd rfl) kk
theorem g_lshr (X : Stand p l e R s m args below meth c T locs cells slots) (hx : p.tables.exec = Jvm.exec) (hd : decode c.code pc = .ok (.lshr, 1)) (hq : pc + 1 = q) (hz : jx >>> (y &&& 0x3f).toInt64 = jz) (kk : Go p.tables e below Q (T.setTop (mkF m q Ls (.long jz :: st)))) : Go p.tables e below Q (T.setTop (mkF m pc Ls (.int y :: .long jx :: st))) := by
  subst hq hz; exact Go.st (XS.lshr X.here hx rfl hd rfl) kk
theorem g_lushr (X : Stand p l e R s m args below meth c T locs cells slots) (hx : p.tables.exec = Jvm.exec) (hd : decode c.code pc = .ok (.lushr, 1)) (hq : pc + 1 = q) (hz : (jx.toUInt64 >>> (y &&& 0x3f).toInt64.toUInt64).toInt64 = jz) (kk : Go p.tables e below Q (T.setTop (mkF m q Ls (.long jz :: st)))) : Go p.tables e below Q (T.setTop (mkF m pc Ls (.int y :: .long jx :: st))) := by
  subst hq hz; exact Go.st (XS.lushr X.here hx rfl hd rfl) kk
theorem g_lcmp (X : Stand p l e R s m args below meth c T locs cells slots) (hx : p.tables.exec = Jvm.exec) (hd : decode c.code pc = .ok (.lcmp, 1)) (hq : pc + 1 = q) (hz : lcmpW jx jy = z) (kk : Go p.tables e below Q (T.setTop (mkF m q Ls (.int z :: st)))) : Go p.tables e below Q (T.setTop (mkF m pc Ls (.long jy :: .long jx :: st))) := by
  subst hq hz; exact Go.st (XS.lcmp X.here hx rfl hd rfl) kk
theorem g_ineg (X : Stand p l e R s m args below meth c T locs cells slots) (hx : p.tables.exec = Jvm.exec) (hd : decode c.code pc = .ok (.ineg, 1)) (hq : pc + 1 = q) (hz : -x = z) (kk : Go p.tables e below Q (T.setTop (mkF m q Ls (.int z :: st)))) : Go p.tables e below Q (T.setTop (mkF m pc Ls (.int x :: st))) := by
  subst hq hz; exact Go.st (XS.ineg X.here hx rfl hd rfl) kk
theorem g_i2b (X : Stand p l e R s m args below meth c T locs cells slots) (hx : p.tables.exec = Jvm.exec) (hd : decode c.code pc = .ok (.i2b, 1)) (hq : pc + 1 = q) (hz : x.toInt8.toInt32 = z) (kk : Go p.tables e below Q (T.setTop (mkF m q Ls (.int z :: st)))) : Go p.tables e below Q (T.setTop (mkF m pc Ls (.int x :: st))) := by
  subst hq hz; exact Go.st (XS.i2b X.here hx rfl hd rfl) kk
theorem g_i2c (X : Stand p l e R s m args below meth c T locs cells slots) (hx : p.tables.exec = Jvm.exec) (hd : decode c.code pc = .ok (.i2c, 1)) (hq : pc + 1 = q) (hz : x.toUInt32.toUInt16.toUInt32.toInt32 = z) (kk : Go p.tables e below Q (T.setTop (mkF m q Ls (.int z :: st)))) : Go p.tables e below Q (T.setTop (mkF m pc Ls (.int x :: st))) := by
  subst hq hz; exact Go.st (XS.i2c X.here hx rfl hd rfl) kk
theorem g_i2s (X : Stand p l e R s m args below meth c T locs cells slots) (hx : p.tables.exec = Jvm.exec) (hd : decode c.code pc = .ok (.i2s, 1)) (hq : pc + 1 = q) (hz : x.toInt16.toInt32 = z) (kk : Go p.tables e below Q (T.setTop (mkF m q Ls (.int z :: st)))) : Go p.tables e below Q (T.setTop (mkF m pc Ls (.int x :: st))) := by
  subst hq hz; exact Go.st (XS.i2s X.here hx rfl hd rfl) kk
theorem g_i2l (X : Stand p l e R s m args below meth c T locs cells slots) (hx : p.tables.exec = Jvm.exec) (hd : decode c.code pc = .ok (.i2l, 1)) (hq : pc + 1 = q) (hz : x.toInt64 = jz) (kk : Go p.tables e below Q (T.setTop (mkF m q Ls (.long jz :: st)))) : Go p.tables e below Q (T.setTop (mkF m pc Ls (.int x :: st))) := by
  subst hq hz; exact Go.st (XS.i2l X.here hx rfl hd rfl) kk
theorem g_l2i (X : Stand p l e R s m args below meth c T locs cells slots) (hx : p.tables.exec = Jvm.exec) (hd : decode c.code pc = .ok (.l2i, 1)) (hq : pc + 1 = q) (hz : jx.toInt32 = z) (kk : Go p.tables e below Q (T.setTop (mkF m q Ls (.int z :: st)))) : Go p.tables e below Q (T.setTop (mkF m pc Ls (.long jx :: st))) := by
  subst hq hz; exact Go.st (XS.l2i X.here hx rfl hd rfl) kk
theorem g_lneg (X : Stand p l e R s m args below meth c T locs cells slots) (hx : p.tables.exec = Jvm.exec) (hd : decode c.code pc = .ok (.lneg, 1)) (hq : pc + 1 = q) (hz : -jx = jz) (kk : Go p.tables e below Q (T.setTop (mkF m q Ls (.long jz :: st)))) : Go p.tables e below Q (T.setTop (mkF m pc Ls (.long jx :: st))) := by
  subst hq hz; exact Go.st (XS.lneg X.here hx rfl hd rfl) kk
theorem g_iinc (X : Stand p l e R s m args below meth c T locs cells slots) (hx : p.tables.exec = Jvm.exec) {j : Int} (hd : decode c.code pc = .ok (.iinc k j, 3)) (hq : pc + 3 = q) (hl : Ls[k]? = some (.val (.int x))) (hz : x + Int32.ofInt j = z) (hl2 : storeLocals Ls k (.int z) = some Ls') (kk : Go p.tables e below Q (T.setTop (mkF m q Ls' st))) : Go p.tables e below Q (T.setTop (mkF m pc Ls st)) := by
  subst hq hz; exact Go.st (XS.iinc X.here hx rfl hd hl hl2) kk
theorem g_dup (X : Stand p l e R s m args below meth c T locs cells slots) (hx : p.tables.exec = Jvm.exec) (hd : decode c.code pc = .ok (.dup, 1)) (hq : pc + 1 = q) (hc : v.category = 1) (kk : Go p.tables e below Q (T.setTop (mkF m q Ls (v :: v :: st)))) : Go p.tables e below Q (T.setTop (mkF m pc Ls (v :: st))) := by
  subst hq; exact Go.st (XS.dup X.here hx rfl hd rfl hc) kk
theorem g_dupX1 (X : Stand p l e R s m args below meth c T locs cells slots) (hx : p.tables.exec = Jvm.exec) (hd : decode c.code pc = .ok (.dup_x1, 1)) (hq : pc + 1 = q) (hc : v.category = 1) (hc2 : w.category = 1) (kk : Go p.tables e below Q (T.setTop (mkF m q Ls (v :: w :: v :: st)))) : Go p.tables e below Q (T.setTop (mkF m pc Ls (v :: w :: st))) := by
  subst hq; exact Go.st (XS.dupX1 X.here hx rfl hd rfl hc hc2) kk
theorem g_dup2 (X : Stand p l e R s m args below meth c T locs cells slots) (hx : p.tables.exec = Jvm.exec) (hd : decode c.code pc = .ok (.dup2, 1)) (hq : pc + 1 = q) (hc : v.category = 1) (hc2 : w.category = 1) (kk : Go p.tables e below Q (T.setTop (mkF m q Ls (v :: w :: v :: w :: st)))) : Go p.tables e below Q (T.setTop (mkF m pc Ls (v :: w :: st))) := by
  subst hq; exact Go.st (Jvm.Free.XT.dup2 X.here hx rfl hd rfl hc hc2) kk
theorem g_dup2L (X : Stand p l e R s m args below meth c T locs cells slots) (hx : p.tables.exec = Jvm.exec) (hd : decode c.code pc = .ok (.dup2, 1)) (hq : pc + 1 = q) (kk : Go p.tables e below Q (T.setTop (mkF m q Ls (.long jx :: .long jx :: st)))) : Go p.tables e below Q (T.setTop (mkF m pc Ls (.long jx :: st))) := by
  subst hq; exact Go.st (Jvm.Free.XT.dup2L X.here hx rfl hd rfl) kk
theorem g_pop (X : Stand p l e R s m args below meth c T locs cells slots) (hx : p.tables.exec = Jvm.exec) (hd : decode c.code pc = .ok (.pop, 1)) (hq : pc + 1 = q) (hc : v.category = 1) (kk : Go p.tables e below Q (T.setTop (mkF m q Ls st))) : Go p.tables e below Q (T.setTop (mkF m pc Ls (v :: st))) := by
  subst hq; exact Go.st (XS.pop X.here hx rfl hd rfl hc) kk
theorem g_goto (X : Stand p l e R s m args below meth c T locs cells slots) (hx : p.tables.exec = Jvm.exec) {j : Int} (hd : decode c.code pc = .ok (.goto j, 3)) (ho : 0 ≤ (pc : Int) + j) (hp : ((pc : Int) + j).toNat = q) (kk : Go p.tables e below Q (T.setTop (mkF m q Ls st))) : Go p.tables e below Q (T.setTop (mkF m pc Ls st)) := by
  exact Go.st (XS.goto X.here hx rfl rfl hd ho hp) kk
theorem ifY (X : Stand p l e R s m args below meth c T locs cells slots) (hx : p.tables.exec = Jvm.exec) {j : Int} {cd : ClassFile.Cond} (hd : decode c.code pc = .ok (.ifCond cd j, 3)) (ho : 0 ≤ (pc : Int) + j) (hp : ((pc : Int) + j).toNat = q) (hc : ifCond.holds cd x = true) (kk : Go p.tables e below Q (T.setTop (mkF m q Ls st))) : Go p.tables e below Q (T.setTop (mkF m pc Ls (.int x :: st))) := by
  exact Go.st (XS.ifYes X.here hx rfl rfl hd rfl hc ho hp) kk
theorem ifN (X : Stand p l e R s m args below meth c T locs cells slots) (hx : p.tables.exec = Jvm.exec) {j : Int} {cd : ClassFile.Cond} (hd : decode c.code pc = .ok (.ifCond cd j, 3)) (hq : pc + 3 = q) (hc : ifCond.holds cd x = false) (kk : Go p.tables e below Q (T.setTop (mkF m q Ls st))) : Go p.tables e below Q (T.setTop (mkF m pc Ls (.int x :: st))) := by
  subst hq; exact Go.st (XS.ifNo X.here hx rfl hd rfl hc) kk
theorem icY (X : Stand p l e R s m args below meth c T locs cells slots) (hx : p.tables.exec = Jvm.exec) {j : Int} {cd : ClassFile.Cond} (hd : decode c.code pc = .ok (.if_icmp cd j, 3)) (ho : 0 ≤ (pc : Int) + j) (hp : ((pc : Int) + j).toNat = q) (hc : if_icmp.holds cd x y = true) (kk : Go p.tables e below Q (T.setTop (mkF m q Ls st))) : Go p.tables e below Q (T.setTop (mkF m pc Ls (.int y :: .int x :: st))) := by
  exact Go.st (XS.icmpYes X.here hx rfl rfl hd rfl hc ho hp) kk
theorem icN (X : Stand p l e R s m args below meth c T locs cells slots) (hx : p.tables.exec = Jvm.exec) {j : Int} {cd : ClassFile.Cond} (hd : decode c.code pc = .ok (.if_icmp cd j, 3)) (hq : pc + 3 = q) (hc : if_icmp.holds cd x y = false) (kk : Go p.tables e below Q (T.setTop (mkF m q Ls st))) : Go p.tables e below Q (T.setTop (mkF m pc Ls (.int y :: .int x :: st))) := by
  subst hq; exact Go.st (XS.icmpNo X.here hx rfl hd rfl hc) kk
theorem nlY (X : Stand p l e R s m args below meth c T locs cells slots) (hx : p.tables.exec = Jvm.exec) {j : Int} (hd : decode c.code pc = .ok (.ifnull j, 3)) (ho : 0 ≤ (pc : Int) + j) (hp : ((pc : Int) + j).toNat = q) (kk : Go p.tables e below Q (T.setTop (mkF m q Ls st))) : Go p.tables e below Q (T.setTop (mkF m pc Ls (.null :: st))) := by
  exact Go.st (XS.ifnullYes X.here hx rfl rfl hd rfl ho hp) kk
theorem nlN (X : Stand p l e R s m args below meth c T locs cells slots) (hx : p.tables.exec = Jvm.exec) {j : Int} (hd : decode c.code pc = .ok (.ifnull j, 3)) (hq : pc + 3 = q) (kk : Go p.tables e below Q (T.setTop (mkF m q Ls st))) : Go p.tables e below Q (T.setTop (mkF m pc Ls (.ref a :: st))) := by
  subst hq; exact Go.st (XS.ifnullNo X.here hx rfl hd rfl) kk
theorem nnY (X : Stand p l e R s m args below meth c T locs cells slots) (hx : p.tables.exec = Jvm.exec) {j : Int} (hd : decode c.code pc = .ok (.ifnonnull j, 3)) (ho : 0 ≤ (pc : Int) + j) (hp : ((pc : Int) + j).toNat = q) (kk : Go p.tables e below Q (T.setTop (mkF m q Ls st))) : Go p.tables e below Q (T.setTop (mkF m pc Ls (.ref a :: st))) := by
  exact Go.st (XS.ifnonnullYes X.here hx rfl rfl hd rfl ho hp) kk
theorem nnN (X : Stand p l e R s m args below meth c T locs cells slots) (hx : p.tables.exec = Jvm.exec) {j : Int} (hd : decode c.code pc = .ok (.ifnonnull j, 3)) (hq : pc + 3 = q) (kk : Go p.tables e below Q (T.setTop (mkF m q Ls st))) : Go p.tables e below Q (T.setTop (mkF m pc Ls (.null :: st))) := by
  subst hq; exact Go.st (XS.ifnonnullNo X.here hx rfl hd rfl) kk
theorem g_acmp (X : Stand p l e R s m args below meth c T locs cells slots) (hx : p.tables.exec = Jvm.exec) {j : Int} {cd : ACond} (hd : decode c.code pc = .ok (.if_acmp cd j, 3)) (h1 : v.isRef = true) (h2 : w.isRef = true) {same : Bool} (hs : decide (v = w) = same) (ho : 0 ≤ (pc : Int) + j) (hp : q = if acV cd same = true then ((pc : Int) + j).toNat else pc + 3) (kk : Go p.tables e below Q (T.setTop (mkF m q Ls st))) : Go p.tables e below Q (T.setTop (mkF m pc Ls (w :: v :: st))) := by
  exact Go.st (acmp X hx rfl h1 h2 rfl hd rfl hs ho hp) kk
theorem g_new (X : Stand p l e R s m args below meth c T locs cells slots) (hx : p.tables.exec = Jvm.exec) (hZ : Z.Warmed39 s.vm) (hown : s.vm.findClass own = some m.cls) (w1 : (Jvm.Cond.classLink own index C).before a0 Z = true) (w2 : (Jvm.Cond.instantiable C k).before a0 Z = true) (w3 : (Jvm.Cond.initialized C).before a0 Z = true) (hc : cells + 1 ≤ R.cells) (hl : slots + k ≤ R.slots) (eT : T.heap = h) (hd : decode c.code pc = .ok (.new index, 3)) (hq : pc + 3 = q) (kk : ∀ (T' : State) (h' : Heap) (b : Addr), b = h.size → Stand p l e R s m args below meth c T' locs (cells + 1) (slots + k) → T'.heap = h' → Ext h h' → Exa Z h' b C → (∀ {O nm d : String} {ty : FieldType}, Laid Z a0 C O nm d → parseFieldDescriptor d = some ty → Fld Z h' b O nm d (defaultValue ty)) → Go p.tables e below Q (T'.setTop (mkF m q Ls (.ref b :: st)))) : Go p.tables e below Q (T.setTop (mkF m pc Ls st)) := by
  subst hq
  obtain ⟨T', h', X', e', E', A', D', -, st'⟩ := newO X hx hZ hown w1 w2 w3 eT (g := mkF m pc Ls st) rfl hd hc hl
  exact Go.to st' (kk T' h' _ rfl X' e' E' A' D')
theorem g_newA (X : Stand p l e R s m args below meth c T locs cells slots) (hx : p.tables.exec = Jvm.exec) (hZ : Z.Warmed39 s.vm) {aty : ArrayType} (w1 : (Jvm.Cond.arrayClass (newarray.typeOf aty)).before a0 Z = true) (hn : ¬ z < 0) {n : Nat} (hk : z.toNatClampNeg = n) (hb : n * 8 ≤ 536870912) (hc : cells + 1 ≤ R.cells) (hl : slots + n ≤ R.slots) (eT : T.heap = h) (hd : decode c.code pc = .ok (.newarray aty, 2)) (hq : pc + 2 = q) (kk : ∀ (T' : State) (h' : Heap) (kc : ClassId) (b : Addr), b = h.size → Stand p l e R s m args below meth c T' locs (cells + 1) (slots + n) → T'.heap = h' → Ext h h' → Arv Z h' b kc (newarray.typeOf aty) z (List.replicate n (defaultValue (newarray.typeOf aty))) (defaultValue (newarray.typeOf aty)) → Go p.tables e below Q (T'.setTop (mkF m q Ls (.ref b :: st)))) : Go p.tables e below Q (T.setTop (mkF m pc Ls (.int z :: st))) := by
  subst hq
  obtain ⟨T', h', kc, X', e', E', V', st'⟩ := newArr X hx hZ w1 eT (g := mkF m pc Ls (.int z :: st)) rfl hd rfl hn hk hb hc hl
  exact Go.to st' (kk T' h' kc _ rfl X' e' E' V')
theorem g_stC (X : Stand p l e R s m args below meth c T locs cells slots) (hx : p.tables.exec = Jvm.exec) (hZ : Z.Warmed39 s.vm) (A : Arv Z h a kc .char z vs d) {j : Int32} (hj : j.toNatClampNeg = i) (h0 : ¬ j < 0) (hjz : j < z) (hi : i < vs.length) (hn : nar .char x = y) (eT : T.heap = h) (hd : decode c.code pc = .ok (.castore, 1)) (hq : pc + 1 = q) (kk : ∀ (T' : State) (h' : Heap), Stand p l e R s m args below meth c T' (locs ++ [⟨a, i⟩]) cells slots → T'.heap = h' → Wr h h' a i (.int y) → Arv Z h' a kc .char z (vs.set i (.int y)) d → Go p.tables e below Q (T'.setTop (mkF m q Ls st))) : Go p.tables e below Q (T.setTop (mkF m pc Ls (.int x :: .int j :: .ref a :: st))) := by
  subst hq
  obtain ⟨T', h', X', e', W', V', st'⟩ := setC X hx hZ eT A hj h0 hjz hi hn (g := mkF m pc Ls (.int x :: .int j :: .ref a :: st)) rfl rfl hd
  exact Go.to st' (kk T' h' X' e' W' V')
theorem g_stB (X : Stand p l e R s m args below meth c T locs cells slots) (hx : p.tables.exec = Jvm.exec) (hZ : Z.Warmed39 s.vm) (A : Arv Z h a kc .byte z vs d) {j : Int32} (hj : j.toNatClampNeg = i) (h0 : ¬ j < 0) (hjz : j < z) (hi : i < vs.length) (hn : nar .byte x = y) (eT : T.heap = h) (hd : decode c.code pc = .ok (.bastore, 1)) (hq : pc + 1 = q) (kk : ∀ (T' : State) (h' : Heap), Stand p l e R s m args below meth c T' (locs ++ [⟨a, i⟩]) cells slots → T'.heap = h' → Wr h h' a i (.int y) → Arv Z h' a kc .byte z (vs.set i (.int y)) d → Go p.tables e below Q (T'.setTop (mkF m q Ls st))) : Go p.tables e below Q (T.setTop (mkF m pc Ls (.int x :: .int j :: .ref a :: st))) := by
  subst hq
  obtain ⟨T', h', X', e', W', V', st'⟩ := setB X hx hZ eT A hj h0 hjz hi hn (g := mkF m pc Ls (.int x :: .int j :: .ref a :: st)) rfl rfl hd
  exact Go.to st' (kk T' h' X' e' W' V')
theorem g_stI (X : Stand p l e R s m args below meth c T locs cells slots) (hx : p.tables.exec = Jvm.exec) (hZ : Z.Warmed39 s.vm) (A : Arv Z h a kc .int z vs d) {j : Int32} (hj : j.toNatClampNeg = i) (h0 : ¬ j < 0) (hjz : j < z) (hi : i < vs.length) (eT : T.heap = h) (hd : decode c.code pc = .ok (.iastore, 1)) (hq : pc + 1 = q) (kk : ∀ (T' : State) (h' : Heap), Stand p l e R s m args below meth c T' (locs ++ [⟨a, i⟩]) cells slots → T'.heap = h' → Wr h h' a i (.int x) → Arv Z h' a kc .int z (vs.set i (.int x)) d → Go p.tables e below Q (T'.setTop (mkF m q Ls st))) : Go p.tables e below Q (T.setTop (mkF m pc Ls (.int x :: .int j :: .ref a :: st))) := by
  subst hq
  obtain ⟨T', h', X', e', W', V', st'⟩ := setI X hx hZ eT A hj h0 hjz hi  (g := mkF m pc Ls (.int x :: .int j :: .ref a :: st)) rfl rfl hd
  exact Go.to st' (kk T' h' X' e' W' V')
theorem g_stR (X : Stand p l e R s m args below meth c T locs cells slots) (hx : p.tables.exec = Jvm.exec) (hZ : Z.Warmed39 s.vm) (A : Arv Z h a kc ty z vs d) (hty : ty.isReference = true) (F : Sto Z h a v) (hfit : fits ty v = true) {j : Int32} (hj : j.toNatClampNeg = i) (h0 : ¬ j < 0) (hjz : j < z) (hi : i < vs.length) (eT : T.heap = h) (hd : decode c.code pc = .ok (.aastore, 1)) (hq : pc + 1 = q) (kk : ∀ (T' : State) (h' : Heap), Stand p l e R s m args below meth c T' (locs ++ [⟨a, i⟩]) cells slots → T'.heap = h' → Wr h h' a i v → Arv Z h' a kc ty z (vs.set i v) d → Go p.tables e below Q (T'.setTop (mkF m q Ls st))) : Go p.tables e below Q (T.setTop (mkF m pc Ls (v :: .int j :: .ref a :: st))) := by
  subst hq
  obtain ⟨T', h', X', e', W', V', st'⟩ := setR X hx hZ eT A hty F hfit hj h0 hjz hi (g := mkF m pc Ls (v :: .int j :: .ref a :: st)) rfl rfl hd
  exact Go.to st' (kk T' h' X' e' W' V')
theorem g_ldC (X : Stand p l e R s m args below meth c T locs cells slots) (hx : p.tables.exec = Jvm.exec) (hZ : Z.Warmed39 s.vm) (A : Arv Z h a kc .char z vs d) {j : Int32} (hj : j.toNatClampNeg = i) (h0 : ¬ j < 0) (hjz : j < z) (hv : vs.getD i d = v) (eT : T.heap = h) (hd : decode c.code pc = .ok (.caload, 1)) (hq : pc + 1 = q) (kk : Go p.tables e below Q (T.setTop (mkF m q Ls (v :: st)))) : Go p.tables e below Q (T.setTop (mkF m pc Ls (.int j :: .ref a :: st))) := by
  subst hq
  exact Go.to (ldC X hx hZ eT A hj h0 hjz hv (g := mkF m pc Ls (.int j :: .ref a :: st)) rfl rfl hd) kk
theorem g_ldB (X : Stand p l e R s m args below meth c T locs cells slots) (hx : p.tables.exec = Jvm.exec) (hZ : Z.Warmed39 s.vm) (A : Arv Z h a kc .byte z vs d) {j : Int32} (hj : j.toNatClampNeg = i) (h0 : ¬ j < 0) (hjz : j < z) (hv : vs.getD i d = v) (eT : T.heap = h) (hd : decode c.code pc = .ok (.baload, 1)) (hq : pc + 1 = q) (kk : Go p.tables e below Q (T.setTop (mkF m q Ls (v :: st)))) : Go p.tables e below Q (T.setTop (mkF m pc Ls (.int j :: .ref a :: st))) := by
  subst hq
  exact Go.to (ldB X hx hZ eT A hj h0 hjz hv (g := mkF m pc Ls (.int j :: .ref a :: st)) rfl rfl hd) kk
theorem g_ldI (X : Stand p l e R s m args below meth c T locs cells slots) (hx : p.tables.exec = Jvm.exec) (hZ : Z.Warmed39 s.vm) (A : Arv Z h a kc .int z vs d) {j : Int32} (hj : j.toNatClampNeg = i) (h0 : ¬ j < 0) (hjz : j < z) (hv : vs.getD i d = v) (eT : T.heap = h) (hd : decode c.code pc = .ok (.iaload, 1)) (hq : pc + 1 = q) (kk : Go p.tables e below Q (T.setTop (mkF m q Ls (v :: st)))) : Go p.tables e below Q (T.setTop (mkF m pc Ls (.int j :: .ref a :: st))) := by
  subst hq
  exact Go.to (ldI X hx hZ eT A hj h0 hjz hv (g := mkF m pc Ls (.int j :: .ref a :: st)) rfl rfl hd) kk
theorem g_ldR (X : Stand p l e R s m args below meth c T locs cells slots) (hx : p.tables.exec = Jvm.exec) (hZ : Z.Warmed39 s.vm) (A : Arv Z h a kc ty z vs d) (hty : ty.isReference = true) {j : Int32} (hj : j.toNatClampNeg = i) (h0 : ¬ j < 0) (hjz : j < z) (hv : vs.getD i d = v) (eT : T.heap = h) (hd : decode c.code pc = .ok (.aaload, 1)) (hq : pc + 1 = q) (kk : Go p.tables e below Q (T.setTop (mkF m q Ls (v :: st)))) : Go p.tables e below Q (T.setTop (mkF m pc Ls (.int j :: .ref a :: st))) := by
  subst hq
  exact Go.to (ldR X hx hZ eT A hty hj h0 hjz hv (g := mkF m pc Ls (.int j :: .ref a :: st)) rfl rfl hd) kk
theorem g_len (X : Stand p l e R s m args below meth c T locs cells slots) (hx : p.tables.exec = Jvm.exec) (hZ : Z.Warmed39 s.vm) (A : Arv Z h a kc ty z vs d) (eT : T.heap = h) (hd : decode c.code pc = .ok (.arraylength, 1)) (hq : pc + 1 = q) (kk : Go p.tables e below Q (T.setTop (mkF m q Ls (.int z :: st)))) : Go p.tables e below Q (T.setTop (mkF m pc Ls (.ref a :: st))) := by
  subst hq
  exact Go.to (alen X hx hZ eT A (g := mkF m pc Ls (.ref a :: st)) rfl rfl hd) kk
theorem g_getF (X : Stand p l e R s m args below meth c T locs cells slots) (hx : p.tables.exec = Jvm.exec) (hZ : Z.Warmed39 s.vm) (hown : s.vm.findClass own = some m.cls) {R0 host : String} (wl : (Jvm.Cond.fieldLink own index R0 f dd).before a0 Z = true ∨ (Jvm.Cond.fieldLinkNest own index R0 f dd host).before a0 Z = true) (via : Via Z R0 O f dd) (F : Fld Z h a O f dd v) (eT : T.heap = h) (hd : decode c.code pc = .ok (.getfield index, 3)) (hq : pc + 3 = q) (kk : ∀ (T' : State), Stand p l e R s m args below meth c T' locs cells slots → T'.heap = h → Go p.tables e below Q (T'.setTop (mkF m q Ls (v :: st)))) : Go p.tables e below Q (T.setTop (mkF m pc Ls (.ref a :: st))) := by
  subst hq
  obtain ⟨T', X', e', st'⟩ := getF X hx hZ hown wl via eT F (g := mkF m pc Ls (.ref a :: st)) rfl rfl hd
  exact Go.to st' (kk T' X' e')
theorem g_putF (X : Stand p l e R s m args below meth c T locs cells slots) (hx : p.tables.exec = Jvm.exec) (hZ : Z.Warmed39 s.vm) (hown : s.vm.findClass own = some m.cls) {R0 host : String} {kk2 : Nat} (wl : (Jvm.Cond.fieldLink own index R0 f dd).before a0 Z = true ∨ (Jvm.Cond.fieldLinkNest own index R0 f dd host).before a0 Z = true) (via : Via Z R0 O f dd) {old : Value} (F : Fld Z h a O f dd old) (E : Exa Z h a C) (L : (Jvm.Cond.lays C O f dd).before a0 Z = true ∨ ((Jvm.Cond.laysFinal C O f dd).before a0 Z = true ∧ own = O ∧ meth.name = "<init>")) (wi : (Jvm.Cond.instantiable C kk2).before a0 Z = true) (hty : parseFieldDescriptor dd = some ty) (hn : narrow ty v = v) (hf : fits ty v = true) (eT : T.heap = h) (hd : decode c.code pc = .ok (.putfield index, 3)) (hq : pc + 3 = q) (kk : ∀ (T' : State) (h' : Heap), Stand p l e R s m args below meth c T' (locs ++ [⟨a, Jvm.RoadKit.slotOf Z O f dd⟩]) cells slots → T'.heap = h' → Wr h h' a (Jvm.RoadKit.slotOf Z O f dd) v → Go p.tables e below Q (T'.setTop (mkF m q Ls st))) : Go p.tables e below Q (T.setTop (mkF m pc Ls (v :: .ref a :: st))) := by
  subst hq
  obtain ⟨T', h', X', e', W', st'⟩ := putF X hx hZ hown wl via eT F E L wi hty hn hf (g := mkF m pc Ls (v :: .ref a :: st)) rfl rfl hd
  exact Go.to st' (kk T' h' X' e' W')
theorem g_getS (X : Stand p l e R s m args below meth c T locs cells slots) (hx : p.tables.exec = Jvm.exec) (hZ : Z.Warmed39 s.vm) (hown : s.vm.findClass own = some m.cls) {R0 host : String} (wl : (Jvm.Cond.fieldLink own index R0 f dd).before a0 Z = true ∨ (Jvm.Cond.fieldLinkNest own index R0 f dd host).before a0 Z = true) (via : Via Z R0 O f dd) (F : Sta Z h O f dd v) (eT : T.heap = h) (hd : decode c.code pc = .ok (.getstatic index, 3)) (hq : pc + 3 = q) (kk : ∀ (T' : State), Stand p l e R s m args below meth c T' locs cells slots → T'.heap = h → Go p.tables e below Q (T'.setTop (mkF m q Ls (v :: st)))) : Go p.tables e below Q (T.setTop (mkF m pc Ls st)) := by
  subst hq
  obtain ⟨T', X', e', st'⟩ := getS2 X hx hZ hown wl via eT F (g := mkF m pc Ls st) rfl hd
  exact Go.to st' (kk T' X' e')
theorem g_cast (X : Stand p l e R s m args below meth c T locs cells slots) (hx : p.tables.exec = Jvm.exec) (hZ : Z.Warmed39 s.vm) (hown : s.vm.findClass own = some m.cls) {K : String} (w1 : (Jvm.Cond.classLink own index K).before a0 Z = true) (I : Ins Z h a K true) (eT : T.heap = h) (hd : decode c.code pc = .ok (.checkcast index, 3)) (hq : pc + 3 = q) (kk : ∀ (T' : State), Stand p l e R s m args below meth c T' locs cells slots → T'.heap = h → Go p.tables e below Q (T'.setTop (mkF m q Ls (.ref a :: st)))) : Go p.tables e below Q (T.setTop (mkF m pc Ls (.ref a :: st))) := by
  subst hq
  obtain ⟨T', X', e', st'⟩ := castY X hx hZ hown w1 eT I (g := mkF m pc Ls (.ref a :: st)) rfl rfl hd
  exact Go.to st' (kk T' X' e')
theorem g_insY (X : Stand p l e R s m args below meth c T locs cells slots) (hx : p.tables.exec = Jvm.exec) (hZ : Z.Warmed39 s.vm) (hown : s.vm.findClass own = some m.cls) {K : String} (w1 : (Jvm.Cond.classLink own index K).before a0 Z = true) (I : Ins Z h a K true) (eT : T.heap = h) (hd : decode c.code pc = .ok (.instanceof index, 3)) (hq : pc + 3 = q) (kk : ∀ (T' : State), Stand p l e R s m args below meth c T' locs cells slots → T'.heap = h → Go p.tables e below Q (T'.setTop (mkF m q Ls (.int 1 :: st)))) : Go p.tables e below Q (T.setTop (mkF m pc Ls (.ref a :: st))) := by
  subst hq
  obtain ⟨T', X', e', st'⟩ := instY X hx hZ hown w1 eT I (g := mkF m pc Ls (.ref a :: st)) rfl rfl hd
  exact Go.to st' (kk T' X' e')
theorem g_insN (X : Stand p l e R s m args below meth c T locs cells slots) (hx : p.tables.exec = Jvm.exec) (hZ : Z.Warmed39 s.vm) (hown : s.vm.findClass own = some m.cls) {K : String} (w1 : (Jvm.Cond.classLink own index K).before a0 Z = true) (E : Exa Z h a C) (F : ∃ c t, Z.vm.findClass C = some c ∧ Z.vm.findClass K = some t ∧ Z.vm.assignable c t = false) (eT : T.heap = h) (hd : decode c.code pc = .ok (.instanceof index, 3)) (hq : pc + 3 = q) (kk : ∀ (T' : State), Stand p l e R s m args below meth c T' locs cells slots → T'.heap = h → Go p.tables e below Q (T'.setTop (mkF m q Ls (.int 0 :: st)))) : Go p.tables e below Q (T.setTop (mkF m pc Ls (.ref a :: st))) := by
  subst hq
  obtain ⟨T', X', e', st'⟩ := instNo X hx hZ hown w1 eT E F (g := mkF m pc Ls (.ref a :: st)) rfl rfl hd
  exact Go.to st' (kk T' X' e')
theorem g_init0 (X : Stand p l e R s m args below meth c T locs cells slots) (hx : p.tables.exec = Jvm.exec) (hZ : Z.Warmed39 s.vm) (hown : s.vm.findClass own = some m.cls) (w1 : (Jvm.Cond.methodLink own index Lib.objectInit).before a0 Z = true) (w2 : (Jvm.Cond.instanceMethod Lib.objectInit).before a0 Z = true) (w3 : (Jvm.Cond.code Lib.objectInit ⟨#[0xb1]⟩ 1 none).before a0 Z = true) (hsize : Ls.size = c.maxLocals) (hf : 1 ≤ R.frames) {W : Nat} (hW : (st.map fun v => v.category).sum ≤ W) (hl : W + 12 ≤ R.locals) (eT : T.heap = h) (hd : decode c.code pc = .ok (.invokespecial index, 3)) (hq : pc + 3 = q) (kk : ∀ (T' : State), Stand p l e R s m args below meth c T' locs cells slots → T'.heap = h → Go p.tables e below Q (T'.setTop (mkF m q Ls st))) : Go p.tables e below Q (T.setTop (mkF m pc Ls (.ref a :: st))) := by
  subst hq
  obtain ⟨T', X', e', st'⟩ := initO X hx hZ hown w1 w2 w3 eT (g := mkF m pc Ls (.ref a :: st)) rfl hsize rfl hd hf (W := W) (by show 2 * 0 + _ ≤ _; omega) hl
  exact Go.to st' (kk T' X' e')
theorem g_ldc {vm0 : Vm} (X : Stand p l e R (s.setVm vm0) m args below meth c T locs cells slots) (hx : p.tables.exec = Jvm.exec) (hZ : Z.Warmed39 vm0) (hown : vm0.findClass own = some m.cls) {text : String} (w : (Jvm.Cond.stringLink own index text).before a0 Z = true) (wS : ∀ a ∈ Bundle.stringAtoms, a.before a0 Z = true) {k0 : Nat} (hS : s.Since vm0 k0) (hk : k0 ≤ h.size) (hEL : EW Z a0 EL) (hmem : (own, index) ∈ EL) (H : CHv Z EL vm0 h) (ht : (∀ c ∈ text.toList, c.toNat < 256) ∧ text.toList.map (fun c => Value.int (Jvm.Lit.byteI c.toNat.toUInt16)) = vs) (hz : ¬ z < 0) (hl : z.toNatClampNeg = vs.length) {n : Nat} (hn : 4 * text.toList.length ≤ n) (hbig : n ≤ 536870912) (hc : cells + 2 ≤ R.cells) (hl' : slots + (n + 4) ≤ R.slots) (eT : T.heap = h) (hd : decode c.code pc = .ok (.ldc index, 2)) (hq : pc + 2 = q) (kk : ∀ (a : Addr) (T' : State) (h' : Heap) (k1 : Nat) (b : Addr) (k : ClassId), Stand p l e R (s.setVm T'.vm) m args below meth c T' locs (cells + 2) (slots + (n + 4)) → T'.heap = h' → Ext h h' → s.Since T'.vm k1 → k1 ≤ h'.size → Z.Warmed39 T'.vm → T'.vm.findClass own = some m.cls → Exa Z h' a "java/lang/String" → Fld Z h' a "java/lang/String" "coder" "B" (.int 0) → Fld Z h' a "java/lang/String" "value" "[B" (.ref b) → Arv Z h' b k .byte z vs (.int 0) → a < h'.size → b < h'.size → CHr Z EL vm0 h T'.vm h' → (∀ x, Safe Z EL T'.vm h' x → x ≠ a ∧ x ≠ b) → Go p.tables e below Q (T'.setTop (mkF m q Ls (.ref a :: st)))) : Go p.tables e below Q (T.setTop (mkF m pc Ls st)) := by
  subst hq
  obtain ⟨a, T', h', k1, b, k, X', e', E', S', hk', hZ', ho', A', F1, F2, V', l1, l2, R', -, sn, st'⟩ := ldcCH X hx hZ hown w wS eT hS hk hEL hmem H ht hz hl (g := mkF m pc Ls st) rfl hd hn hbig hc hl'
  exact Go.to st' (kk a T' h' k1 b k X' e' E' S' hk' hZ' ho' A' F1 F2 V' l1 l2 R' sn)
theorem g_ldcI (X : Stand p l e R s m args below meth c T locs cells slots) (hx : p.tables.exec = Jvm.exec) {a1 : Array Value} (hZ : Z.Warmed39 s.vm) (hown : s.vm.findClass own = some m.cls) (w : (Jvm.Cond.constant own index z).before a0 Z = true) (hd : decode c.code pc = .ok (.ldc index, 2)) (hq : pc + 2 = q) (kk : Go p.tables e below Q (T.setTop (mkF m q Ls (.int z :: st)))) : Go p.tables e below Q (T.setTop (mkF m pc Ls st)) := by
  subst hq; exact Go.to (X.ldcInt hx hown (mvT hZ w) (g := mkF m pc Ls st) rfl hd) kk
theorem g_sp {y : MethodName} {bytes : ByteArray} {maxL : Nat} {W nk ns : Nat} {argsL st0 : List Value} {Qc : Option Value → Heap → List Loc → Prop} (X : Stand p l e R s m args below meth c T locs cells slots) (hx : p.tables.exec = Jvm.exec) (hZ : Z.Warmed39 s.vm) (hown : s.vm.findClass own = some m.cls) (w1 : (Jvm.Cond.methodLink own index y).before a0 Z = true) (w2 : (Jvm.Cond.instanceMethod y).before a0 Z = true) (w3 : (Jvm.Cond.code y bytes maxL none).before a0 Z = true) (hy1 : y.name = "<init>") (hyc : y.cls ≠ "java/lang/invoke/MethodHandle" ∧ y.cls ≠ "java/lang/invoke/VarHandle") (eT : T.heap = h) (hK : BackQ l R p e below s args y 3 W ((.ref a :: argsL).toArray) h nk ns Qc) (hsize : Ls.size = c.maxLocals) (hlen : ∀ sig, parseMethodDescriptor y.desc = some sig → argsL.length = sig.parameters.length) (hst : st0 = argsL.reverse ++ .ref a :: st) (hW : (st.map fun v => v.category).sum ≤ W) (hd : decode c.code pc = .ok (.invokespecial index, 3)) (hq : pc + 3 = q) (hc : cells + nk ≤ R.cells) (hs : slots + ns ≤ R.slots) (kk : ∀ (v : Option Value) (T' : State) (L : List Loc), Stand p l e R s m args below meth c T' (locs ++ L) (cells + nk) (slots + ns) → Qc v T'.heap L → Go p.tables e below Q (T'.setTop (mkF m q Ls (v.toList ++ st)))) : Go p.tables e below Q (T.setTop (mkF m pc Ls st0)) := by
  subst hq
  obtain ⟨v, T', L, X', hQ, st'⟩ := callSp X hx hZ hown hy1 w1 w2 w3 hyc eT hK (g := mkF m pc Ls st0) rfl hsize hlen hst (by show 2 * 0 + _ ≤ _; omega) hd hc hs
  exact Go.run st' (kk v T' L X' hQ)
theorem g_st {y : MethodName} {bytes : ByteArray} {maxL : Nat} {ret : Option FieldType} {W nk ns : Nat} {argsL st0 : List Value} {Qc : Option Value → Heap → List Loc → Prop} (X : Stand p l e R s m args below meth c T locs cells slots) (hx : p.tables.exec = Jvm.exec) (hZ : Z.Warmed39 s.vm) (hown : s.vm.findClass own = some m.cls) (w1 : (Jvm.Cond.methodLink own index y).before a0 Z = true) (w2 : (Jvm.Cond.static y).before a0 Z = true) (w3 : (Jvm.Cond.initialized y.cls).before a0 Z = true) (w4 : (Jvm.Cond.code y bytes maxL ret).before a0 Z = true) (hyc : y.cls ≠ "java/lang/invoke/MethodHandle" ∧ y.cls ≠ "java/lang/invoke/VarHandle") (eT : T.heap = h) (hK : BackQ l R p e below s args y 3 W (argsL.toArray) h nk ns Qc) (hsize : Ls.size = c.maxLocals) (hlen : ∀ sig, parseMethodDescriptor y.desc = some sig → argsL.length = sig.parameters.length) (hst : st0 = argsL.reverse ++ st) (hW : (st.map fun v => v.category).sum ≤ W) (hd : decode c.code pc = .ok (.invokestatic index, 3)) (hq : pc + 3 = q) (hc : cells + nk ≤ R.cells) (hs : slots + ns ≤ R.slots) (kk : ∀ (v : Option Value) (T' : State) (L : List Loc), Stand p l e R s m args below meth c T' (locs ++ L) (cells + nk) (slots + ns) → Qc v T'.heap L → Go p.tables e below Q (T'.setTop (mkF m q Ls (v.toList ++ st)))) : Go p.tables e below Q (T.setTop (mkF m pc Ls st0)) := by
  subst hq
  obtain ⟨v, T', L, X', hQ, st'⟩ := callSt X hx hZ hown w1 w2 w3 w4 hyc eT hK (g := mkF m pc Ls st0) rfl hsize hlen hst (by show 2 * 0 + _ ≤ _; omega) hd hc hs
  exact Go.run st' (kk v T' L X' hQ)
theorem g_vi {y z : MethodName} {W nk ns : Nat} {argsL st0 : List Value} {Qc : Option Value → Heap → List Loc → Prop} (X : Stand p l e R s m args below meth c T locs cells slots) (hx : p.tables.exec = Jvm.exec) (hZ : Z.Warmed39 s.vm) (hown : s.vm.findClass own = some m.cls) (w1 : (Jvm.Cond.methodLink own index y).before a0 Z = true) (w2 : (Jvm.Cond.declares y).before a0 Z = true) (nf : NotFace s y) (w4 : (Jvm.Cond.selects C y z).before a0 Z = true) (w5 : (Jvm.Cond.instanceMethod z).before a0 Z = true) (hyc : y.cls ≠ "java/lang/invoke/MethodHandle" ∧ y.cls ≠ "java/lang/invoke/VarHandle") (E : Exa Z h a C) (eT : T.heap = h) (hK : BackQ l R p e below s args z 3 W ((.ref a :: argsL).toArray) h nk ns Qc) (hsize : Ls.size = c.maxLocals) (hlen : ∀ sig, parseMethodDescriptor y.desc = some sig → argsL.length = sig.parameters.length) (hst : st0 = argsL.reverse ++ .ref a :: st) (hW : (st.map fun v => v.category).sum ≤ W) (hd : decode c.code pc = .ok (.invokevirtual index, 3)) (hq : pc + 3 = q) (hc : cells + nk ≤ R.cells) (hs : slots + ns ≤ R.slots) (kk : ∀ (v : Option Value) (T' : State) (L : List Loc), Stand p l e R s m args below meth c T' (locs ++ L) (cells + nk) (slots + ns) → Qc v T'.heap L → Go p.tables e below Q (T'.setTop (mkF m q Ls (v.toList ++ st)))) : Go p.tables e below Q (T.setTop (mkF m pc Ls st0)) := by
  subst hq
  obtain ⟨v, T', L, X', hQ, st'⟩ := callVi X hx hZ hown w1 w2 nf w4 w5 hyc eT E hK (g := mkF m pc Ls st0) rfl hsize hlen hst (by show 2 * 0 + _ ≤ _; omega) hd hc hs
  exact Go.run st' (kk v T' L X' hQ)
theorem g_vu {y z : MethodName} {W nk ns : Nat} {argsL st0 : List Value} {Qc : Option Value → Heap → List Loc → Prop} (X : Stand p l e R s m args below meth c T locs cells slots) (hx : p.tables.exec = Jvm.exec) (hZ : Z.Warmed39 s.vm) (hown : s.vm.findClass own = some m.cls) {owner : String} (w1 : (Jvm.Cond.methodLink own index y).before a0 Z = true) (w2 : (Jvm.Cond.sameMethod y.cls owner y.name y.desc).before a0 Z = true) (w3 : (Jvm.Cond.declares ⟨owner, y.name, y.desc⟩).before a0 Z = true) (hyc : owner ≠ "java/lang/invoke/MethodHandle" ∧ owner ≠ "java/lang/invoke/VarHandle") (w4 : (Jvm.Cond.selects C y z).before a0 Z = true) (w5 : (Jvm.Cond.instanceMethod z).before a0 Z = true) (E : Exa Z h a C) (eT : T.heap = h) (hK : BackQ l R p e below s args z 3 W ((.ref a :: argsL).toArray) h nk ns Qc) (hsize : Ls.size = c.maxLocals) (hlen : ∀ sig, parseMethodDescriptor y.desc = some sig → argsL.length = sig.parameters.length) (hst : st0 = argsL.reverse ++ .ref a :: st) (hW : (st.map fun v => v.category).sum ≤ W) (hd : decode c.code pc = .ok (.invokevirtual index, 3)) (hq : pc + 3 = q) (hc : cells + nk ≤ R.cells) (hs : slots + ns ≤ R.slots) (kk : ∀ (v : Option Value) (T' : State) (L : List Loc), Stand p l e R s m args below meth c T' (locs ++ L) (cells + nk) (slots + ns) → Qc v T'.heap L → Go p.tables e below Q (T'.setTop (mkF m q Ls (v.toList ++ st)))) : Go p.tables e below Q (T.setTop (mkF m pc Ls st0)) := by
  subst hq
  obtain ⟨v, T', L, X', hQ, st'⟩ := callVu X hx hZ hown w1 w2 w3 hyc w4 w5 eT E hK (g := mkF m pc Ls st0) rfl hsize hlen hst (by show 2 * 0 + _ ≤ _; omega) hd hc hs
  exact Go.run st' (kk v T' L X' hQ)
theorem g_if {y z : MethodName} {W nk ns : Nat} {argsL st0 : List Value} {Qc : Option Value → Heap → List Loc → Prop} {count : Nat} (X : Stand p l e R s m args below meth c T locs cells slots) (hx : p.tables.exec = Jvm.exec) (hZ : Z.Warmed39 s.vm) (hown : s.vm.findClass own = some m.cls) (w1 : (Jvm.Cond.methodLink own index y).before a0 Z = true) (w2 : (Jvm.Cond.declares y).before a0 Z = true) (w3 : (Jvm.Cond.interfaceMethod y.cls y.cls y.name y.desc).before a0 Z = true) (h3 : ((Jvm.Cond.interfaceMethod y.cls y.cls y.name y.desc).onTables && (Jvm.Cond.interfaceMethod y.cls y.cls y.name y.desc).keepsFace) = true) (w4 : (Jvm.Cond.selects C y z).before a0 Z = true) (w5 : (Jvm.Cond.instanceMethod z).before a0 Z = true) (w6 : (Jvm.Cond.publicMethod z).before a0 Z = true) (w7 : (Jvm.Cond.unhidden C y.name y.desc).before a0 Z = true) (w8 : (Jvm.Cond.castable C y.cls).before a0 Z = true) (hyc : y.cls ≠ "java/lang/invoke/MethodHandle" ∧ y.cls ≠ "java/lang/invoke/VarHandle") (E : Exa Z h a C) (eT : T.heap = h) (hK : BackQ l R p e below s args z 5 W ((.ref a :: argsL).toArray) h nk ns Qc) (hsize : Ls.size = c.maxLocals) (hlen : ∀ sig, parseMethodDescriptor y.desc = some sig → argsL.length = sig.parameters.length) (hst : st0 = argsL.reverse ++ .ref a :: st) (hW : (st.map fun v => v.category).sum ≤ W) (hd : decode c.code pc = .ok (.invokeinterface index count, 5)) (hq : pc + 5 = q) (hc : cells + nk ≤ R.cells) (hs : slots + ns ≤ R.slots) (kk : ∀ (v : Option Value) (T' : State) (L : List Loc), Stand p l e R s m args below meth c T' (locs ++ L) (cells + nk) (slots + ns) → Qc v T'.heap L → Go p.tables e below Q (T'.setTop (mkF m q Ls (v.toList ++ st)))) : Go p.tables e below Q (T.setTop (mkF m pc Ls st0)) := by
  subst hq
  obtain ⟨v, T', L, X', hQ, st'⟩ := callIf X hx hZ hown w1 w2 w3 h3 w4 w5 w6 w7 w8 hyc eT E hK (g := mkF m pc Ls st0) rfl hsize hlen hst (by show 2 * 0 + _ ≤ _; omega) hd hc hs
  exact Go.run st' (kk v T' L X' hQ)
theorem g_spS {vm0 : Vm} {y : MethodName} {bytes : ByteArray} {maxL : Nat} {W nk ns : Nat} {argsL st0 : List Value} {Qc : Option Value → Heap → List Loc → Prop} (X : Stand p l e R (s.setVm vm0) m args below meth c T locs cells slots) (hx : p.tables.exec = Jvm.exec) (hZ : Z.Warmed39 vm0) (hown : vm0.findClass own = some m.cls) {n0 : Nat} (hS : s.Since vm0 n0) (hk : n0 ≤ h.size) (w1 : (Jvm.Cond.methodLink own index y).before a0 Z = true) (w2 : (Jvm.Cond.instanceMethod y).before a0 Z = true) (w3 : (Jvm.Cond.code y bytes maxL none).before a0 Z = true) (hy1 : y.name = "<init>") (hyc : y.cls ≠ "java/lang/invoke/MethodHandle" ∧ y.cls ≠ "java/lang/invoke/VarHandle") (eT : T.heap = h) (hK : BackSQ l R p e below s vm0 args y 3 W ((.ref a :: argsL).toArray) h nk ns Z EL Qc) (hsize : Ls.size = c.maxLocals) (hlen : ∀ sig, parseMethodDescriptor y.desc = some sig → argsL.length = sig.parameters.length) (hst : st0 = argsL.reverse ++ .ref a :: st) (hW : (st.map fun v => v.category).sum ≤ W) (hd : decode c.code pc = .ok (.invokespecial index, 3)) (hq : pc + 3 = q) (hc : cells + nk ≤ R.cells) (hs : slots + ns ≤ R.slots) (kk : ∀ (v : Option Value) (T' : State) (L : List Loc), AfterS p l e R s m args below meth c Z EL own vm0 h T' (locs ++ L) (cells + nk) (slots + ns) → Qc v T'.heap L → Go p.tables e below Q (T'.setTop (mkF m q Ls (v.toList ++ st)))) : Go p.tables e below Q (T.setTop (mkF m pc Ls st0)) := by
  subst hq
  obtain ⟨v, T', L, X', hQ, st'⟩ := callSpS X hx hZ hown hS hk hy1 w1 w2 w3 hyc eT hK (g := mkF m pc Ls st0) rfl hsize hlen hst (by show 2 * 0 + _ ≤ _; omega) hd hc hs
  exact Go.run st' (kk v T' L X' hQ)
theorem g_stS {vm0 : Vm} {y : MethodName} {bytes : ByteArray} {maxL : Nat} {ret : Option FieldType} {W nk ns : Nat} {argsL st0 : List Value} {Qc : Option Value → Heap → List Loc → Prop} (X : Stand p l e R (s.setVm vm0) m args below meth c T locs cells slots) (hx : p.tables.exec = Jvm.exec) (hZ : Z.Warmed39 vm0) (hown : vm0.findClass own = some m.cls) {n0 : Nat} (hS : s.Since vm0 n0) (hk : n0 ≤ h.size) (w1 : (Jvm.Cond.methodLink own index y).before a0 Z = true) (w2 : (Jvm.Cond.static y).before a0 Z = true) (w3 : (Jvm.Cond.initialized y.cls).before a0 Z = true) (w4 : (Jvm.Cond.code y bytes maxL ret).before a0 Z = true) (hyc : y.cls ≠ "java/lang/invoke/MethodHandle" ∧ y.cls ≠ "java/lang/invoke/VarHandle") (eT : T.heap = h) (hK : BackSQ l R p e below s vm0 args y 3 W (argsL.toArray) h nk ns Z EL Qc) (hsize : Ls.size = c.maxLocals) (hlen : ∀ sig, parseMethodDescriptor y.desc = some sig → argsL.length = sig.parameters.length) (hst : st0 = argsL.reverse ++ st) (hW : (st.map fun v => v.category).sum ≤ W) (hd : decode c.code pc = .ok (.invokestatic index, 3)) (hq : pc + 3 = q) (hc : cells + nk ≤ R.cells) (hs : slots + ns ≤ R.slots) (kk : ∀ (v : Option Value) (T' : State) (L : List Loc), AfterS p l e R s m args below meth c Z EL own vm0 h T' (locs ++ L) (cells + nk) (slots + ns) → Qc v T'.heap L → Go p.tables e below Q (T'.setTop (mkF m q Ls (v.toList ++ st)))) : Go p.tables e below Q (T.setTop (mkF m pc Ls st0)) := by
  subst hq
  obtain ⟨v, T', L, X', hQ, st'⟩ := callStS X hx hZ hown hS hk w1 w2 w3 w4 hyc eT hK (g := mkF m pc Ls st0) rfl hsize hlen hst (by show 2 * 0 + _ ≤ _; omega) hd hc hs
  exact Go.run st' (kk v T' L X' hQ)
theorem g_viS {vm0 : Vm} {y z : MethodName} {W nk ns : Nat} {argsL st0 : List Value} {Qc : Option Value → Heap → List Loc → Prop} (X : Stand p l e R (s.setVm vm0) m args below meth c T locs cells slots) (hx : p.tables.exec = Jvm.exec) (hZ : Z.Warmed39 vm0) (hown : vm0.findClass own = some m.cls) {n0 : Nat} (hS : s.Since vm0 n0) (hk : n0 ≤ h.size) (w1 : (Jvm.Cond.methodLink own index y).before a0 Z = true) (w2 : (Jvm.Cond.declares y).before a0 Z = true) (nf : NotFace (s.setVm vm0) y) (w4 : (Jvm.Cond.selects C y z).before a0 Z = true) (w5 : (Jvm.Cond.instanceMethod z).before a0 Z = true) (hyc : y.cls ≠ "java/lang/invoke/MethodHandle" ∧ y.cls ≠ "java/lang/invoke/VarHandle") (E : Exa Z h a C) (eT : T.heap = h) (hK : BackSQ l R p e below s vm0 args z 3 W ((.ref a :: argsL).toArray) h nk ns Z EL Qc) (hsize : Ls.size = c.maxLocals) (hlen : ∀ sig, parseMethodDescriptor y.desc = some sig → argsL.length = sig.parameters.length) (hst : st0 = argsL.reverse ++ .ref a :: st) (hW : (st.map fun v => v.category).sum ≤ W) (hd : decode c.code pc = .ok (.invokevirtual index, 3)) (hq : pc + 3 = q) (hc : cells + nk ≤ R.cells) (hs : slots + ns ≤ R.slots) (kk : ∀ (v : Option Value) (T' : State) (L : List Loc), AfterS p l e R s m args below meth c Z EL own vm0 h T' (locs ++ L) (cells + nk) (slots + ns) → Qc v T'.heap L → Go p.tables e below Q (T'.setTop (mkF m q Ls (v.toList ++ st)))) : Go p.tables e below Q (T.setTop (mkF m pc Ls st0)) := by
  subst hq
  obtain ⟨v, T', L, X', hQ, st'⟩ := callViS X hx hZ hown hS hk w1 w2 nf w4 w5 hyc eT E hK (g := mkF m pc Ls st0) rfl hsize hlen hst (by show 2 * 0 + _ ≤ _; omega) hd hc hs
  exact Go.run st' (kk v T' L X' hQ)
theorem g_newR (X : Stand p l e R s m args below meth c T locs cells slots) (hx : p.tables.exec = Jvm.exec) (hZ : Z.Warmed39 s.vm) (hown : s.vm.findClass own = some m.cls) (w1 : (Jvm.Cond.classLink own index C).before a0 Z = true) (w2 : (Jvm.Cond.arrayOver (.object C)).before a0 Z = true) {ad : String} (had : "[" ++ (FieldType.object C).toString = ad) (hn : ¬ z < 0) {n : Nat} (hk : z.toNatClampNeg = n) (hb : n * 8 ≤ 536870912) (hc : cells + 1 ≤ R.cells) (hl : slots + n ≤ R.slots) (eT : T.heap = h) (hd : decode c.code pc = .ok (.anewarray index, 3)) (hq : pc + 3 = q) (kk : ∀ (T' : State) (h' : Heap) (kc : ClassId) (b : Addr), b = h.size → Stand p l e R s m args below meth c T' locs (cells + 1) (slots + n) → T'.heap = h' → Ext h h' → Arv Z h' b kc (.object C) z (List.replicate n .null) .null → Exa Z h' b ad → Ovr Z kc C → Go p.tables e below Q (T'.setTop (mkF m q Ls (.ref b :: st)))) : Go p.tables e below Q (T.setTop (mkF m pc Ls (.int z :: st))) := by
  subst hq
  obtain ⟨T', h', kc, X', e', E', A', Ea, O', st'⟩ := newRE X hx hZ hown w1 w2 eT (g := mkF m pc Ls (.int z :: st)) rfl hd rfl hn (cap := n) (Nat.le_of_eq hk) hb hc hl had
  have V0 : Arv Z h' h.size kc (.object C) z [] Value.null := Arv.new A' hn
  exact Go.to st' (kk T' h' kc _ rfl X' e' E' (V0.pad (fun i => by have := pad_rep [] Value.null n i; simpa using this)) Ea O')
theorem g_gcls (X : Stand p l e R s m args below meth c T locs cells slots) (hx : p.tables.exec = Jvm.exec) (hZ : Z.Warmed39 s.vm) (hown : s.vm.findClass own = some m.cls) (w1 : (Jvm.Cond.methodLink own index ⟨"java/lang/Object", "getClass", "()Ljava/lang/Class;"⟩).before a0 Z = true) (w2 : (Jvm.Cond.declares ⟨"java/lang/Object", "getClass", "()Ljava/lang/Class;"⟩).before a0 Z = true) (w3 : (Jvm.Cond.noSuperclass "java/lang/Object").before a0 Z = true) (w4 : (Jvm.Cond.selects C ⟨"java/lang/Object", "getClass", "()Ljava/lang/Class;"⟩ ⟨"java/lang/Object", "getClass", "()Ljava/lang/Class;"⟩).before a0 Z = true) (w5 : (Jvm.Cond.instanceMethod ⟨"java/lang/Object", "getClass", "()Ljava/lang/Class;"⟩).before a0 Z = true) (w6 : (Jvm.Cond.native ⟨"java/lang/Object", "getClass", "()Ljava/lang/Class;"⟩).before a0 Z = true) (E : Exa Z h a C) {mr : Addr} (M : Mir Z C mr) (hsize : Ls.size = c.maxLocals) (hf : 1 ≤ R.frames) {W : Nat} (hW : (st.map fun v => v.category).sum ≤ W) (hl : W + (nativeFrameWords "java/lang/Object" "getClass" 1 + 11) ≤ R.locals) (eT : T.heap = h) (hd : decode c.code pc = .ok (.invokevirtual index, 3)) (hq : pc + 3 = q) (kk : ∀ (T' : State), Stand p l e R s m args below meth c T' locs cells slots → T'.heap = h → Go p.tables e below Q (T'.setTop (mkF m q Ls (.ref mr :: st)))) : Go p.tables e below Q (T.setTop (mkF m pc Ls (.ref a :: st))) := by
  subst hq
  obtain ⟨T', X', e', st'⟩ := gcls X hx hZ hown w1 w2 w3 w4 w5 w6 eT E M (g := mkF m pc Ls (.ref a :: st)) rfl hsize rfl hd hf (W := W) (by show 2 * 0 + _ ≤ _; omega) hl
  exact Go.to st' (kk T' X' e')
theorem g_ldcM (X : Stand p l e R s m args below meth c T locs cells slots) (hx : p.tables.exec = Jvm.exec) (hZ : Z.Warmed39 s.vm) (hown : s.vm.findClass own = some m.cls) (w1 : (Jvm.Cond.classLink own index C).before a0 Z = true) {mr : Addr} (M : Mir Z C mr) (eT : T.heap = h) (hd : decode c.code pc = .ok (.ldc index, 2)) (hq : pc + 2 = q) (kk : ∀ (T' : State), Stand p l e R s m args below meth c T' locs cells slots → T'.heap = h → Go p.tables e below Q (T'.setTop (mkF m q Ls (.ref mr :: st)))) : Go p.tables e below Q (T.setTop (mkF m pc Ls st)) := by
  subst hq
  have hev : (Term.mirror C).eval args s none [] s = some (.ref mr) := by
    obtain ⟨cc, kc, m1, m2, m3, -⟩ := M
    obtain ⟨k', q1, ek⟩ := hZ.alike.2.2 _ _ m2
    have q2 : s.vm.findClass C = some cc := by rw [hZ.alike.findClass]; exact m1
    have q3 : k'.mirror = some mr := by rw [ek]; exact m3
    simp [Term.eval, q2, q1, q3]
  obtain ⟨vm', X', st'⟩ := X.ldcMirror hx hown (mvT hZ w1) hev (g := mkF m pc Ls st) rfl hd
  exact Go.to st' (kk _ X' eT)
theorem g_cp (X : Stand p l e R s m args below meth c T locs cells slots) (hx : p.tables.exec = Jvm.exec) (hZ : Z.Warmed39 s.vm) (hown : s.vm.findClass own = some m.cls) (w1 : (Jvm.Cond.methodLink own index Jvm.Stand.acN).before a0 Z = true) (w2 : (Jvm.Cond.native Jvm.Stand.acN).before a0 Z = true) (w3 : (Jvm.Cond.static Jvm.Stand.acN).before a0 Z = true) (w4 : (Jvm.Cond.initialized "java/lang/System").before a0 Z = true) {b : Addr} {k' : ClassId} {ty' : FieldType} {z' sp dp nn : Int32} {vd us : List Value} {d2 : Value} (A : Arv Z h a kc ty z vs d) (B : Arv Z h b k' ty' z' vd d2) (hty : (ty = ty' ∧ refKind ty = false) ∨ (refKind ty = true ∧ refKind ty' = true ∧ StoL Z h b us)) (h1 : ¬ sp < 0) (h2 : ¬ dp < 0) (h3 : ¬ nn < 0) (h4 : sp.toNatClampNeg + nn.toNatClampNeg ≤ z.toNatClampNeg) (h5 : dp.toNatClampNeg + nn.toNatClampNeg ≤ z'.toNatClampNeg) (hus : us = (List.range nn.toNatClampNeg).map fun i => vs.getD (sp.toNatClampNeg + i) d) (hl : dp.toNatClampNeg + nn.toNatClampNeg ≤ vd.length) {n0 : Nat} (N : Fr n0 locs) (ge : n0 ≤ b) (hsize : Ls.size = c.maxLocals) (hf : 1 ≤ R.frames) {W : Nat} (hW : (st.map fun v => v.category).sum ≤ W) (hlo : W + (nativeFrameWords "java/lang/System" "arraycopy" 5 + 11) ≤ R.locals) (eT : T.heap = h) (hd : decode c.code pc = .ok (.invokestatic index, 3)) (hq : pc + 3 = q) (kk : ∀ (T' : State) (h' : Heap) (L : List Loc), Stand p l e R s m args below meth c T' L cells slots → T'.heap = h' → Fr n0 L → Keep h h' [b] → Arv Z h' b k' ty' z' (vd.take dp.toNatClampNeg ++ us ++ vd.drop (dp.toNatClampNeg + nn.toNatClampNeg)) d2 → Go p.tables e below Q (T'.setTop (mkF m q Ls st))) : Go p.tables e below Q (T.setTop (mkF m pc Ls (.int nn :: .int dp :: .ref b :: .int sp :: .ref a :: st))) := by
  subst hq
  obtain ⟨T', h', L, X', e', N', K', V', st'⟩ := cpA X hx hZ hown w1 w2 w3 w4 eT A B hty h1 h2 h3 h4 h5 hus hl N ge (g := mkF m pc Ls (.int nn :: .int dp :: .ref b :: .int sp :: .ref a :: st)) rfl hsize rfl hd hf (W := W) (by show 2 * 0 + _ ≤ _; omega) hlo
  exact Go.to st' (kk T' h' L X' e' N' K' V')
theorem g_tsw (X : Stand p l e R s m args below meth c T locs cells slots) (hx : p.tables.exec = Jvm.exec) {dflt low high : Int} {offs : Array Int} {len : Nat} {j : Int} (hd : decode c.code pc = .ok (.tableswitch dflt low high offs, len)) (hin : ¬ (x.toInt < low ∨ x.toInt > high)) (hoff : offs[(x.toInt - low).toNat]? = some j) (ho : 0 ≤ (pc : Int) + j) (hp : ((pc : Int) + j).toNat = q) (kk : Go p.tables e below Q (T.setTop (mkF m q Ls st))) : Go p.tables e below Q (T.setTop (mkF m pc Ls (.int x :: st))) :=
  Go.st (S' := T.setTop (mkF m q Ls st)) (fun {t} hr => XS.tswIn (g := mkF m pc Ls (.int x :: st)) (pc0 := pc) (pc' := q) X.here hx rfl rfl hd rfl hin hoff ho hp hr) kk
theorem g_pv {y : MethodName} {bytes : ByteArray} {maxL : Nat} {ret : Option FieldType} {W nk ns : Nat} {argsL st0 : List Value} {Qc : Option Value → Heap → List Loc → Prop} (X : Stand p l e R s m args below meth c T locs cells slots) (hx : p.tables.exec = Jvm.exec) (hZ : Z.Warmed39 s.vm) (hown : s.vm.findClass own = some m.cls) (w1 : (Jvm.Cond.methodLink own index y).before a0 Z = true) (w2 : (Jvm.Cond.instanceMethod y).before a0 Z = true) (w3 : (Jvm.Cond.selects y.cls y y).before a0 Z = true) (w4 : (Jvm.Cond.privateMethod y).before a0 Z = true) (w5 : (Jvm.Cond.code y bytes maxL ret).before a0 Z = true) (hyc : y.cls ≠ "java/lang/invoke/MethodHandle" ∧ y.cls ≠ "java/lang/invoke/VarHandle") (E : Exa Z h a C) (eT : T.heap = h) (hK : BackQ l R p e below s args y 3 W (.ref a :: argsL).toArray h nk ns Qc) (hsize : Ls.size = c.maxLocals) (hlen : ∀ sig, parseMethodDescriptor y.desc = some sig → argsL.length = sig.parameters.length) (hst : st0 = argsL.reverse ++ .ref a :: st) (hW : (st.map fun v => v.category).sum ≤ W) (hd : decode c.code pc = .ok (.invokevirtual index, 3)) (hq : pc + 3 = q) (hc : cells + nk ≤ R.cells) (hs : slots + ns ≤ R.slots) (kk : ∀ (v : Option Value) (T' : State) (L : List Loc), Stand p l e R s m args below meth c T' (locs ++ L) (cells + nk) (slots + ns) → Qc v T'.heap L → Go p.tables e below Q (T'.setTop (mkF m q Ls (v.toList ++ st)))) : Go p.tables e below Q (T.setTop (mkF m pc Ls st0)) := by
  subst hq
  obtain ⟨cq, q1, q2⟩ := E.cell
  obtain ⟨v, vm1, ⟨T', L', k', n'⟩, -, X', ⟨L, hQ, rfl, rfl, rfl⟩, st'⟩ := X.privateBack hx hown (mvT hZ w1) (mvT hZ w2) (mvT hZ w3) (Cond.privateMethod_at (mvP hZ w4 (args := #[]))) (mvT hZ w5) hyc hK (g := mkF m pc Ls st0) rfl hsize (Steps.refl _) (a := a) (by rw [eT]; exact q1) q2 hlen hst (by show 2 * 0 + _ ≤ _; omega) hd (fun _ _ => ⟨rfl, eT, hc, hs⟩)
  exact Go.run st' (kk v T' L X' hQ)
end Steps1
end Jvm.OwnKit
namespace Jvm.Pilot.@@N@@
open Jvm Jvm.ClassFile Sem Op Lib Jvm.Free Jvm.Stand Jvm.LawKit Jvm.RoadKit Jvm.OwnKit Bundle Jvm.Pilot.@@N@@.Jvm.D
def chr (x : Int32) : Int32 := (x &&& 255).toUInt32.toUInt16.toUInt32.toInt32
theorem chr_eq (x : Int32) : chr x = x &&& 255 := i2c_mask x
theorem chr_rng (x : Int32) : ¬ chr x < 0 ∧ ¬ (255 : Int32) < chr x := by
  rw [chr_eq]
  have h := c_mask x 255 8 (by decide) (by decide)
  simp only [Int32.lt_iff_toInt_lt]
  have h0 : (0 : Int32).toInt = 0 := by decide
  have h1 : (255 : Int32).toInt = 255 := by decide
  rw [h, h0, h1]
  have : (2 ^ 8 : Nat) = 256 := by decide
  omega
theorem chr_nar (x : Int32) : nar .char (chr x) = chr x := by simp only [nar, chr, UInt32.toUInt32_toInt32, UInt16.toUInt16_toUInt32]
theorem al0 {P : Int32 → Prop} : ∀ c ∈ ([] : List Int32), P c := fun _ q => nomatch q
theorem alS {P : Int32 → Prop} {y : Int32} {L : List Int32} (q : P y) (r : ∀ x ∈ L, P x) : ∀ x ∈ y :: L, P x := fun x z => (List.mem_cons.mp z).elim (fun u => u ▸ q) (r x)
theorem shr_zero (x : Int32) : x >>> ((0 : Int32) &&& 31) = x := by
  rw [show ((0 : Int32) &&& 31) = 0 from by decide]
  exact Int32.toInt_inj.mp (by rw [show x >>> (0 : Int32) = x >>> ((0 : Int32) &&& 31) from by rw [show ((0 : Int32) &&& 31) = 0 from by decide], c_ishr x 0 0 (by decide)]; simp)
theorem lo8_nar (x : Int32) : nar .byte (StrChars.lo8 x) = StrChars.lo8 x := by simp [nar, StrChars.lo8]
theorem rng16 (x : Int32) : ¬ x.toUInt32.toUInt16.toUInt32.toInt32 < 0 ∧ ¬ (65535 : Int32) < x.toUInt32.toUInt16.toUInt32.toInt32 := by
  have h := c_i2c x
  have h0 : (0 : Int32).toInt = 0 := by decide
  have h1 : (65535 : Int32).toInt = 65535 := by decide
  simp only [Int32.lt_iff_toInt_lt, h0, h1]
  omega
theorem nar_of {c : Int32} (h0 : ¬ c < 0) (h1 : ¬ (65535 : Int32) < c) : nar .char c = c := by
  have := StrChars.narrow_ch h0 h1
  exact Value.int.inj this
theorem lt_up {a b c : Int32} (h : b < a) (q : c < b) : c < a := by
  simp only [Int32.lt_iff_toInt_lt] at *
  omega
abbrev EL : List (String × Nat) := [("java/lang/String", 7)]
theorem wd19 {a0 : Array Value} {Z : State} (hw : ∀ d ∈ tables_1, d.before a0 Z = true) : ((Jvm.Cond.stringLink "java/lang/String" (7 : Nat) "") : Jvm.Cond).before a0 Z = true := hw _ (List.mem_of_getElem? (i := 19) rfl)
theorem own_EW {a0 : Array Value} {Z : State} (hw : ∀ d ∈ tables_1, d.before a0 Z = true) : EW Z a0 EL := EW.cons (wd19 hw) (by decide) (EW.nil)
theorem own_wS {a0 : Array Value} {Z : State} (hw : ∀ d ∈ tables_1, d.before a0 Z = true) : ∀ d ∈ Bundle.stringAtoms, d.before a0 Z = true := fun d hd => hw d ((by decide +kernel : ∀ d ∈ Bundle.stringAtoms, d ∈ tables_1) d hd)
theorem own_wStr {a0 : Array Value} {Z : State} (hw : ∀ d ∈ tables_1, d.before a0 Z = true) : ∀ d ∈ StrChars.Road.words, d.before a0 Z = true := fun d hd => hw d ((by decide +kernel : ∀ d ∈ StrChars.Road.words, d ∈ tables_1) d hd)
theorem d_jdk_42m149_0 : decode jdk_42_method_149_code 0 = .ok (.aload_n 0, 1) := by decide +kernel
theorem d_jdk_42m149_1 : decode jdk_42_method_149_code 1 = .ok (.invokespecial 1, 3) := by decide +kernel
theorem wd16 {a0 : Array Value} {Z : State} (hw : ∀ d ∈ tables_1, d.before a0 Z = true) : ((Jvm.Cond.methodLink "java/lang/String" (1 : Nat) ({ cls := "java/lang/Object", name := "<init>", desc := "()V" } : Jvm.MethodName)) : Jvm.Cond).before a0 Z = true := hw _ (List.mem_of_getElem? (i := 16) rfl)
theorem wd17 {a0 : Array Value} {Z : State} (hw : ∀ d ∈ tables_1, d.before a0 Z = true) : ((Jvm.Cond.instanceMethod ({ cls := "java/lang/Object", name := "<init>", desc := "()V" } : Jvm.MethodName)) : Jvm.Cond).before a0 Z = true := hw _ (List.mem_of_getElem? (i := 17) rfl)
theorem wd18 {a0 : Array Value} {Z : State} (hw : ∀ d ∈ tables_1, d.before a0 Z = true) : ((Jvm.Cond.code ({ cls := "java/lang/Object", name := "<init>", desc := "()V" } : Jvm.MethodName) object_method_1_code (1 : Nat) (Option.none : Option Jvm.ClassFile.FieldType)) : Jvm.Cond).before a0 Z = true := hw _ (List.mem_of_getElem? (i := 18) rfl)
theorem d_jdk_42m149_4 : decode jdk_42_method_149_code 4 = .ok (.iload_n 3, 1) := by decide +kernel
theorem d_jdk_42m149_5 : decode jdk_42_method_149_code 5 = .ok (.ifCond .ne 22, 3) := by decide +kernel
theorem d_jdk_42m149_8 : decode jdk_42_method_149_code 8 = .ok (.aload_n 0, 1) := by decide +kernel
theorem d_jdk_42m149_9 : decode jdk_42_method_149_code 9 = .ok (.ldc 7, 2) := by decide +kernel
theorem d_jdk_42m149_11 : decode jdk_42_method_149_code 11 = .ok (.getfield 9, 3) := by decide +kernel
theorem wd25 {a0 : Array Value} {Z : State} (hw : ∀ d ∈ tables_1, d.before a0 Z = true) : ((Jvm.Cond.fieldLink "java/lang/String" (9 : Nat) "java/lang/String" "value" "[B") : Jvm.Cond).before a0 Z = true := hw _ (List.mem_of_getElem? (i := 25) rfl)
theorem d_jdk_42m149_14 : decode jdk_42_method_149_code 14 = .ok (.putfield 9, 3) := by decide +kernel
theorem wd21 {a0 : Array Value} {Z : State} (hw : ∀ d ∈ tables_1, d.before a0 Z = true) : ((Jvm.Cond.laysFinal "java/lang/String" "java/lang/String" "value" "[B") : Jvm.Cond).before a0 Z = true := hw _ (List.mem_of_getElem? (i := 21) rfl)
theorem wd2 {a0 : Array Value} {Z : State} (hw : ∀ d ∈ tables_1, d.before a0 Z = true) : ((Jvm.Cond.instantiable "java/lang/String" (4 : Nat)) : Jvm.Cond).before a0 Z = true := hw _ (List.mem_of_getElem? (i := 2) rfl)
theorem d_jdk_42m149_17 : decode jdk_42_method_149_code 17 = .ok (.aload_n 0, 1) := by decide +kernel
theorem d_jdk_42m149_18 : decode jdk_42_method_149_code 18 = .ok (.ldc 7, 2) := by decide +kernel
theorem d_jdk_42m149_20 : decode jdk_42_method_149_code 20 = .ok (.getfield 15, 3) := by decide +kernel
theorem wd26 {a0 : Array Value} {Z : State} (hw : ∀ d ∈ tables_1, d.before a0 Z = true) : ((Jvm.Cond.fieldLink "java/lang/String" (15 : Nat) "java/lang/String" "coder" "B") : Jvm.Cond).before a0 Z = true := hw _ (List.mem_of_getElem? (i := 26) rfl)
theorem d_jdk_42m149_23 : decode jdk_42_method_149_code 23 = .ok (.putfield 15, 3) := by decide +kernel
theorem wd22 {a0 : Array Value} {Z : State} (hw : ∀ d ∈ tables_1, d.before a0 Z = true) : ((Jvm.Cond.laysFinal "java/lang/String" "java/lang/String" "coder" "B") : Jvm.Cond).before a0 Z = true := hw _ (List.mem_of_getElem? (i := 22) rfl)
theorem d_jdk_42m149_26 : decode jdk_42_method_149_code 26 = .ok (.return_, 1) := by decide +kernel
def Q_new4e (Z : State) (zC : Int32) (vF : Value) (a1 : Addr) (a2 : Addr) (h0 : Heap) (v : Option Value) (h : Heap) (L : List Loc) : Prop := ∃ (t : Addr), ∃ (kb : ClassId), v = none ∧ Fr Z.heap.size L ∧ Keep h0 h [a1] ∧ Exa Z h a1 "java/lang/String" ∧ Fld Z h a1 "java/lang/String" "value" "[B" (.ref t) ∧ Fld Z h a1 "java/lang/String" "coder" "B" (.int (0 : Int32)) ∧ Arv Z h t kb .byte (0 : Int32) [] (.int 0)
theorem pn0 : plainName "java/lang/String" = true := by first | (simp [plainName, overriddenIn]; done) | decide +kernel
set_option maxRecDepth 65536 in
set_option maxHeartbeats 40000000 in
theorem rm_new4e (l : Launch) (Z : State) (a0 : Array Value) (hw : ∀ d ∈ tables_1, d.before a0 Z = true) (zC : Int32) (SC : Sta Z Z.heap "java/lang/String" "COMPACT_STRINGS" "Z" (.int zC)) (PC : ¬ zC = (0 : Int32)) (vF : Value) (rF : vF = .null ∨ ∃ a, vF = .ref a) (SF : Sta Z Z.heap "jdk/internal/util/Preconditions" "SIOOBE_FORMATTER" "Ljava/util/function/BiFunction;" vF) (SA : Sta Z Z.heap "java/lang/StringUTF16" "$assertionsDisabled" "Z" (.int (1 : Int32))) (SH : Sta Z Z.heap "java/lang/StringUTF16" "HI_BYTE_SHIFT" "I" (.int (0 : Int32))) (SL : Sta Z Z.heap "java/lang/StringUTF16" "LO_BYTE_SHIFT" "I" (.int (8 : Int32))) (a1 : Addr) (a2 : Addr) (h0 : Heap) (O0 : Old Z Z.heap.size h0) (P1 : Exa Z h0 a1 "java/lang/String") (P2 : Fld Z h0 a1 "java/lang/String" "value" "[B" .null) (P3 : Fld Z h0 a1 "java/lang/String" "coder" "B" (.int (0 : Int32))) (P4 : Z.heap.size ≤ a1) :
    ConS l Z EL (⟨"java/lang/String", "<init>", "([CIILjava/lang/Void;)V"⟩ : MethodName) jdk_42_method_149_code 6 none ({ frames := 1, cells := 4, slots := 8, locals := 12 } : Room) #[(.ref a1), (.ref a2), (.int (0 : Int32)), (.int (0 : Int32)), .null] h0 [a1] (Q_new4e Z zC vF a1 a2 h0) := by
  refine ConS.intro pn0 ?_
  intro p e s m below meth c T0 v0 X0 hx hby hml hown0 hnm hret hlk hZ0 e0 hS0 C0 hsl0
  have P5 := hsl0 a1 (by simp)
  have N0 := Fr.nil Z.heap.size
  refine castGo (g' := mkF m 0 #[.val (.ref a1), .val (.ref a2), .val (.int (0 : Int32)), .val (.int (0 : Int32)), .val .null, .unset] []) (by first | rfl | (simp [entryFrame, mkF, argsToLocals, Value.category]; done)) ?_
  show Go _ _ _ _ (T0.setTop (mkF m 0 #[.val (.ref a1), .val (.ref a2), .val (.int (0 : Int32)), .val (.int (0 : Int32)), .val .null, .unset] []))
  refine aL X0 hx (hb hby d_jdk_42m149_0) (q := 1) rfl rfl rfl ?_
  refine g_init0 X0 hx hZ0 hown0 (wd16 hw) (wd17 hw) (wd18 hw) (by rw [hml]; rfl) (by decide) (W := 0) (Nat.le_of_eq rfl) (by decide) e0 (hb hby d_jdk_42m149_1) (q := 4) rfl ?_
  intro T1 X1 e1
  refine iL X1 hx (hb hby d_jdk_42m149_4) (q := 5) rfl rfl ?_
  refine ifN X1 hx (hb hby d_jdk_42m149_5) (q := 8) rfl (by decide) ?_
  refine aL X1 hx (hb hby d_jdk_42m149_8) (q := 9) rfl rfl rfl ?_
  refine g_ldc X1 hx hZ0 hown0 (wd19 hw) (own_wS hw) hS0 (Nat.zero_le _) (own_EW hw) (by simp [EL]) C0.1 (vs := []) (z := (0 : Int32)) ⟨by decide, by decide⟩ (by decide) (by decide) (n := 0) (by decide) (by decide) (by decide) (by decide) e1 (hb hby d_jdk_42m149_9) (q := 11) rfl ?_
  intro b2 T2 h2 kk2 d2 k2 X2 e2 E2 hS2 hk2 hZ2 hown2 A2 Fc2 Fv2 V2 lta2 ltb2 R2 sn2
  refine g_getF X2 hx hZ2 hown2 (host := "") (Or.inl (wd25 hw)) Via.refl Fv2 e2 (hb hby d_jdk_42m149_11) (q := 14) rfl ?_
  intro T3 X3 e3
  have f4 : Fld Z h2 a1 "java/lang/String" "value" "[B" .null := P2.ext E2
  have f5 : Exa Z h2 a1 "java/lang/String" := P1.ext E2
  have f7 : CHr Z EL s.vm s.heap T2.vm h2 := C0.trans R2
  have f8 : Safe Z EL T2.vm h2 a1 := R2.safe (Nat.lt_of_lt_of_le P1.lt (Nat.le_refl _)) P5
  refine g_putF X3 hx hZ2 hown2 (host := "") (Or.inl (wd25 hw)) Via.refl f4 f5 (Or.inr ⟨(wd21 hw), rfl, hnm⟩) (wd2 hw) (ty := (.array .byte)) (by decide) rfl rfl e3 (hb hby d_jdk_42m149_14) (q := 17) rfl ?_
  intro T6 h6 X6 e6 W6
  have N6 := Fr.snoc X6 N0 P4
  have Fw6 : Fld Z h6 a1 "java/lang/String" "value" "[B" (.ref d2) := f4.same W6
  refine aL X6 hx (hb hby d_jdk_42m149_17) (q := 18) rfl rfl rfl ?_
  have f10 : CHr Z EL s.vm s.heap T2.vm h6 := f7.trans (CHr.wr W6 f8 f7.1)
  have le11 : (h2).size ≤ (h6).size := (Nat.le_of_eq (Wr.size W6).symm)
  refine g_ldc X6 hx hZ2 hown2 (wd19 hw) (own_wS hw) hS2 (Nat.le_trans hk2 le11) (own_EW hw) (by simp [EL]) f10.1 (vs := []) (z := (0 : Int32)) ⟨by decide, by decide⟩ (by decide) (by decide) (n := 0) (by decide) (by decide) (by decide) (by decide) e6 (hb hby d_jdk_42m149_18) (q := 20) rfl ?_
  intro b9 T9 h9 kk9 d9 k9 X9 e9 E9 hS9 hk9 hZ9 hown9 A9 Fc9 Fv9 V9 lta9 ltb9 R9 sn9
  refine g_getF X9 hx hZ9 hown9 (host := "") (Or.inl (wd26 hw)) Via.refl Fc9 e9 (hb hby d_jdk_42m149_20) (q := 23) rfl ?_
  intro T12 X12 e12
  have f13 : Fld Z h2 a1 "java/lang/String" "coder" "B" (.int (0 : Int32)) := P3.ext E2
  have f14 : Fld Z h6 a1 "java/lang/String" "coder" "B" (.int (0 : Int32)) := f13.other W6 (Or.inr (slot_ne (Or.inr (wd22 hw)) (Or.inr (wd21 hw)) (by decide) (t := .byte) (t' := (.array .byte)) (by decide) (by decide)))
  have f15 : Fld Z h9 a1 "java/lang/String" "coder" "B" (.int (0 : Int32)) := f14.ext E9
  have f16 : Exa Z h6 a1 "java/lang/String" := f5.wr W6
  have f17 : Exa Z h9 a1 "java/lang/String" := f16.ext E9
  have f19 : CHr Z EL s.vm s.heap T9.vm h9 := f10.trans R9
  have f20 : Safe Z EL T2.vm h6 a1 := Safe.wr W6 f8 f7.1 f8
  have le21 : (h0).size ≤ (h2).size := E2.1
  have le22 : (h0).size ≤ (h6).size := (Nat.le_trans le21 (Nat.le_of_eq (Wr.size W6).symm))
  have f23 : Safe Z EL T9.vm h9 a1 := R9.safe (Nat.lt_of_lt_of_le P1.lt le22) f20
  refine g_putF X12 hx hZ9 hown9 (host := "") (Or.inl (wd26 hw)) Via.refl f15 f17 (Or.inr ⟨(wd22 hw), rfl, hnm⟩) (wd2 hw) (ty := .byte) (by decide) rfl rfl e12 (hb hby d_jdk_42m149_23) (q := 26) rfl ?_
  intro T18 h18 X18 e18 W18
  have N18 := Fr.snoc X18 N6 P4
  have Fw18 : Fld Z h18 a1 "java/lang/String" "coder" "B" (.int (0 : Int32)) := f15.same W18
  have K24 : Keep h0 h2 [a1] := (Keep.refl h0 [a1]).ext E2
  have K25 : Keep h0 h6 [a1] := K24.wr W6 (Or.inl (by simp))
  have K26 : Keep h0 h9 [a1] := K25.ext E9
  have K27 : Keep h0 h18 [a1] := K26.wr W18 (Or.inl (by simp))
  have f28 : Exa Z h18 a1 "java/lang/String" := f17.wr W18
  have f29 : Fld Z h9 a1 "java/lang/String" "value" "[B" (.ref d2) := Fw6.ext E9
  have f30 : Fld Z h18 a1 "java/lang/String" "value" "[B" (.ref d2) := f29.other W18 (Or.inr (slot_ne (Or.inr (wd21 hw)) (Or.inr (wd22 hw)) (by decide) (t := (.array .byte)) (t' := .byte) (by decide) (by decide)))
  have ne31 : d2 ≠ a1 := (Ne.symm (sn2 _ f8).2)
  have f32 : Arv Z h6 d2 k2 .byte (0 : Int32) [] (.int 0) := V2.other W6 ne31
  have f33 : Arv Z h9 d2 k2 .byte (0 : Int32) [] (.int 0) := f32.ext E9
  have f34 : Arv Z h18 d2 k2 .byte (0 : Int32) [] (.int 0) := f33.other W18 ne31
  have le35 : (h9).size ≤ (h18).size := (Nat.le_of_eq (Wr.size W18).symm)
  have f36 : CHr Z EL s.vm s.heap T9.vm h18 := f19.trans (CHr.wr W18 f23 f19.1)
  refine endC X18 hlk hS9 (by rw [e18]; exact (Nat.le_trans hk9 le35)) hZ9 (own_EW hw) (by rw [e18]; exact f36) (fun _ => rfl) (lastV X18 hx hret (hb hby d_jdk_42m149_26)) ?_ (by decide) (by decide)
  rw [e18]
  exact ⟨d2, k2, rfl, N18, K27, f28, f30, Fw18, f34⟩
theorem d_jdk_42m3_0 : decode jdk_42_method_3_code 0 = .ok (.aload_n 0, 1) := by decide +kernel
theorem d_jdk_42m3_1 : decode jdk_42_method_3_code 1 = .ok (.aload_n 1, 1) := by decide +kernel
theorem d_jdk_42m3_2 : decode jdk_42_method_3_code 2 = .ok (.iconst 0, 1) := by decide +kernel
theorem d_jdk_42m3_3 : decode jdk_42_method_3_code 3 = .ok (.aload_n 1, 1) := by decide +kernel
theorem d_jdk_42m3_4 : decode jdk_42_method_3_code 4 = .ok (.arraylength, 1) := by decide +kernel
theorem d_jdk_42m3_5 : decode jdk_42_method_3_code 5 = .ok (.aconst_null, 1) := by decide +kernel
theorem d_jdk_42m3_6 : decode jdk_42_method_3_code 6 = .ok (.invokespecial 27, 3) := by decide +kernel
theorem wd15 {a0 : Array Value} {Z : State} (hw : ∀ d ∈ tables_1, d.before a0 Z = true) : ((Jvm.Cond.code ({ cls := "java/lang/String", name := "<init>", desc := "([CIILjava/lang/Void;)V" } : Jvm.MethodName) jdk_42_method_149_code (6 : Nat) (Option.none : Option Jvm.ClassFile.FieldType)) : Jvm.Cond).before a0 Z = true := hw _ (List.mem_of_getElem? (i := 15) rfl)
theorem wd3 {a0 : Array Value} {Z : State} (hw : ∀ d ∈ tables_1, d.before a0 Z = true) : ((Jvm.Cond.initialized "java/lang/String") : Jvm.Cond).before a0 Z = true := hw _ (List.mem_of_getElem? (i := 3) rfl)
theorem pd0 : parseMethodDescriptor "([CIILjava/lang/Void;)V" = some ⟨[(.array .char), .int, .int, (.object "java/lang/Void")], none⟩ := by decide +kernel
theorem wd12 {a0 : Array Value} {Z : State} (hw : ∀ d ∈ tables_1, d.before a0 Z = true) : ((Jvm.Cond.methodLink "java/lang/String" (27 : Nat) ({ cls := "java/lang/String", name := "<init>", desc := "([CIILjava/lang/Void;)V" } : Jvm.MethodName)) : Jvm.Cond).before a0 Z = true := hw _ (List.mem_of_getElem? (i := 12) rfl)
theorem wd13 {a0 : Array Value} {Z : State} (hw : ∀ d ∈ tables_1, d.before a0 Z = true) : ((Jvm.Cond.instanceMethod ({ cls := "java/lang/String", name := "<init>", desc := "([CIILjava/lang/Void;)V" } : Jvm.MethodName)) : Jvm.Cond).before a0 Z = true := hw _ (List.mem_of_getElem? (i := 13) rfl)
theorem d_jdk_42m3_9 : decode jdk_42_method_3_code 9 = .ok (.return_, 1) := by decide +kernel
def Q_new1e (Z : State) (zC : Int32) (vF : Value) (a1 : Addr) (a2 : Addr) (kc : ClassId) (cl : List Value) (h0 : Heap) (v : Option Value) (h : Heap) (L : List Loc) : Prop := ∃ (t : Addr), ∃ (kb : ClassId), v = none ∧ Fr Z.heap.size L ∧ Keep h0 h [a1] ∧ Exa Z h a1 "java/lang/String" ∧ Fld Z h a1 "java/lang/String" "value" "[B" (.ref t) ∧ Fld Z h a1 "java/lang/String" "coder" "B" (.int (0 : Int32)) ∧ Arv Z h t kb .byte (0 : Int32) [] (.int 0)
set_option maxRecDepth 65536 in
set_option maxHeartbeats 40000000 in
theorem rm_new1e (l : Launch) (Z : State) (a0 : Array Value) (hw : ∀ d ∈ tables_1, d.before a0 Z = true) (zC : Int32) (SC : Sta Z Z.heap "java/lang/String" "COMPACT_STRINGS" "Z" (.int zC)) (PC : ¬ zC = (0 : Int32)) (vF : Value) (rF : vF = .null ∨ ∃ a, vF = .ref a) (SF : Sta Z Z.heap "jdk/internal/util/Preconditions" "SIOOBE_FORMATTER" "Ljava/util/function/BiFunction;" vF) (SA : Sta Z Z.heap "java/lang/StringUTF16" "$assertionsDisabled" "Z" (.int (1 : Int32))) (SH : Sta Z Z.heap "java/lang/StringUTF16" "HI_BYTE_SHIFT" "I" (.int (0 : Int32))) (SL : Sta Z Z.heap "java/lang/StringUTF16" "LO_BYTE_SHIFT" "I" (.int (8 : Int32))) (a1 : Addr) (a2 : Addr) (kc : ClassId) (cl : List Value) (h0 : Heap) (O0 : Old Z Z.heap.size h0) (P1 : Exa Z h0 a1 "java/lang/String") (P2 : Fld Z h0 a1 "java/lang/String" "value" "[B" .null) (P3 : Fld Z h0 a1 "java/lang/String" "coder" "B" (.int (0 : Int32))) (P4 : Z.heap.size ≤ a1) (P6 : Arv Z h0 a2 kc .char (0 : Int32) cl (.int 0)) :
    ConS l Z EL (⟨"java/lang/String", "<init>", "([C)V"⟩ : MethodName) jdk_42_method_3_code 2 none ({ frames := 2, cells := 4, slots := 8, locals := 29 } : Room) #[(.ref a1), (.ref a2)] h0 [a1] (Q_new1e Z zC vF a1 a2 kc cl h0) := by
  refine ConS.intro pn0 ?_
  intro p e s m below meth c T0 v0 X0 hx hby hml hown0 hnm hret hlk hZ0 e0 hS0 C0 hsl0
  have P5 := hsl0 a1 (by simp)
  have N0 := Fr.nil Z.heap.size
  refine castGo (g' := mkF m 0 #[.val (.ref a1), .val (.ref a2)] []) (by first | rfl | (simp [entryFrame, mkF, argsToLocals, Value.category]; done)) ?_
  show Go _ _ _ _ (T0.setTop (mkF m 0 #[.val (.ref a1), .val (.ref a2)] []))
  refine aL X0 hx (hb hby d_jdk_42m3_0) (q := 1) rfl rfl rfl ?_
  refine aL X0 hx (hb hby d_jdk_42m3_1) (q := 2) rfl rfl rfl ?_
  refine cI X0 hx (hb hby d_jdk_42m3_2) (q := 3) rfl (z := (0 : Int32)) rfl ?_
  refine aL X0 hx (hb hby d_jdk_42m3_3) (q := 4) rfl rfl rfl ?_
  refine g_len X0 hx hZ0 P6 e0 (hb hby d_jdk_42m3_4) (q := 5) rfl ?_
  refine cN X0 hx (hb hby d_jdk_42m3_5) (q := 6) rfl ?_
  refine g_spS X0 hx hZ0 hown0 hS0 (Nat.zero_le _) (wd12 hw) (wd13 hw) (wd15 hw) rfl (by decide) e0 (ConS.back (W := 0) (rm_new4e l Z a0 hw zC SC PC vF rF SF SA SH SL a1 a2 h0 O0 P1 P2 P3 P4) hZ0 (wd15 hw) (wd3 hw) (by decide) (by decide) (own_EW hw) C0.1 (sfS P5 sf0) (allS (Nat.lt_of_lt_of_le P1.lt (Nat.le_refl _)) all0)) (by rw [hml]; rfl) (lenOf pd0 rfl) rfl (Nat.le_of_eq rfl) (hb hby d_jdk_42m3_6) (q := 9) rfl (by decide) (by decide) ?_
  rintro v37 T37 L37 ⟨X37, hS37, hZ37, hown37, R37⟩ Q37
  obtain ⟨t_37, kb_37, rfl, Nq37, K37q, q37_0, q37_1, q37_2, q37_3⟩ := Q37
  have N37 := Fr.app N0 Nq37
  show Go _ _ _ _ (T37.setTop (mkF m 9 #[.val (.ref a1), .val (.ref a2)] []))
  have K38 : Keep h0 T37.heap [a1] := (Keep.refl h0 [a1]).trans K37q (allS (Or.inl (by simp)) all0)
  have f39 : CHr Z EL s.vm s.heap T37.vm T37.heap := C0.trans R37
  refine endC X37 hlk hS37 (Nat.le_trans (Nat.le_refl _) (Nat.le_refl _)) hZ37 (own_EW hw) f39 (fun _ => rfl) (lastV X37 hx hret (hb hby d_jdk_42m3_9)) ?_ (by decide) (by decide)
  exact ⟨t_37, kb_37, rfl, N37, K38, q37_0, q37_1, q37_2, q37_3⟩
theorem d_method_4_0 : decode method_4_code 0 = .ok (.iload_n 0, 1) := by decide +kernel
theorem d_method_4_1 : decode method_4_code 1 = .ok (.ifCond .ne 7, 3) := by decide +kernel
theorem d_method_4_4 : decode method_4_code 4 = .ok (.iconst 0, 1) := by decide +kernel
theorem d_method_4_5 : decode method_4_code 5 = .ok (.newarray .char, 2) := by decide +kernel
theorem wd8 {a0 : Array Value} {Z : State} (hw : ∀ d ∈ tables_1, d.before a0 Z = true) : ((Jvm.Cond.arrayClass Jvm.ClassFile.FieldType.char) : Jvm.Cond).before a0 Z = true := hw _ (List.mem_of_getElem? (i := 8) rfl)
theorem d_method_4_7 : decode method_4_code 7 = .ok (.areturn, 1) := by decide +kernel
def Q_chars0 (Z : State) (zC : Int32) (vF : Value) (c0 : Int32) (c1 : Int32) (c2 : Int32) (h0 : Heap) (v : Option Value) (h : Heap) (L : List Loc) : Prop := ∃ (a : Addr), ∃ (kc : ClassId), v = some (.ref a) ∧ Fr Z.heap.size L ∧ Keep h0 h [] ∧ h0.size ≤ a ∧ Arv Z h a kc .char (0 : Int32) [] (.int 0)
theorem pn1 : plainName "com/example/anteriorita/anteriorita/PatentRecordIsLanguageCodePinLaw" = true := by first | (simp [plainName, overriddenIn]; done) | decide +kernel
set_option maxRecDepth 65536 in
set_option maxHeartbeats 40000000 in
theorem rm_chars0 (l : Launch) (Z : State) (a0 : Array Value) (hw : ∀ d ∈ tables_1, d.before a0 Z = true) (zC : Int32) (SC : Sta Z Z.heap "java/lang/String" "COMPACT_STRINGS" "Z" (.int zC)) (PC : ¬ zC = (0 : Int32)) (vF : Value) (rF : vF = .null ∨ ∃ a, vF = .ref a) (SF : Sta Z Z.heap "jdk/internal/util/Preconditions" "SIOOBE_FORMATTER" "Ljava/util/function/BiFunction;" vF) (SA : Sta Z Z.heap "java/lang/StringUTF16" "$assertionsDisabled" "Z" (.int (1 : Int32))) (SH : Sta Z Z.heap "java/lang/StringUTF16" "HI_BYTE_SHIFT" "I" (.int (0 : Int32))) (SL : Sta Z Z.heap "java/lang/StringUTF16" "LO_BYTE_SHIFT" "I" (.int (8 : Int32))) (c0 : Int32) (c1 : Int32) (c2 : Int32) (h0 : Heap) (O0 : Old Z Z.heap.size h0) (H0 : (¬ (c0 < (0 : Int32)))) (J0 : (¬ ((65535 : Int32) < c0))) (H1 : (¬ (c1 < (0 : Int32)))) (J1 : (¬ ((65535 : Int32) < c1))) (H2 : (¬ (c2 < (0 : Int32)))) (J2 : (¬ ((65535 : Int32) < c2))) :
    Con l Z (⟨"com/example/anteriorita/anteriorita/PatentRecordIsLanguageCodePinLaw", "chars", "(ICCC)[C"⟩ : MethodName) method_4_code 4 (some (.array .char)) ({ frames := 0, cells := 1, slots := 0, locals := 0 } : Room) #[(.int (0 : Int32)), (.int c0), (.int c1), (.int c2)] h0 (Q_chars0 Z zC vF c0 c1 c2 h0) := by
  refine Con.intro pn1 ?_
  intro p e s m below meth c T0 X0 hx hby hml hown0 hnm hret hlk hZ0 e0
  have N0 := Fr.nil Z.heap.size
  refine castGo (g' := mkF m 0 #[.val (.int (0 : Int32)), .val (.int c0), .val (.int c1), .val (.int c2)] []) (by first | rfl | (simp [entryFrame, mkF, argsToLocals, Value.category]; done)) ?_
  show Go _ _ _ _ (T0.setTop (mkF m 0 #[.val (.int (0 : Int32)), .val (.int c0), .val (.int c1), .val (.int c2)] []))
  refine iL X0 hx (hb hby d_method_4_0) (q := 1) rfl rfl ?_
  refine ifN X0 hx (hb hby d_method_4_1) (q := 4) rfl (by decide) ?_
  refine cI X0 hx (hb hby d_method_4_4) (q := 5) rfl (z := (0 : Int32)) rfl ?_
  refine g_newA X0 hx hZ0 (aty := .char) (wd8 hw) (by decide) (n := 0) (by decide) (by decide) (by decide) (by decide) e0 (hb hby d_method_4_5) (q := 7) rfl ?_
  intro T40 h40 k40 b40 g40 X40 e40 E40 V40
  have Va40 : Arv Z h40 b40 k40 .char (0 : Int32) [] (.int 0) := V40
  have K41 : Keep h0 h40 [] := (Keep.refl h0 []).ext E40
  have gh42 : h0.size ≤ b40 := Nat.le_trans (Nat.le_refl _) (Nat.le_of_eq g40.symm)
  refine endP X40 hlk (fun h => by rw [hret] at h; cases h) (lastA X40 hx hret rfl rfl rfl (hb hby d_method_4_7)) ?_ (by decide) (by decide)
  rw [e40]
  exact ⟨b40, k40, rfl, N0, K41, gh42, Va40⟩
theorem d_method_4_8 : decode method_4_code 8 = .ok (.iload_n 0, 1) := by decide +kernel
theorem d_method_4_9 : decode method_4_code 9 = .ok (.iconst 1, 1) := by decide +kernel
theorem d_method_4_10 : decode method_4_code 10 = .ok (.if_icmp .ne 11, 3) := by decide +kernel
theorem d_method_4_13 : decode method_4_code 13 = .ok (.iconst 1, 1) := by decide +kernel
theorem d_method_4_14 : decode method_4_code 14 = .ok (.newarray .char, 2) := by decide +kernel
theorem d_method_4_16 : decode method_4_code 16 = .ok (.dup, 1) := by decide +kernel
theorem d_method_4_17 : decode method_4_code 17 = .ok (.iconst 0, 1) := by decide +kernel
theorem d_method_4_18 : decode method_4_code 18 = .ok (.iload_n 1, 1) := by decide +kernel
theorem d_method_4_19 : decode method_4_code 19 = .ok (.castore, 1) := by decide +kernel
theorem d_method_4_20 : decode method_4_code 20 = .ok (.areturn, 1) := by decide +kernel
def Q_chars1 (Z : State) (zC : Int32) (vF : Value) (c0 : Int32) (c1 : Int32) (c2 : Int32) (h0 : Heap) (v : Option Value) (h : Heap) (L : List Loc) : Prop := ∃ (a : Addr), ∃ (kc : ClassId), v = some (.ref a) ∧ Fr Z.heap.size L ∧ Keep h0 h [] ∧ h0.size ≤ a ∧ Arv Z h a kc .char (1 : Int32) [(.int c0)] (.int 0)
set_option maxRecDepth 65536 in
set_option maxHeartbeats 40000000 in
theorem rm_chars1 (l : Launch) (Z : State) (a0 : Array Value) (hw : ∀ d ∈ tables_1, d.before a0 Z = true) (zC : Int32) (SC : Sta Z Z.heap "java/lang/String" "COMPACT_STRINGS" "Z" (.int zC)) (PC : ¬ zC = (0 : Int32)) (vF : Value) (rF : vF = .null ∨ ∃ a, vF = .ref a) (SF : Sta Z Z.heap "jdk/internal/util/Preconditions" "SIOOBE_FORMATTER" "Ljava/util/function/BiFunction;" vF) (SA : Sta Z Z.heap "java/lang/StringUTF16" "$assertionsDisabled" "Z" (.int (1 : Int32))) (SH : Sta Z Z.heap "java/lang/StringUTF16" "HI_BYTE_SHIFT" "I" (.int (0 : Int32))) (SL : Sta Z Z.heap "java/lang/StringUTF16" "LO_BYTE_SHIFT" "I" (.int (8 : Int32))) (c0 : Int32) (c1 : Int32) (c2 : Int32) (h0 : Heap) (O0 : Old Z Z.heap.size h0) (H0 : (¬ (c0 < (0 : Int32)))) (J0 : (¬ ((65535 : Int32) < c0))) (H1 : (¬ (c1 < (0 : Int32)))) (J1 : (¬ ((65535 : Int32) < c1))) (H2 : (¬ (c2 < (0 : Int32)))) (J2 : (¬ ((65535 : Int32) < c2))) :
    Con l Z (⟨"com/example/anteriorita/anteriorita/PatentRecordIsLanguageCodePinLaw", "chars", "(ICCC)[C"⟩ : MethodName) method_4_code 4 (some (.array .char)) ({ frames := 0, cells := 1, slots := 1, locals := 0 } : Room) #[(.int (1 : Int32)), (.int c0), (.int c1), (.int c2)] h0 (Q_chars1 Z zC vF c0 c1 c2 h0) := by
  refine Con.intro pn1 ?_
  intro p e s m below meth c T0 X0 hx hby hml hown0 hnm hret hlk hZ0 e0
  have N0 := Fr.nil Z.heap.size
  refine castGo (g' := mkF m 0 #[.val (.int (1 : Int32)), .val (.int c0), .val (.int c1), .val (.int c2)] []) (by first | rfl | (simp [entryFrame, mkF, argsToLocals, Value.category]; done)) ?_
  show Go _ _ _ _ (T0.setTop (mkF m 0 #[.val (.int (1 : Int32)), .val (.int c0), .val (.int c1), .val (.int c2)] []))
  refine iL X0 hx (hb hby d_method_4_0) (q := 1) rfl rfl ?_
  refine ifY X0 hx (hb hby d_method_4_1) (q := 8) (by decide) (by decide) (by decide) ?_
  refine iL X0 hx (hb hby d_method_4_8) (q := 9) rfl rfl ?_
  refine cI X0 hx (hb hby d_method_4_9) (q := 10) rfl (z := (1 : Int32)) rfl ?_
  refine icN X0 hx (hb hby d_method_4_10) (q := 13) rfl (by decide) ?_
  refine cI X0 hx (hb hby d_method_4_13) (q := 14) rfl (z := (1 : Int32)) rfl ?_
  refine g_newA X0 hx hZ0 (aty := .char) (wd8 hw) (by decide) (n := 1) (by decide) (by decide) (by decide) (by decide) e0 (hb hby d_method_4_14) (q := 16) rfl ?_
  intro T43 h43 k43 b43 g43 X43 e43 E43 V43
  have Va43 : Arv Z h43 b43 k43 .char (1 : Int32) [(.int (0 : Int32))] (.int 0) := V43
  refine g_dup X43 hx (hb hby d_method_4_16) (q := 17) rfl rfl ?_
  refine cI X43 hx (hb hby d_method_4_17) (q := 18) rfl (z := (0 : Int32)) rfl ?_
  refine iL X43 hx (hb hby d_method_4_18) (q := 19) rfl rfl ?_
  have gz45 : Z.heap.size ≤ b43 := Nat.le_trans O0.2.1 (Nat.le_of_eq g43.symm)
  refine g_stC X43 hx hZ0 Va43 (i := 0) (by decide) (by decide) (by decide) (Nat.le_of_ble_eq_true rfl) (y := c0) (nar_of H0 J0) e43 (hb hby d_method_4_19) (q := 20) rfl ?_
  intro T44 h44 X44 e44 W44 V44
  have N44 := Fr.snoc X44 N0 gz45
  have Va44 : Arv Z h44 b43 k43 .char (1 : Int32) [(.int c0)] (.int 0) := V44
  have K46 : Keep h0 h43 [] := (Keep.refl h0 []).ext E43
  have gh47 : h0.size ≤ b43 := Nat.le_trans (Nat.le_refl _) (Nat.le_of_eq g43.symm)
  have K48 : Keep h0 h44 [] := K46.wr W44 (Or.inr gh47)
  refine endP X44 hlk (fun h => by rw [hret] at h; cases h) (lastA X44 hx hret rfl rfl rfl (hb hby d_method_4_20)) ?_ (by decide) (by decide)
  rw [e44]
  exact ⟨b43, k43, rfl, N44, K48, gh47, Va44⟩
theorem d_method_4_21 : decode method_4_code 21 = .ok (.iload_n 0, 1) := by decide +kernel
theorem d_method_4_22 : decode method_4_code 22 = .ok (.iconst 2, 1) := by decide +kernel
theorem d_method_4_23 : decode method_4_code 23 = .ok (.if_icmp .ne 15, 3) := by decide +kernel
theorem d_method_4_26 : decode method_4_code 26 = .ok (.iconst 2, 1) := by decide +kernel
theorem d_method_4_27 : decode method_4_code 27 = .ok (.newarray .char, 2) := by decide +kernel
theorem d_method_4_29 : decode method_4_code 29 = .ok (.dup, 1) := by decide +kernel
theorem d_method_4_30 : decode method_4_code 30 = .ok (.iconst 0, 1) := by decide +kernel
theorem d_method_4_31 : decode method_4_code 31 = .ok (.iload_n 1, 1) := by decide +kernel
theorem d_method_4_32 : decode method_4_code 32 = .ok (.castore, 1) := by decide +kernel
theorem d_method_4_33 : decode method_4_code 33 = .ok (.dup, 1) := by decide +kernel
theorem d_method_4_34 : decode method_4_code 34 = .ok (.iconst 1, 1) := by decide +kernel
theorem d_method_4_35 : decode method_4_code 35 = .ok (.iload_n 2, 1) := by decide +kernel
theorem d_method_4_36 : decode method_4_code 36 = .ok (.castore, 1) := by decide +kernel
theorem d_method_4_37 : decode method_4_code 37 = .ok (.areturn, 1) := by decide +kernel
def Q_chars2 (Z : State) (zC : Int32) (vF : Value) (c0 : Int32) (c1 : Int32) (c2 : Int32) (h0 : Heap) (v : Option Value) (h : Heap) (L : List Loc) : Prop := ∃ (a : Addr), ∃ (kc : ClassId), v = some (.ref a) ∧ Fr Z.heap.size L ∧ Keep h0 h [] ∧ h0.size ≤ a ∧ Arv Z h a kc .char (2 : Int32) [(.int c0), (.int c1)] (.int 0)
set_option maxRecDepth 65536 in
set_option maxHeartbeats 40000000 in
theorem rm_chars2 (l : Launch) (Z : State) (a0 : Array Value) (hw : ∀ d ∈ tables_1, d.before a0 Z = true) (zC : Int32) (SC : Sta Z Z.heap "java/lang/String" "COMPACT_STRINGS" "Z" (.int zC)) (PC : ¬ zC = (0 : Int32)) (vF : Value) (rF : vF = .null ∨ ∃ a, vF = .ref a) (SF : Sta Z Z.heap "jdk/internal/util/Preconditions" "SIOOBE_FORMATTER" "Ljava/util/function/BiFunction;" vF) (SA : Sta Z Z.heap "java/lang/StringUTF16" "$assertionsDisabled" "Z" (.int (1 : Int32))) (SH : Sta Z Z.heap "java/lang/StringUTF16" "HI_BYTE_SHIFT" "I" (.int (0 : Int32))) (SL : Sta Z Z.heap "java/lang/StringUTF16" "LO_BYTE_SHIFT" "I" (.int (8 : Int32))) (c0 : Int32) (c1 : Int32) (c2 : Int32) (h0 : Heap) (O0 : Old Z Z.heap.size h0) (H0 : (¬ (c0 < (0 : Int32)))) (J0 : (¬ ((65535 : Int32) < c0))) (H1 : (¬ (c1 < (0 : Int32)))) (J1 : (¬ ((65535 : Int32) < c1))) (H2 : (¬ (c2 < (0 : Int32)))) (J2 : (¬ ((65535 : Int32) < c2))) :
    Con l Z (⟨"com/example/anteriorita/anteriorita/PatentRecordIsLanguageCodePinLaw", "chars", "(ICCC)[C"⟩ : MethodName) method_4_code 4 (some (.array .char)) ({ frames := 0, cells := 1, slots := 2, locals := 0 } : Room) #[(.int (2 : Int32)), (.int c0), (.int c1), (.int c2)] h0 (Q_chars2 Z zC vF c0 c1 c2 h0) := by
  refine Con.intro pn1 ?_
  intro p e s m below meth c T0 X0 hx hby hml hown0 hnm hret hlk hZ0 e0
  have N0 := Fr.nil Z.heap.size
  refine castGo (g' := mkF m 0 #[.val (.int (2 : Int32)), .val (.int c0), .val (.int c1), .val (.int c2)] []) (by first | rfl | (simp [entryFrame, mkF, argsToLocals, Value.category]; done)) ?_
  show Go _ _ _ _ (T0.setTop (mkF m 0 #[.val (.int (2 : Int32)), .val (.int c0), .val (.int c1), .val (.int c2)] []))
  refine iL X0 hx (hb hby d_method_4_0) (q := 1) rfl rfl ?_
  refine ifY X0 hx (hb hby d_method_4_1) (q := 8) (by decide) (by decide) (by decide) ?_
  refine iL X0 hx (hb hby d_method_4_8) (q := 9) rfl rfl ?_
  refine cI X0 hx (hb hby d_method_4_9) (q := 10) rfl (z := (1 : Int32)) rfl ?_
  refine icY X0 hx (hb hby d_method_4_10) (q := 21) (by decide) (by decide) (by decide) ?_
  refine iL X0 hx (hb hby d_method_4_21) (q := 22) rfl rfl ?_
  refine cI X0 hx (hb hby d_method_4_22) (q := 23) rfl (z := (2 : Int32)) rfl ?_
  refine icN X0 hx (hb hby d_method_4_23) (q := 26) rfl (by decide) ?_
  refine cI X0 hx (hb hby d_method_4_26) (q := 27) rfl (z := (2 : Int32)) rfl ?_
  refine g_newA X0 hx hZ0 (aty := .char) (wd8 hw) (by decide) (n := 2) (by decide) (by decide) (by decide) (by decide) e0 (hb hby d_method_4_27) (q := 29) rfl ?_
  intro T49 h49 k49 b49 g49 X49 e49 E49 V49
  have Va49 : Arv Z h49 b49 k49 .char (2 : Int32) [(.int (0 : Int32)), (.int (0 : Int32))] (.int 0) := V49
  refine g_dup X49 hx (hb hby d_method_4_29) (q := 30) rfl rfl ?_
  refine cI X49 hx (hb hby d_method_4_30) (q := 31) rfl (z := (0 : Int32)) rfl ?_
  refine iL X49 hx (hb hby d_method_4_31) (q := 32) rfl rfl ?_
  have gz51 : Z.heap.size ≤ b49 := Nat.le_trans O0.2.1 (Nat.le_of_eq g49.symm)
  refine g_stC X49 hx hZ0 Va49 (i := 0) (by decide) (by decide) (by decide) (Nat.le_of_ble_eq_true rfl) (y := c0) (nar_of H0 J0) e49 (hb hby d_method_4_32) (q := 33) rfl ?_
  intro T50 h50 X50 e50 W50 V50
  have N50 := Fr.snoc X50 N0 gz51
  have Va50 : Arv Z h50 b49 k49 .char (2 : Int32) [(.int c0), (.int (0 : Int32))] (.int 0) := V50
  refine g_dup X50 hx (hb hby d_method_4_33) (q := 34) rfl rfl ?_
  refine cI X50 hx (hb hby d_method_4_34) (q := 35) rfl (z := (1 : Int32)) rfl ?_
  refine iL X50 hx (hb hby d_method_4_35) (q := 36) rfl rfl ?_
  refine g_stC X50 hx hZ0 Va50 (i := 1) (by decide) (by decide) (by decide) (Nat.le_of_ble_eq_true rfl) (y := c1) (nar_of H1 J1) e50 (hb hby d_method_4_36) (q := 37) rfl ?_
  intro T52 h52 X52 e52 W52 V52
  have N52 := Fr.snoc X52 N50 gz51
  have Va52 : Arv Z h52 b49 k49 .char (2 : Int32) [(.int c0), (.int c1)] (.int 0) := V52
  have K53 : Keep h0 h49 [] := (Keep.refl h0 []).ext E49
  have gh54 : h0.size ≤ b49 := Nat.le_trans (Nat.le_refl _) (Nat.le_of_eq g49.symm)
  have K55 : Keep h0 h50 [] := K53.wr W50 (Or.inr gh54)
  have K56 : Keep h0 h52 [] := K55.wr W52 (Or.inr gh54)
  refine endP X52 hlk (fun h => by rw [hret] at h; cases h) (lastA X52 hx hret rfl rfl rfl (hb hby d_method_4_37)) ?_ (by decide) (by decide)
  rw [e52]
  exact ⟨b49, k49, rfl, N52, K56, gh54, Va52⟩
theorem d_method_4_38 : decode method_4_code 38 = .ok (.iconst 3, 1) := by decide +kernel
theorem d_method_4_39 : decode method_4_code 39 = .ok (.newarray .char, 2) := by decide +kernel
theorem d_method_4_41 : decode method_4_code 41 = .ok (.dup, 1) := by decide +kernel
theorem d_method_4_42 : decode method_4_code 42 = .ok (.iconst 0, 1) := by decide +kernel
theorem d_method_4_43 : decode method_4_code 43 = .ok (.iload_n 1, 1) := by decide +kernel
theorem d_method_4_44 : decode method_4_code 44 = .ok (.castore, 1) := by decide +kernel
theorem d_method_4_45 : decode method_4_code 45 = .ok (.dup, 1) := by decide +kernel
theorem d_method_4_46 : decode method_4_code 46 = .ok (.iconst 1, 1) := by decide +kernel
theorem d_method_4_47 : decode method_4_code 47 = .ok (.iload_n 2, 1) := by decide +kernel
theorem d_method_4_48 : decode method_4_code 48 = .ok (.castore, 1) := by decide +kernel
theorem d_method_4_49 : decode method_4_code 49 = .ok (.dup, 1) := by decide +kernel
theorem d_method_4_50 : decode method_4_code 50 = .ok (.iconst 2, 1) := by decide +kernel
theorem d_method_4_51 : decode method_4_code 51 = .ok (.iload_n 3, 1) := by decide +kernel
theorem d_method_4_52 : decode method_4_code 52 = .ok (.castore, 1) := by decide +kernel
theorem d_method_4_53 : decode method_4_code 53 = .ok (.areturn, 1) := by decide +kernel
def Q_chars3 (Z : State) (zC : Int32) (vF : Value) (c0 : Int32) (c1 : Int32) (c2 : Int32) (h0 : Heap) (v : Option Value) (h : Heap) (L : List Loc) : Prop := ∃ (a : Addr), ∃ (kc : ClassId), v = some (.ref a) ∧ Fr Z.heap.size L ∧ Keep h0 h [] ∧ h0.size ≤ a ∧ Arv Z h a kc .char (3 : Int32) [(.int c0), (.int c1), (.int c2)] (.int 0)
set_option maxRecDepth 65536 in
set_option maxHeartbeats 40000000 in
theorem rm_chars3 (l : Launch) (Z : State) (a0 : Array Value) (hw : ∀ d ∈ tables_1, d.before a0 Z = true) (zC : Int32) (SC : Sta Z Z.heap "java/lang/String" "COMPACT_STRINGS" "Z" (.int zC)) (PC : ¬ zC = (0 : Int32)) (vF : Value) (rF : vF = .null ∨ ∃ a, vF = .ref a) (SF : Sta Z Z.heap "jdk/internal/util/Preconditions" "SIOOBE_FORMATTER" "Ljava/util/function/BiFunction;" vF) (SA : Sta Z Z.heap "java/lang/StringUTF16" "$assertionsDisabled" "Z" (.int (1 : Int32))) (SH : Sta Z Z.heap "java/lang/StringUTF16" "HI_BYTE_SHIFT" "I" (.int (0 : Int32))) (SL : Sta Z Z.heap "java/lang/StringUTF16" "LO_BYTE_SHIFT" "I" (.int (8 : Int32))) (c0 : Int32) (c1 : Int32) (c2 : Int32) (h0 : Heap) (O0 : Old Z Z.heap.size h0) (H0 : (¬ (c0 < (0 : Int32)))) (J0 : (¬ ((65535 : Int32) < c0))) (H1 : (¬ (c1 < (0 : Int32)))) (J1 : (¬ ((65535 : Int32) < c1))) (H2 : (¬ (c2 < (0 : Int32)))) (J2 : (¬ ((65535 : Int32) < c2))) :
    Con l Z (⟨"com/example/anteriorita/anteriorita/PatentRecordIsLanguageCodePinLaw", "chars", "(ICCC)[C"⟩ : MethodName) method_4_code 4 (some (.array .char)) ({ frames := 0, cells := 1, slots := 3, locals := 0 } : Room) #[(.int (3 : Int32)), (.int c0), (.int c1), (.int c2)] h0 (Q_chars3 Z zC vF c0 c1 c2 h0) := by
  refine Con.intro pn1 ?_
  intro p e s m below meth c T0 X0 hx hby hml hown0 hnm hret hlk hZ0 e0
  have N0 := Fr.nil Z.heap.size
  refine castGo (g' := mkF m 0 #[.val (.int (3 : Int32)), .val (.int c0), .val (.int c1), .val (.int c2)] []) (by first | rfl | (simp [entryFrame, mkF, argsToLocals, Value.category]; done)) ?_
  show Go _ _ _ _ (T0.setTop (mkF m 0 #[.val (.int (3 : Int32)), .val (.int c0), .val (.int c1), .val (.int c2)] []))
  refine iL X0 hx (hb hby d_method_4_0) (q := 1) rfl rfl ?_
  refine ifY X0 hx (hb hby d_method_4_1) (q := 8) (by decide) (by decide) (by decide) ?_
  refine iL X0 hx (hb hby d_method_4_8) (q := 9) rfl rfl ?_
  refine cI X0 hx (hb hby d_method_4_9) (q := 10) rfl (z := (1 : Int32)) rfl ?_
  refine icY X0 hx (hb hby d_method_4_10) (q := 21) (by decide) (by decide) (by decide) ?_
  refine iL X0 hx (hb hby d_method_4_21) (q := 22) rfl rfl ?_
  refine cI X0 hx (hb hby d_method_4_22) (q := 23) rfl (z := (2 : Int32)) rfl ?_
  refine icY X0 hx (hb hby d_method_4_23) (q := 38) (by decide) (by decide) (by decide) ?_
  refine cI X0 hx (hb hby d_method_4_38) (q := 39) rfl (z := (3 : Int32)) rfl ?_
  refine g_newA X0 hx hZ0 (aty := .char) (wd8 hw) (by decide) (n := 3) (by decide) (by decide) (by decide) (by decide) e0 (hb hby d_method_4_39) (q := 41) rfl ?_
  intro T57 h57 k57 b57 g57 X57 e57 E57 V57
  have Va57 : Arv Z h57 b57 k57 .char (3 : Int32) [(.int (0 : Int32)), (.int (0 : Int32)), (.int (0 : Int32))] (.int 0) := V57
  refine g_dup X57 hx (hb hby d_method_4_41) (q := 42) rfl rfl ?_
  refine cI X57 hx (hb hby d_method_4_42) (q := 43) rfl (z := (0 : Int32)) rfl ?_
  refine iL X57 hx (hb hby d_method_4_43) (q := 44) rfl rfl ?_
  have gz59 : Z.heap.size ≤ b57 := Nat.le_trans O0.2.1 (Nat.le_of_eq g57.symm)
  refine g_stC X57 hx hZ0 Va57 (i := 0) (by decide) (by decide) (by decide) (Nat.le_of_ble_eq_true rfl) (y := c0) (nar_of H0 J0) e57 (hb hby d_method_4_44) (q := 45) rfl ?_
  intro T58 h58 X58 e58 W58 V58
  have N58 := Fr.snoc X58 N0 gz59
  have Va58 : Arv Z h58 b57 k57 .char (3 : Int32) [(.int c0), (.int (0 : Int32)), (.int (0 : Int32))] (.int 0) := V58
  refine g_dup X58 hx (hb hby d_method_4_45) (q := 46) rfl rfl ?_
  refine cI X58 hx (hb hby d_method_4_46) (q := 47) rfl (z := (1 : Int32)) rfl ?_
  refine iL X58 hx (hb hby d_method_4_47) (q := 48) rfl rfl ?_
  refine g_stC X58 hx hZ0 Va58 (i := 1) (by decide) (by decide) (by decide) (Nat.le_of_ble_eq_true rfl) (y := c1) (nar_of H1 J1) e58 (hb hby d_method_4_48) (q := 49) rfl ?_
  intro T60 h60 X60 e60 W60 V60
  have N60 := Fr.snoc X60 N58 gz59
  have Va60 : Arv Z h60 b57 k57 .char (3 : Int32) [(.int c0), (.int c1), (.int (0 : Int32))] (.int 0) := V60
  refine g_dup X60 hx (hb hby d_method_4_49) (q := 50) rfl rfl ?_
  refine cI X60 hx (hb hby d_method_4_50) (q := 51) rfl (z := (2 : Int32)) rfl ?_
  refine iL X60 hx (hb hby d_method_4_51) (q := 52) rfl rfl ?_
  refine g_stC X60 hx hZ0 Va60 (i := 2) (by decide) (by decide) (by decide) (Nat.le_of_ble_eq_true rfl) (y := c2) (nar_of H2 J2) e60 (hb hby d_method_4_52) (q := 53) rfl ?_
  intro T61 h61 X61 e61 W61 V61
  have N61 := Fr.snoc X61 N60 gz59
  have Va61 : Arv Z h61 b57 k57 .char (3 : Int32) [(.int c0), (.int c1), (.int c2)] (.int 0) := V61
  have K62 : Keep h0 h57 [] := (Keep.refl h0 []).ext E57
  have gh63 : h0.size ≤ b57 := Nat.le_trans (Nat.le_refl _) (Nat.le_of_eq g57.symm)
  have K64 : Keep h0 h58 [] := K62.wr W58 (Or.inr gh63)
  have K65 : Keep h0 h60 [] := K64.wr W60 (Or.inr gh63)
  have K66 : Keep h0 h61 [] := K65.wr W61 (Or.inr gh63)
  refine endP X61 hlk (fun h => by rw [hret] at h; cases h) (lastA X61 hx hret rfl rfl rfl (hb hby d_method_4_53)) ?_ (by decide) (by decide)
  rw [e61]
  exact ⟨b57, k57, rfl, N61, K66, gh63, Va61⟩
theorem d_jdk_52m3_0 : decode jdk_52_method_3_code 0 = .ok (.iload_n 0, 1) := by decide +kernel
theorem d_jdk_52m3_1 : decode jdk_52_method_3_code 1 = .ok (.ifCond .ge 11, 3) := by decide +kernel
theorem d_jdk_52m3_12 : decode jdk_52_method_3_code 12 = .ok (.iload_n 0, 1) := by decide +kernel
theorem d_jdk_52m3_13 : decode jdk_52_method_3_code 13 = .ok (.ldc 20, 2) := by decide +kernel
theorem wd61 {a0 : Array Value} {Z : State} (hw : ∀ d ∈ tables_1, d.before a0 Z = true) : ((Jvm.Cond.constant "java/lang/StringUTF16" (20 : Nat) (1073741823 : Int32)) : Jvm.Cond).before a0 Z = true := hw _ (List.mem_of_getElem? (i := 61) rfl)
theorem d_jdk_52m3_15 : decode jdk_52_method_3_code 15 = .ok (.if_icmp .lt 40, 3) := by decide +kernel
theorem d_jdk_52m3_55 : decode jdk_52_method_3_code 55 = .ok (.iload_n 0, 1) := by decide +kernel
theorem d_jdk_52m3_56 : decode jdk_52_method_3_code 56 = .ok (.iconst 1, 1) := by decide +kernel
theorem d_jdk_52m3_57 : decode jdk_52_method_3_code 57 = .ok (.ishl, 1) := by decide +kernel
theorem d_jdk_52m3_58 : decode jdk_52_method_3_code 58 = .ok (.ireturn, 1) := by decide +kernel
def Q_nbl1 (Z : State) (zC : Int32) (vF : Value) (h0 : Heap) (v : Option Value) (h : Heap) (L : List Loc) : Prop := v = some (.int (2 : Int32)) ∧ Fr Z.heap.size L ∧ h = h0
theorem pn2 : plainName "java/lang/StringUTF16" = true := by first | (simp [plainName, overriddenIn]; done) | decide +kernel
set_option maxRecDepth 65536 in
set_option maxHeartbeats 40000000 in
theorem rm_nbl1 (l : Launch) (Z : State) (a0 : Array Value) (hw : ∀ d ∈ tables_1, d.before a0 Z = true) (zC : Int32) (SC : Sta Z Z.heap "java/lang/String" "COMPACT_STRINGS" "Z" (.int zC)) (PC : ¬ zC = (0 : Int32)) (vF : Value) (rF : vF = .null ∨ ∃ a, vF = .ref a) (SF : Sta Z Z.heap "jdk/internal/util/Preconditions" "SIOOBE_FORMATTER" "Ljava/util/function/BiFunction;" vF) (SA : Sta Z Z.heap "java/lang/StringUTF16" "$assertionsDisabled" "Z" (.int (1 : Int32))) (SH : Sta Z Z.heap "java/lang/StringUTF16" "HI_BYTE_SHIFT" "I" (.int (0 : Int32))) (SL : Sta Z Z.heap "java/lang/StringUTF16" "LO_BYTE_SHIFT" "I" (.int (8 : Int32)))  (h0 : Heap) (O0 : Old Z Z.heap.size h0)  :
    Con l Z (⟨"java/lang/StringUTF16", "newBytesLength", "(I)I"⟩ : MethodName) jdk_52_method_3_code 1 (some .int) ({ frames := 0, cells := 0, slots := 0, locals := 0 } : Room) #[(.int (1 : Int32))] h0 (Q_nbl1 Z zC vF h0) := by
  refine Con.intro pn2 ?_
  intro p e s m below meth c T0 X0 hx hby hml hown0 hnm hret hlk hZ0 e0
  have N0 := Fr.nil Z.heap.size
  refine castGo (g' := mkF m 0 #[.val (.int (1 : Int32))] []) (by first | rfl | (simp [entryFrame, mkF, argsToLocals, Value.category]; done)) ?_
  show Go _ _ _ _ (T0.setTop (mkF m 0 #[.val (.int (1 : Int32))] []))
  refine iL X0 hx (hb hby d_jdk_52m3_0) (q := 1) rfl rfl ?_
  refine ifY X0 hx (hb hby d_jdk_52m3_1) (q := 12) (by decide) (by decide) (by decide) ?_
  refine iL X0 hx (hb hby d_jdk_52m3_12) (q := 13) rfl rfl ?_
  refine g_ldcI X0 hx (a1 := #[]) hZ0 hown0 (wd61 hw) (hb hby d_jdk_52m3_13) (q := 15) rfl ?_
  refine icY X0 hx (hb hby d_jdk_52m3_15) (q := 55) (by decide) (by decide) (by decide) ?_
  refine iL X0 hx (hb hby d_jdk_52m3_55) (q := 56) rfl rfl ?_
  refine cI X0 hx (hb hby d_jdk_52m3_56) (q := 57) rfl (z := (1 : Int32)) rfl ?_
  refine g_ishl X0 hx (hb hby d_jdk_52m3_57) (q := 58) rfl (z := (2 : Int32)) (by decide) ?_
  refine endP X0 hlk (fun h => by rw [hret] at h; cases h) (lastI X0 hx hret (hb hby d_jdk_52m3_58)) ?_ (by decide) (by decide)
  rw [e0]
  exact ⟨rfl, N0, rfl⟩
theorem d_jdk_52m2_0 : decode jdk_52_method_2_code 0 = .ok (.iload_n 0, 1) := by decide +kernel
theorem d_jdk_52m2_1 : decode jdk_52_method_2_code 1 = .ok (.invokestatic 11, 3) := by decide +kernel
theorem wd60 {a0 : Array Value} {Z : State} (hw : ∀ d ∈ tables_1, d.before a0 Z = true) : ((Jvm.Cond.code ({ cls := "java/lang/StringUTF16", name := "newBytesLength", desc := "(I)I" } : Jvm.MethodName) jdk_52_method_3_code (1 : Nat) (Option.some Jvm.ClassFile.FieldType.int)) : Jvm.Cond).before a0 Z = true := hw _ (List.mem_of_getElem? (i := 60) rfl)
theorem wd44 {a0 : Array Value} {Z : State} (hw : ∀ d ∈ tables_1, d.before a0 Z = true) : ((Jvm.Cond.initialized "java/lang/StringUTF16") : Jvm.Cond).before a0 Z = true := hw _ (List.mem_of_getElem? (i := 44) rfl)
theorem pd1 : parseMethodDescriptor "(I)I" = some ⟨[.int], some .int⟩ := by decide +kernel
theorem wd58 {a0 : Array Value} {Z : State} (hw : ∀ d ∈ tables_1, d.before a0 Z = true) : ((Jvm.Cond.methodLink "java/lang/StringUTF16" (11 : Nat) ({ cls := "java/lang/StringUTF16", name := "newBytesLength", desc := "(I)I" } : Jvm.MethodName)) : Jvm.Cond).before a0 Z = true := hw _ (List.mem_of_getElem? (i := 58) rfl)
theorem wd59 {a0 : Array Value} {Z : State} (hw : ∀ d ∈ tables_1, d.before a0 Z = true) : ((Jvm.Cond.static ({ cls := "java/lang/StringUTF16", name := "newBytesLength", desc := "(I)I" } : Jvm.MethodName)) : Jvm.Cond).before a0 Z = true := hw _ (List.mem_of_getElem? (i := 59) rfl)
theorem d_jdk_52m2_4 : decode jdk_52_method_2_code 4 = .ok (.newarray .byte, 2) := by decide +kernel
theorem wd20 {a0 : Array Value} {Z : State} (hw : ∀ d ∈ tables_1, d.before a0 Z = true) : ((Jvm.Cond.arrayClass Jvm.ClassFile.FieldType.byte) : Jvm.Cond).before a0 Z = true := hw _ (List.mem_of_getElem? (i := 20) rfl)
theorem d_jdk_52m2_6 : decode jdk_52_method_2_code 6 = .ok (.areturn, 1) := by decide +kernel
def Q_nbf1 (Z : State) (zC : Int32) (vF : Value) (h0 : Heap) (v : Option Value) (h : Heap) (L : List Loc) : Prop := ∃ (a : Addr), ∃ (kb : ClassId), v = some (.ref a) ∧ Fr Z.heap.size L ∧ Keep h0 h [] ∧ h0.size ≤ a ∧ Arv Z h a kb .byte (2 : Int32) [(.int (0 : Int32)), (.int (0 : Int32))] (.int 0)
set_option maxRecDepth 65536 in
set_option maxHeartbeats 40000000 in
theorem rm_nbf1 (l : Launch) (Z : State) (a0 : Array Value) (hw : ∀ d ∈ tables_1, d.before a0 Z = true) (zC : Int32) (SC : Sta Z Z.heap "java/lang/String" "COMPACT_STRINGS" "Z" (.int zC)) (PC : ¬ zC = (0 : Int32)) (vF : Value) (rF : vF = .null ∨ ∃ a, vF = .ref a) (SF : Sta Z Z.heap "jdk/internal/util/Preconditions" "SIOOBE_FORMATTER" "Ljava/util/function/BiFunction;" vF) (SA : Sta Z Z.heap "java/lang/StringUTF16" "$assertionsDisabled" "Z" (.int (1 : Int32))) (SH : Sta Z Z.heap "java/lang/StringUTF16" "HI_BYTE_SHIFT" "I" (.int (0 : Int32))) (SL : Sta Z Z.heap "java/lang/StringUTF16" "LO_BYTE_SHIFT" "I" (.int (8 : Int32)))  (h0 : Heap) (O0 : Old Z Z.heap.size h0)  :
    Con l Z (⟨"java/lang/StringUTF16", "newBytesFor", "(I)[B"⟩ : MethodName) jdk_52_method_2_code 1 (some (.array .byte)) ({ frames := 1, cells := 1, slots := 2, locals := 12 } : Room) #[(.int (1 : Int32))] h0 (Q_nbf1 Z zC vF h0) := by
  refine Con.intro pn2 ?_
  intro p e s m below meth c T0 X0 hx hby hml hown0 hnm hret hlk hZ0 e0
  have N0 := Fr.nil Z.heap.size
  refine castGo (g' := mkF m 0 #[.val (.int (1 : Int32))] []) (by first | rfl | (simp [entryFrame, mkF, argsToLocals, Value.category]; done)) ?_
  show Go _ _ _ _ (T0.setTop (mkF m 0 #[.val (.int (1 : Int32))] []))
  refine iL X0 hx (hb hby d_jdk_52m2_0) (q := 1) rfl rfl ?_
  refine g_st X0 hx hZ0 hown0 (wd58 hw) (wd59 hw) (wd44 hw) (wd60 hw) (by decide) e0 (Con.back (W := 0) (rm_nbl1 l Z a0 hw zC SC PC vF rF SF SA SH SL  h0 O0 ) hZ0 (wd60 hw) (wd44 hw) (by decide) (by decide)) (by rw [hml]; rfl) (lenOf pd1 rfl) rfl (Nat.le_of_eq rfl) (hb hby d_jdk_52m2_1) (q := 4) rfl (by decide) (by decide) ?_
  intro v67 T67 L67 X67 Q67
  obtain ⟨rfl, Nq67, e67⟩ := Q67
  have N67 := Fr.app N0 Nq67
  show Go _ _ _ _ (T67.setTop (mkF m 4 #[.val (.int (1 : Int32))] [(.int (2 : Int32))]))
  refine g_newA X67 hx hZ0 (aty := .byte) (wd20 hw) (by decide) (n := 2) (by decide) (by decide) (by decide) (by decide) e67 (hb hby d_jdk_52m2_4) (q := 6) rfl ?_
  intro T68 h68 k68 b68 g68 X68 e68 E68 V68
  have Va68 : Arv Z h68 b68 k68 .byte (2 : Int32) [(.int (0 : Int32)), (.int (0 : Int32))] (.int 0) := V68
  have K69 : Keep h0 h68 [] := (Keep.refl h0 []).ext E68
  have gh70 : h0.size ≤ b68 := Nat.le_trans (Nat.le_refl _) (Nat.le_of_eq g68.symm)
  refine endP X68 hlk (fun h => by rw [hret] at h; cases h) (lastA X68 hx hret rfl rfl rfl (hb hby d_jdk_52m2_6)) ?_ (by decide) (by decide)
  rw [e68]
  exact ⟨b68, k68, rfl, N67, K69, gh70, Va68⟩
def Q_nbl2 (Z : State) (zC : Int32) (vF : Value) (h0 : Heap) (v : Option Value) (h : Heap) (L : List Loc) : Prop := v = some (.int (4 : Int32)) ∧ Fr Z.heap.size L ∧ h = h0
set_option maxRecDepth 65536 in
set_option maxHeartbeats 40000000 in
theorem rm_nbl2 (l : Launch) (Z : State) (a0 : Array Value) (hw : ∀ d ∈ tables_1, d.before a0 Z = true) (zC : Int32) (SC : Sta Z Z.heap "java/lang/String" "COMPACT_STRINGS" "Z" (.int zC)) (PC : ¬ zC = (0 : Int32)) (vF : Value) (rF : vF = .null ∨ ∃ a, vF = .ref a) (SF : Sta Z Z.heap "jdk/internal/util/Preconditions" "SIOOBE_FORMATTER" "Ljava/util/function/BiFunction;" vF) (SA : Sta Z Z.heap "java/lang/StringUTF16" "$assertionsDisabled" "Z" (.int (1 : Int32))) (SH : Sta Z Z.heap "java/lang/StringUTF16" "HI_BYTE_SHIFT" "I" (.int (0 : Int32))) (SL : Sta Z Z.heap "java/lang/StringUTF16" "LO_BYTE_SHIFT" "I" (.int (8 : Int32)))  (h0 : Heap) (O0 : Old Z Z.heap.size h0)  :
    Con l Z (⟨"java/lang/StringUTF16", "newBytesLength", "(I)I"⟩ : MethodName) jdk_52_method_3_code 1 (some .int) ({ frames := 0, cells := 0, slots := 0, locals := 0 } : Room) #[(.int (2 : Int32))] h0 (Q_nbl2 Z zC vF h0) := by
  refine Con.intro pn2 ?_
  intro p e s m below meth c T0 X0 hx hby hml hown0 hnm hret hlk hZ0 e0
  have N0 := Fr.nil Z.heap.size
  refine castGo (g' := mkF m 0 #[.val (.int (2 : Int32))] []) (by first | rfl | (simp [entryFrame, mkF, argsToLocals, Value.category]; done)) ?_
  show Go _ _ _ _ (T0.setTop (mkF m 0 #[.val (.int (2 : Int32))] []))
  refine iL X0 hx (hb hby d_jdk_52m3_0) (q := 1) rfl rfl ?_
  refine ifY X0 hx (hb hby d_jdk_52m3_1) (q := 12) (by decide) (by decide) (by decide) ?_
  refine iL X0 hx (hb hby d_jdk_52m3_12) (q := 13) rfl rfl ?_
  refine g_ldcI X0 hx (a1 := #[]) hZ0 hown0 (wd61 hw) (hb hby d_jdk_52m3_13) (q := 15) rfl ?_
  refine icY X0 hx (hb hby d_jdk_52m3_15) (q := 55) (by decide) (by decide) (by decide) ?_
  refine iL X0 hx (hb hby d_jdk_52m3_55) (q := 56) rfl rfl ?_
  refine cI X0 hx (hb hby d_jdk_52m3_56) (q := 57) rfl (z := (1 : Int32)) rfl ?_
  refine g_ishl X0 hx (hb hby d_jdk_52m3_57) (q := 58) rfl (z := (4 : Int32)) (by decide) ?_
  refine endP X0 hlk (fun h => by rw [hret] at h; cases h) (lastI X0 hx hret (hb hby d_jdk_52m3_58)) ?_ (by decide) (by decide)
  rw [e0]
  exact ⟨rfl, N0, rfl⟩
def Q_nbf2 (Z : State) (zC : Int32) (vF : Value) (h0 : Heap) (v : Option Value) (h : Heap) (L : List Loc) : Prop := ∃ (a : Addr), ∃ (kb : ClassId), v = some (.ref a) ∧ Fr Z.heap.size L ∧ Keep h0 h [] ∧ h0.size ≤ a ∧ Arv Z h a kb .byte (4 : Int32) [(.int (0 : Int32)), (.int (0 : Int32)), (.int (0 : Int32)), (.int (0 : Int32))] (.int 0)
set_option maxRecDepth 65536 in
set_option maxHeartbeats 40000000 in
theorem rm_nbf2 (l : Launch) (Z : State) (a0 : Array Value) (hw : ∀ d ∈ tables_1, d.before a0 Z = true) (zC : Int32) (SC : Sta Z Z.heap "java/lang/String" "COMPACT_STRINGS" "Z" (.int zC)) (PC : ¬ zC = (0 : Int32)) (vF : Value) (rF : vF = .null ∨ ∃ a, vF = .ref a) (SF : Sta Z Z.heap "jdk/internal/util/Preconditions" "SIOOBE_FORMATTER" "Ljava/util/function/BiFunction;" vF) (SA : Sta Z Z.heap "java/lang/StringUTF16" "$assertionsDisabled" "Z" (.int (1 : Int32))) (SH : Sta Z Z.heap "java/lang/StringUTF16" "HI_BYTE_SHIFT" "I" (.int (0 : Int32))) (SL : Sta Z Z.heap "java/lang/StringUTF16" "LO_BYTE_SHIFT" "I" (.int (8 : Int32)))  (h0 : Heap) (O0 : Old Z Z.heap.size h0)  :
    Con l Z (⟨"java/lang/StringUTF16", "newBytesFor", "(I)[B"⟩ : MethodName) jdk_52_method_2_code 1 (some (.array .byte)) ({ frames := 1, cells := 1, slots := 4, locals := 12 } : Room) #[(.int (2 : Int32))] h0 (Q_nbf2 Z zC vF h0) := by
  refine Con.intro pn2 ?_
  intro p e s m below meth c T0 X0 hx hby hml hown0 hnm hret hlk hZ0 e0
  have N0 := Fr.nil Z.heap.size
  refine castGo (g' := mkF m 0 #[.val (.int (2 : Int32))] []) (by first | rfl | (simp [entryFrame, mkF, argsToLocals, Value.category]; done)) ?_
  show Go _ _ _ _ (T0.setTop (mkF m 0 #[.val (.int (2 : Int32))] []))
  refine iL X0 hx (hb hby d_jdk_52m2_0) (q := 1) rfl rfl ?_
  refine g_st X0 hx hZ0 hown0 (wd58 hw) (wd59 hw) (wd44 hw) (wd60 hw) (by decide) e0 (Con.back (W := 0) (rm_nbl2 l Z a0 hw zC SC PC vF rF SF SA SH SL  h0 O0 ) hZ0 (wd60 hw) (wd44 hw) (by decide) (by decide)) (by rw [hml]; rfl) (lenOf pd1 rfl) rfl (Nat.le_of_eq rfl) (hb hby d_jdk_52m2_1) (q := 4) rfl (by decide) (by decide) ?_
  intro v71 T71 L71 X71 Q71
  obtain ⟨rfl, Nq71, e71⟩ := Q71
  have N71 := Fr.app N0 Nq71
  show Go _ _ _ _ (T71.setTop (mkF m 4 #[.val (.int (2 : Int32))] [(.int (4 : Int32))]))
  refine g_newA X71 hx hZ0 (aty := .byte) (wd20 hw) (by decide) (n := 4) (by decide) (by decide) (by decide) (by decide) e71 (hb hby d_jdk_52m2_4) (q := 6) rfl ?_
  intro T72 h72 k72 b72 g72 X72 e72 E72 V72
  have Va72 : Arv Z h72 b72 k72 .byte (4 : Int32) [(.int (0 : Int32)), (.int (0 : Int32)), (.int (0 : Int32)), (.int (0 : Int32))] (.int 0) := V72
  have K73 : Keep h0 h72 [] := (Keep.refl h0 []).ext E72
  have gh74 : h0.size ≤ b72 := Nat.le_trans (Nat.le_refl _) (Nat.le_of_eq g72.symm)
  refine endP X72 hlk (fun h => by rw [hret] at h; cases h) (lastA X72 hx hret rfl rfl rfl (hb hby d_jdk_52m2_6)) ?_ (by decide) (by decide)
  rw [e72]
  exact ⟨b72, k72, rfl, N71, K73, gh74, Va72⟩
def Q_nbl3 (Z : State) (zC : Int32) (vF : Value) (h0 : Heap) (v : Option Value) (h : Heap) (L : List Loc) : Prop := v = some (.int (6 : Int32)) ∧ Fr Z.heap.size L ∧ h = h0
set_option maxRecDepth 65536 in
set_option maxHeartbeats 40000000 in
theorem rm_nbl3 (l : Launch) (Z : State) (a0 : Array Value) (hw : ∀ d ∈ tables_1, d.before a0 Z = true) (zC : Int32) (SC : Sta Z Z.heap "java/lang/String" "COMPACT_STRINGS" "Z" (.int zC)) (PC : ¬ zC = (0 : Int32)) (vF : Value) (rF : vF = .null ∨ ∃ a, vF = .ref a) (SF : Sta Z Z.heap "jdk/internal/util/Preconditions" "SIOOBE_FORMATTER" "Ljava/util/function/BiFunction;" vF) (SA : Sta Z Z.heap "java/lang/StringUTF16" "$assertionsDisabled" "Z" (.int (1 : Int32))) (SH : Sta Z Z.heap "java/lang/StringUTF16" "HI_BYTE_SHIFT" "I" (.int (0 : Int32))) (SL : Sta Z Z.heap "java/lang/StringUTF16" "LO_BYTE_SHIFT" "I" (.int (8 : Int32)))  (h0 : Heap) (O0 : Old Z Z.heap.size h0)  :
    Con l Z (⟨"java/lang/StringUTF16", "newBytesLength", "(I)I"⟩ : MethodName) jdk_52_method_3_code 1 (some .int) ({ frames := 0, cells := 0, slots := 0, locals := 0 } : Room) #[(.int (3 : Int32))] h0 (Q_nbl3 Z zC vF h0) := by
  refine Con.intro pn2 ?_
  intro p e s m below meth c T0 X0 hx hby hml hown0 hnm hret hlk hZ0 e0
  have N0 := Fr.nil Z.heap.size
  refine castGo (g' := mkF m 0 #[.val (.int (3 : Int32))] []) (by first | rfl | (simp [entryFrame, mkF, argsToLocals, Value.category]; done)) ?_
  show Go _ _ _ _ (T0.setTop (mkF m 0 #[.val (.int (3 : Int32))] []))
  refine iL X0 hx (hb hby d_jdk_52m3_0) (q := 1) rfl rfl ?_
  refine ifY X0 hx (hb hby d_jdk_52m3_1) (q := 12) (by decide) (by decide) (by decide) ?_
  refine iL X0 hx (hb hby d_jdk_52m3_12) (q := 13) rfl rfl ?_
  refine g_ldcI X0 hx (a1 := #[]) hZ0 hown0 (wd61 hw) (hb hby d_jdk_52m3_13) (q := 15) rfl ?_
  refine icY X0 hx (hb hby d_jdk_52m3_15) (q := 55) (by decide) (by decide) (by decide) ?_
  refine iL X0 hx (hb hby d_jdk_52m3_55) (q := 56) rfl rfl ?_
  refine cI X0 hx (hb hby d_jdk_52m3_56) (q := 57) rfl (z := (1 : Int32)) rfl ?_
  refine g_ishl X0 hx (hb hby d_jdk_52m3_57) (q := 58) rfl (z := (6 : Int32)) (by decide) ?_
  refine endP X0 hlk (fun h => by rw [hret] at h; cases h) (lastI X0 hx hret (hb hby d_jdk_52m3_58)) ?_ (by decide) (by decide)
  rw [e0]
  exact ⟨rfl, N0, rfl⟩
def Q_nbf3 (Z : State) (zC : Int32) (vF : Value) (h0 : Heap) (v : Option Value) (h : Heap) (L : List Loc) : Prop := ∃ (a : Addr), ∃ (kb : ClassId), v = some (.ref a) ∧ Fr Z.heap.size L ∧ Keep h0 h [] ∧ h0.size ≤ a ∧ Arv Z h a kb .byte (6 : Int32) [(.int (0 : Int32)), (.int (0 : Int32)), (.int (0 : Int32)), (.int (0 : Int32)), (.int (0 : Int32)), (.int (0 : Int32))] (.int 0)
set_option maxRecDepth 65536 in
set_option maxHeartbeats 40000000 in
theorem rm_nbf3 (l : Launch) (Z : State) (a0 : Array Value) (hw : ∀ d ∈ tables_1, d.before a0 Z = true) (zC : Int32) (SC : Sta Z Z.heap "java/lang/String" "COMPACT_STRINGS" "Z" (.int zC)) (PC : ¬ zC = (0 : Int32)) (vF : Value) (rF : vF = .null ∨ ∃ a, vF = .ref a) (SF : Sta Z Z.heap "jdk/internal/util/Preconditions" "SIOOBE_FORMATTER" "Ljava/util/function/BiFunction;" vF) (SA : Sta Z Z.heap "java/lang/StringUTF16" "$assertionsDisabled" "Z" (.int (1 : Int32))) (SH : Sta Z Z.heap "java/lang/StringUTF16" "HI_BYTE_SHIFT" "I" (.int (0 : Int32))) (SL : Sta Z Z.heap "java/lang/StringUTF16" "LO_BYTE_SHIFT" "I" (.int (8 : Int32)))  (h0 : Heap) (O0 : Old Z Z.heap.size h0)  :
    Con l Z (⟨"java/lang/StringUTF16", "newBytesFor", "(I)[B"⟩ : MethodName) jdk_52_method_2_code 1 (some (.array .byte)) ({ frames := 1, cells := 1, slots := 6, locals := 12 } : Room) #[(.int (3 : Int32))] h0 (Q_nbf3 Z zC vF h0) := by
  refine Con.intro pn2 ?_
  intro p e s m below meth c T0 X0 hx hby hml hown0 hnm hret hlk hZ0 e0
  have N0 := Fr.nil Z.heap.size
  refine castGo (g' := mkF m 0 #[.val (.int (3 : Int32))] []) (by first | rfl | (simp [entryFrame, mkF, argsToLocals, Value.category]; done)) ?_
  show Go _ _ _ _ (T0.setTop (mkF m 0 #[.val (.int (3 : Int32))] []))
  refine iL X0 hx (hb hby d_jdk_52m2_0) (q := 1) rfl rfl ?_
  refine g_st X0 hx hZ0 hown0 (wd58 hw) (wd59 hw) (wd44 hw) (wd60 hw) (by decide) e0 (Con.back (W := 0) (rm_nbl3 l Z a0 hw zC SC PC vF rF SF SA SH SL  h0 O0 ) hZ0 (wd60 hw) (wd44 hw) (by decide) (by decide)) (by rw [hml]; rfl) (lenOf pd1 rfl) rfl (Nat.le_of_eq rfl) (hb hby d_jdk_52m2_1) (q := 4) rfl (by decide) (by decide) ?_
  intro v75 T75 L75 X75 Q75
  obtain ⟨rfl, Nq75, e75⟩ := Q75
  have N75 := Fr.app N0 Nq75
  show Go _ _ _ _ (T75.setTop (mkF m 4 #[.val (.int (3 : Int32))] [(.int (6 : Int32))]))
  refine g_newA X75 hx hZ0 (aty := .byte) (wd20 hw) (by decide) (n := 6) (by decide) (by decide) (by decide) (by decide) e75 (hb hby d_jdk_52m2_4) (q := 6) rfl ?_
  intro T76 h76 k76 b76 g76 X76 e76 E76 V76
  have Va76 : Arv Z h76 b76 k76 .byte (6 : Int32) [(.int (0 : Int32)), (.int (0 : Int32)), (.int (0 : Int32)), (.int (0 : Int32)), (.int (0 : Int32)), (.int (0 : Int32))] (.int 0) := V76
  have K77 : Keep h0 h76 [] := (Keep.refl h0 []).ext E76
  have gh78 : h0.size ≤ b76 := Nat.le_trans (Nat.le_refl _) (Nat.le_of_eq g76.symm)
  refine endP X76 hlk (fun h => by rw [hret] at h; cases h) (lastA X76 hx hret rfl rfl rfl (hb hby d_jdk_52m2_6)) ?_ (by decide) (by decide)
  rw [e76]
  exact ⟨b76, k76, rfl, N75, K77, gh78, Va76⟩
theorem d_jdk_52m4_0 : decode jdk_52_method_4_code 0 = .ok (.getstatic 44, 3) := by decide +kernel
theorem wd65 {a0 : Array Value} {Z : State} (hw : ∀ d ∈ tables_1, d.before a0 Z = true) : ((Jvm.Cond.fieldLink "java/lang/StringUTF16" (44 : Nat) "java/lang/StringUTF16" "$assertionsDisabled" "Z") : Jvm.Cond).before a0 Z = true := hw _ (List.mem_of_getElem? (i := 65) rfl)
theorem d_jdk_52m4_3 : decode jdk_52_method_4_code 3 = .ok (.ifCond .ne 25, 3) := by decide +kernel
theorem d_jdk_52m4_28 : decode jdk_52_method_4_code 28 = .ok (.iload_n 1, 1) := by decide +kernel
theorem d_jdk_52m4_29 : decode jdk_52_method_4_code 29 = .ok (.iconst 1, 1) := by decide +kernel
theorem d_jdk_52m4_30 : decode jdk_52_method_4_code 30 = .ok (.ishl, 1) := by decide +kernel
theorem d_jdk_52m4_31 : decode jdk_52_method_4_code 31 = .ok (.istore_n 1, 1) := by decide +kernel
theorem d_jdk_52m4_32 : decode jdk_52_method_4_code 32 = .ok (.aload_n 0, 1) := by decide +kernel
theorem d_jdk_52m4_33 : decode jdk_52_method_4_code 33 = .ok (.iload_n 1, 1) := by decide +kernel
theorem d_jdk_52m4_34 : decode jdk_52_method_4_code 34 = .ok (.iinc 1 1, 3) := by decide +kernel
theorem d_jdk_52m4_37 : decode jdk_52_method_4_code 37 = .ok (.iload_n 2, 1) := by decide +kernel
theorem d_jdk_52m4_38 : decode jdk_52_method_4_code 38 = .ok (.getstatic 59, 3) := by decide +kernel
theorem wd66 {a0 : Array Value} {Z : State} (hw : ∀ d ∈ tables_1, d.before a0 Z = true) : ((Jvm.Cond.fieldLink "java/lang/StringUTF16" (59 : Nat) "java/lang/StringUTF16" "HI_BYTE_SHIFT" "I") : Jvm.Cond).before a0 Z = true := hw _ (List.mem_of_getElem? (i := 66) rfl)
theorem d_jdk_52m4_41 : decode jdk_52_method_4_code 41 = .ok (.ishr, 1) := by decide +kernel
theorem d_jdk_52m4_42 : decode jdk_52_method_4_code 42 = .ok (.i2b, 1) := by decide +kernel
theorem d_jdk_52m4_43 : decode jdk_52_method_4_code 43 = .ok (.bastore, 1) := by decide +kernel
theorem d_jdk_52m4_44 : decode jdk_52_method_4_code 44 = .ok (.aload_n 0, 1) := by decide +kernel
theorem d_jdk_52m4_45 : decode jdk_52_method_4_code 45 = .ok (.iload_n 1, 1) := by decide +kernel
theorem d_jdk_52m4_46 : decode jdk_52_method_4_code 46 = .ok (.iload_n 2, 1) := by decide +kernel
theorem d_jdk_52m4_47 : decode jdk_52_method_4_code 47 = .ok (.getstatic 63, 3) := by decide +kernel
theorem wd67 {a0 : Array Value} {Z : State} (hw : ∀ d ∈ tables_1, d.before a0 Z = true) : ((Jvm.Cond.fieldLink "java/lang/StringUTF16" (63 : Nat) "java/lang/StringUTF16" "LO_BYTE_SHIFT" "I") : Jvm.Cond).before a0 Z = true := hw _ (List.mem_of_getElem? (i := 67) rfl)
theorem d_jdk_52m4_50 : decode jdk_52_method_4_code 50 = .ok (.ishr, 1) := by decide +kernel
theorem d_jdk_52m4_51 : decode jdk_52_method_4_code 51 = .ok (.i2b, 1) := by decide +kernel
theorem d_jdk_52m4_52 : decode jdk_52_method_4_code 52 = .ok (.bastore, 1) := by decide +kernel
theorem d_jdk_52m4_53 : decode jdk_52_method_4_code 53 = .ok (.return_, 1) := by decide +kernel
def Q_put1_0 (Z : State) (zC : Int32) (vF : Value) (a1 : Addr) (kb : ClassId) (c0 : Int32) (x0 : Int32) (x1 : Int32) (h0 : Heap) (v : Option Value) (h : Heap) (L : List Loc) : Prop := v = none ∧ Fr Z.heap.size L ∧ Keep h0 h [a1] ∧ Arv Z h a1 kb .byte (2 : Int32) [(.int (StrChars.lo8 c0)), (.int (StrChars.hi8 c0))] (.int 0)
set_option maxRecDepth 65536 in
set_option maxHeartbeats 40000000 in
theorem rm_put1_0 (l : Launch) (Z : State) (a0 : Array Value) (hw : ∀ d ∈ tables_1, d.before a0 Z = true) (zC : Int32) (SC : Sta Z Z.heap "java/lang/String" "COMPACT_STRINGS" "Z" (.int zC)) (PC : ¬ zC = (0 : Int32)) (vF : Value) (rF : vF = .null ∨ ∃ a, vF = .ref a) (SF : Sta Z Z.heap "jdk/internal/util/Preconditions" "SIOOBE_FORMATTER" "Ljava/util/function/BiFunction;" vF) (SA : Sta Z Z.heap "java/lang/StringUTF16" "$assertionsDisabled" "Z" (.int (1 : Int32))) (SH : Sta Z Z.heap "java/lang/StringUTF16" "HI_BYTE_SHIFT" "I" (.int (0 : Int32))) (SL : Sta Z Z.heap "java/lang/StringUTF16" "LO_BYTE_SHIFT" "I" (.int (8 : Int32))) (a1 : Addr) (kb : ClassId) (c0 : Int32) (x0 : Int32) (x1 : Int32) (h0 : Heap) (O0 : Old Z Z.heap.size h0) (P1 : Arv Z h0 a1 kb .byte (2 : Int32) [(.int x0), (.int x1)] (.int 0)) (P2 : Z.heap.size ≤ a1) :
    Con l Z (⟨"java/lang/StringUTF16", "putChar", "([BII)V"⟩ : MethodName) jdk_52_method_4_code 3 none ({ frames := 0, cells := 0, slots := 0, locals := 0 } : Room) #[(.ref a1), (.int (0 : Int32)), (.int c0)] h0 (Q_put1_0 Z zC vF a1 kb c0 x0 x1 h0) := by
  refine Con.intro pn2 ?_
  intro p e s m below meth c T0 X0 hx hby hml hown0 hnm hret hlk hZ0 e0
  have N0 := Fr.nil Z.heap.size
  refine castGo (g' := mkF m 0 #[.val (.ref a1), .val (.int (0 : Int32)), .val (.int c0)] []) (by first | rfl | (simp [entryFrame, mkF, argsToLocals, Value.category]; done)) ?_
  show Go _ _ _ _ (T0.setTop (mkF m 0 #[.val (.ref a1), .val (.int (0 : Int32)), .val (.int c0)] []))
  refine g_getS X0 hx hZ0 hown0 (host := "") (Or.inl (wd65 hw)) Via.refl (SA.ext O0.2) e0 (hb hby d_jdk_52m4_0) (q := 3) rfl ?_
  intro T79 X79 e79
  refine ifY X79 hx (hb hby d_jdk_52m4_3) (q := 28) (by decide) (by decide) (by decide) ?_
  refine iL X79 hx (hb hby d_jdk_52m4_28) (q := 29) rfl rfl ?_
  refine cI X79 hx (hb hby d_jdk_52m4_29) (q := 30) rfl (z := (1 : Int32)) rfl ?_
  refine g_ishl X79 hx (hb hby d_jdk_52m4_30) (q := 31) rfl (z := (0 : Int32)) (by decide) ?_
  refine sI X79 hx (hb hby d_jdk_52m4_31) (q := 32) rfl (Ls' := #[.val (.ref a1), .val (.int (0 : Int32)), .val (.int c0)]) rfl ?_
  refine aL X79 hx (hb hby d_jdk_52m4_32) (q := 33) rfl rfl rfl ?_
  refine iL X79 hx (hb hby d_jdk_52m4_33) (q := 34) rfl rfl ?_
  refine g_iinc X79 hx (hb hby d_jdk_52m4_34) (q := 37) rfl rfl (z := (1 : Int32)) (by decide) (Ls' := #[.val (.ref a1), .val (.int (1 : Int32)), .val (.int c0)]) rfl ?_
  refine iL X79 hx (hb hby d_jdk_52m4_37) (q := 38) rfl rfl ?_
  refine g_getS X79 hx hZ0 hown0 (host := "") (Or.inl (wd66 hw)) Via.refl (SH.ext O0.2) e79 (hb hby d_jdk_52m4_38) (q := 41) rfl ?_
  intro T80 X80 e80
  refine g_ishr X80 hx (hb hby d_jdk_52m4_41) (q := 42) rfl (z := c0) (shr_zero _) ?_
  refine g_i2b X80 hx (hb hby d_jdk_52m4_42) (q := 43) rfl (z := (StrChars.lo8 c0)) rfl ?_
  refine g_stB X80 hx hZ0 P1 (i := 0) (by decide) (by decide) (by decide) (Nat.le_of_ble_eq_true rfl) (y := (StrChars.lo8 c0)) (lo8_nar _) e80 (hb hby d_jdk_52m4_43) (q := 44) rfl ?_
  intro T81 h81 X81 e81 W81 V81
  have N81 := Fr.snoc X81 N0 P2
  have Va81 : Arv Z h81 a1 kb .byte (2 : Int32) [(.int (StrChars.lo8 c0)), (.int x1)] (.int 0) := V81
  refine aL X81 hx (hb hby d_jdk_52m4_44) (q := 45) rfl rfl rfl ?_
  refine iL X81 hx (hb hby d_jdk_52m4_45) (q := 46) rfl rfl ?_
  refine iL X81 hx (hb hby d_jdk_52m4_46) (q := 47) rfl rfl ?_
  have f83 : Old Z Z.heap.size h81 := O0.wr W81 P2
  refine g_getS X81 hx hZ0 hown0 (host := "") (Or.inl (wd67 hw)) Via.refl (SL.ext f83.2) e81 (hb hby d_jdk_52m4_47) (q := 50) rfl ?_
  intro T82 X82 e82
  refine g_ishr X82 hx (hb hby d_jdk_52m4_50) (q := 51) rfl rfl ?_
  refine g_i2b X82 hx (hb hby d_jdk_52m4_51) (q := 52) rfl (z := (StrChars.hi8 c0)) rfl ?_
  refine g_stB X82 hx hZ0 Va81 (i := 1) (by decide) (by decide) (by decide) (Nat.le_of_ble_eq_true rfl) (y := (StrChars.hi8 c0)) (lo8_nar _) e82 (hb hby d_jdk_52m4_52) (q := 53) rfl ?_
  intro T84 h84 X84 e84 W84 V84
  have N84 := Fr.snoc X84 N81 P2
  have Va84 : Arv Z h84 a1 kb .byte (2 : Int32) [(.int (StrChars.lo8 c0)), (.int (StrChars.hi8 c0))] (.int 0) := V84
  have K85 : Keep h0 h81 [a1] := (Keep.refl h0 [a1]).wr W81 (Or.inl (by simp))
  have K86 : Keep h0 h84 [a1] := K85.wr W84 (Or.inl (by simp))
  refine endP X84 hlk (fun _ => rfl) (lastV X84 hx hret (hb hby d_jdk_52m4_53)) ?_ (by decide) (by decide)
  rw [e84]
  exact ⟨rfl, N84, K86, Va84⟩
theorem d_jdk_52m5_0 : decode jdk_52_method_5_code 0 = .ok (.getstatic 44, 3) := by decide +kernel
theorem d_jdk_52m5_3 : decode jdk_52_method_5_code 3 = .ok (.ifCond .ne 25, 3) := by decide +kernel
theorem d_jdk_52m5_28 : decode jdk_52_method_5_code 28 = .ok (.iload_n 1, 1) := by decide +kernel
theorem d_jdk_52m5_29 : decode jdk_52_method_5_code 29 = .ok (.iconst 1, 1) := by decide +kernel
theorem d_jdk_52m5_30 : decode jdk_52_method_5_code 30 = .ok (.ishl, 1) := by decide +kernel
theorem d_jdk_52m5_31 : decode jdk_52_method_5_code 31 = .ok (.istore_n 1, 1) := by decide +kernel
theorem d_jdk_52m5_32 : decode jdk_52_method_5_code 32 = .ok (.aload_n 0, 1) := by decide +kernel
theorem d_jdk_52m5_33 : decode jdk_52_method_5_code 33 = .ok (.iload_n 1, 1) := by decide +kernel
theorem d_jdk_52m5_34 : decode jdk_52_method_5_code 34 = .ok (.iinc 1 1, 3) := by decide +kernel
theorem d_jdk_52m5_37 : decode jdk_52_method_5_code 37 = .ok (.baload, 1) := by decide +kernel
theorem d_jdk_52m5_38 : decode jdk_52_method_5_code 38 = .ok (.sipush 255, 3) := by decide +kernel
theorem d_jdk_52m5_41 : decode jdk_52_method_5_code 41 = .ok (.iand, 1) := by decide +kernel
theorem d_jdk_52m5_42 : decode jdk_52_method_5_code 42 = .ok (.getstatic 59, 3) := by decide +kernel
theorem d_jdk_52m5_45 : decode jdk_52_method_5_code 45 = .ok (.ishl, 1) := by decide +kernel
theorem d_jdk_52m5_46 : decode jdk_52_method_5_code 46 = .ok (.aload_n 0, 1) := by decide +kernel
theorem d_jdk_52m5_47 : decode jdk_52_method_5_code 47 = .ok (.iload_n 1, 1) := by decide +kernel
theorem d_jdk_52m5_48 : decode jdk_52_method_5_code 48 = .ok (.baload, 1) := by decide +kernel
theorem d_jdk_52m5_49 : decode jdk_52_method_5_code 49 = .ok (.sipush 255, 3) := by decide +kernel
theorem d_jdk_52m5_52 : decode jdk_52_method_5_code 52 = .ok (.iand, 1) := by decide +kernel
theorem d_jdk_52m5_53 : decode jdk_52_method_5_code 53 = .ok (.getstatic 63, 3) := by decide +kernel
theorem d_jdk_52m5_56 : decode jdk_52_method_5_code 56 = .ok (.ishl, 1) := by decide +kernel
theorem d_jdk_52m5_57 : decode jdk_52_method_5_code 57 = .ok (.ior, 1) := by decide +kernel
theorem d_jdk_52m5_58 : decode jdk_52_method_5_code 58 = .ok (.i2c, 1) := by decide +kernel
theorem d_jdk_52m5_59 : decode jdk_52_method_5_code 59 = .ok (.ireturn, 1) := by decide +kernel
def Q_get1_0 (Z : State) (zC : Int32) (vF : Value) (a1 : Addr) (kb : ClassId) (c0 : Int32) (h0 : Heap) (v : Option Value) (h : Heap) (L : List Loc) : Prop := v = some (.int c0) ∧ Fr Z.heap.size L ∧ h = h0
set_option maxRecDepth 65536 in
set_option maxHeartbeats 40000000 in
theorem rm_get1_0 (l : Launch) (Z : State) (a0 : Array Value) (hw : ∀ d ∈ tables_1, d.before a0 Z = true) (zC : Int32) (SC : Sta Z Z.heap "java/lang/String" "COMPACT_STRINGS" "Z" (.int zC)) (PC : ¬ zC = (0 : Int32)) (vF : Value) (rF : vF = .null ∨ ∃ a, vF = .ref a) (SF : Sta Z Z.heap "jdk/internal/util/Preconditions" "SIOOBE_FORMATTER" "Ljava/util/function/BiFunction;" vF) (SA : Sta Z Z.heap "java/lang/StringUTF16" "$assertionsDisabled" "Z" (.int (1 : Int32))) (SH : Sta Z Z.heap "java/lang/StringUTF16" "HI_BYTE_SHIFT" "I" (.int (0 : Int32))) (SL : Sta Z Z.heap "java/lang/StringUTF16" "LO_BYTE_SHIFT" "I" (.int (8 : Int32))) (a1 : Addr) (kb : ClassId) (c0 : Int32) (h0 : Heap) (O0 : Old Z Z.heap.size h0) (P1 : Arv Z h0 a1 kb .byte (2 : Int32) [(.int (StrChars.lo8 c0)), (.int (StrChars.hi8 c0))] (.int 0)) (H0 : (¬ (c0 < (0 : Int32)))) (J0 : (¬ ((65535 : Int32) < c0))) :
    Con l Z (⟨"java/lang/StringUTF16", "getChar", "([BI)C"⟩ : MethodName) jdk_52_method_5_code 2 (some .char) ({ frames := 0, cells := 0, slots := 0, locals := 0 } : Room) #[(.ref a1), (.int (0 : Int32))] h0 (Q_get1_0 Z zC vF a1 kb c0 h0) := by
  refine Con.intro pn2 ?_
  intro p e s m below meth c T0 X0 hx hby hml hown0 hnm hret hlk hZ0 e0
  have N0 := Fr.nil Z.heap.size
  refine castGo (g' := mkF m 0 #[.val (.ref a1), .val (.int (0 : Int32))] []) (by first | rfl | (simp [entryFrame, mkF, argsToLocals, Value.category]; done)) ?_
  show Go _ _ _ _ (T0.setTop (mkF m 0 #[.val (.ref a1), .val (.int (0 : Int32))] []))
  refine g_getS X0 hx hZ0 hown0 (host := "") (Or.inl (wd65 hw)) Via.refl (SA.ext O0.2) e0 (hb hby d_jdk_52m5_0) (q := 3) rfl ?_
  intro T87 X87 e87
  refine ifY X87 hx (hb hby d_jdk_52m5_3) (q := 28) (by decide) (by decide) (by decide) ?_
  refine iL X87 hx (hb hby d_jdk_52m5_28) (q := 29) rfl rfl ?_
  refine cI X87 hx (hb hby d_jdk_52m5_29) (q := 30) rfl (z := (1 : Int32)) rfl ?_
  refine g_ishl X87 hx (hb hby d_jdk_52m5_30) (q := 31) rfl (z := (0 : Int32)) (by decide) ?_
  refine sI X87 hx (hb hby d_jdk_52m5_31) (q := 32) rfl (Ls' := #[.val (.ref a1), .val (.int (0 : Int32))]) rfl ?_
  refine aL X87 hx (hb hby d_jdk_52m5_32) (q := 33) rfl rfl rfl ?_
  refine iL X87 hx (hb hby d_jdk_52m5_33) (q := 34) rfl rfl ?_
  refine g_iinc X87 hx (hb hby d_jdk_52m5_34) (q := 37) rfl rfl (z := (1 : Int32)) (by decide) (Ls' := #[.val (.ref a1), .val (.int (1 : Int32))]) rfl ?_
  refine g_ldB X87 hx hZ0 P1 (i := 0) (by decide) (by decide) (by decide) (v := (.int (StrChars.lo8 c0))) rfl e87 (hb hby d_jdk_52m5_37) (q := 38) rfl ?_
  refine pI X87 hx (hb hby d_jdk_52m5_38) (q := 41) rfl (z := (255 : Int32)) rfl ?_
  refine g_iand X87 hx (hb hby d_jdk_52m5_41) (q := 42) rfl rfl ?_
  refine g_getS X87 hx hZ0 hown0 (host := "") (Or.inl (wd66 hw)) Via.refl (SH.ext O0.2) e87 (hb hby d_jdk_52m5_42) (q := 45) rfl ?_
  intro T88 X88 e88
  refine g_ishl X88 hx (hb hby d_jdk_52m5_45) (q := 46) rfl rfl ?_
  refine aL X88 hx (hb hby d_jdk_52m5_46) (q := 47) rfl rfl rfl ?_
  refine iL X88 hx (hb hby d_jdk_52m5_47) (q := 48) rfl rfl ?_
  refine g_ldB X88 hx hZ0 P1 (i := 1) (by decide) (by decide) (by decide) (v := (.int (StrChars.hi8 c0))) rfl e88 (hb hby d_jdk_52m5_48) (q := 49) rfl ?_
  refine pI X88 hx (hb hby d_jdk_52m5_49) (q := 52) rfl (z := (255 : Int32)) rfl ?_
  refine g_iand X88 hx (hb hby d_jdk_52m5_52) (q := 53) rfl rfl ?_
  refine g_getS X88 hx hZ0 hown0 (host := "") (Or.inl (wd67 hw)) Via.refl (SL.ext O0.2) e88 (hb hby d_jdk_52m5_53) (q := 56) rfl ?_
  intro T89 X89 e89
  refine g_ishl X89 hx (hb hby d_jdk_52m5_56) (q := 57) rfl rfl ?_
  refine g_ior X89 hx (hb hby d_jdk_52m5_57) (q := 58) rfl rfl ?_
  refine g_i2c X89 hx (hb hby d_jdk_52m5_58) (q := 59) rfl (z := c0) (StrChars.pair_says H0 J0) ?_
  refine endP X89 hlk (fun h => by rw [hret] at h; cases h) (lastN X89 hx (t := .char) (z' := c0) hret (by simp) (nar_of H0 J0) (hb hby d_jdk_52m5_59)) ?_ (by decide) (by decide)
  rw [e89]
  exact ⟨rfl, N0, rfl⟩
theorem d_jdk_52m14_0 : decode jdk_52_method_14_code 0 = .ok (.iload_n 2, 1) := by decide +kernel
theorem d_jdk_52m14_1 : decode jdk_52_method_14_code 1 = .ok (.invokestatic 107, 3) := by decide +kernel
theorem wd57 {a0 : Array Value} {Z : State} (hw : ∀ d ∈ tables_1, d.before a0 Z = true) : ((Jvm.Cond.code ({ cls := "java/lang/StringUTF16", name := "newBytesFor", desc := "(I)[B" } : Jvm.MethodName) jdk_52_method_2_code (1 : Nat) (Option.some (Jvm.ClassFile.FieldType.array Jvm.ClassFile.FieldType.byte))) : Jvm.Cond).before a0 Z = true := hw _ (List.mem_of_getElem? (i := 57) rfl)
theorem pd2 : parseMethodDescriptor "(I)[B" = some ⟨[.int], some (.array .byte)⟩ := by decide +kernel
theorem wd55 {a0 : Array Value} {Z : State} (hw : ∀ d ∈ tables_1, d.before a0 Z = true) : ((Jvm.Cond.methodLink "java/lang/StringUTF16" (107 : Nat) ({ cls := "java/lang/StringUTF16", name := "newBytesFor", desc := "(I)[B" } : Jvm.MethodName)) : Jvm.Cond).before a0 Z = true := hw _ (List.mem_of_getElem? (i := 55) rfl)
theorem wd56 {a0 : Array Value} {Z : State} (hw : ∀ d ∈ tables_1, d.before a0 Z = true) : ((Jvm.Cond.static ({ cls := "java/lang/StringUTF16", name := "newBytesFor", desc := "(I)[B" } : Jvm.MethodName)) : Jvm.Cond).before a0 Z = true := hw _ (List.mem_of_getElem? (i := 56) rfl)
theorem d_jdk_52m14_4 : decode jdk_52_method_14_code 4 = .ok (.astore_n 3, 1) := by decide +kernel
theorem d_jdk_52m14_5 : decode jdk_52_method_14_code 5 = .ok (.iconst 0, 1) := by decide +kernel
theorem d_jdk_52m14_6 : decode jdk_52_method_14_code 6 = .ok (.istore 4, 2) := by decide +kernel
theorem d_jdk_52m14_8 : decode jdk_52_method_14_code 8 = .ok (.iload 4, 2) := by decide +kernel
theorem d_jdk_52m14_10 : decode jdk_52_method_14_code 10 = .ok (.iload_n 2, 1) := by decide +kernel
theorem d_jdk_52m14_11 : decode jdk_52_method_14_code 11 = .ok (.if_icmp .ge 21, 3) := by decide +kernel
theorem d_jdk_52m14_14 : decode jdk_52_method_14_code 14 = .ok (.aload_n 3, 1) := by decide +kernel
theorem d_jdk_52m14_15 : decode jdk_52_method_14_code 15 = .ok (.iload 4, 2) := by decide +kernel
theorem d_jdk_52m14_17 : decode jdk_52_method_14_code 17 = .ok (.aload_n 0, 1) := by decide +kernel
theorem d_jdk_52m14_18 : decode jdk_52_method_14_code 18 = .ok (.iload_n 1, 1) := by decide +kernel
theorem d_jdk_52m14_19 : decode jdk_52_method_14_code 19 = .ok (.caload, 1) := by decide +kernel
theorem d_jdk_52m14_20 : decode jdk_52_method_14_code 20 = .ok (.invokestatic 111, 3) := by decide +kernel
theorem wd64 {a0 : Array Value} {Z : State} (hw : ∀ d ∈ tables_1, d.before a0 Z = true) : ((Jvm.Cond.code ({ cls := "java/lang/StringUTF16", name := "putChar", desc := "([BII)V" } : Jvm.MethodName) jdk_52_method_4_code (3 : Nat) (Option.none : Option Jvm.ClassFile.FieldType)) : Jvm.Cond).before a0 Z = true := hw _ (List.mem_of_getElem? (i := 64) rfl)
theorem pd3 : parseMethodDescriptor "([BII)V" = some ⟨[(.array .byte), .int, .int], none⟩ := by decide +kernel
theorem wd62 {a0 : Array Value} {Z : State} (hw : ∀ d ∈ tables_1, d.before a0 Z = true) : ((Jvm.Cond.methodLink "java/lang/StringUTF16" (111 : Nat) ({ cls := "java/lang/StringUTF16", name := "putChar", desc := "([BII)V" } : Jvm.MethodName)) : Jvm.Cond).before a0 Z = true := hw _ (List.mem_of_getElem? (i := 62) rfl)
theorem wd63 {a0 : Array Value} {Z : State} (hw : ∀ d ∈ tables_1, d.before a0 Z = true) : ((Jvm.Cond.static ({ cls := "java/lang/StringUTF16", name := "putChar", desc := "([BII)V" } : Jvm.MethodName)) : Jvm.Cond).before a0 Z = true := hw _ (List.mem_of_getElem? (i := 63) rfl)
theorem d_jdk_52m14_23 : decode jdk_52_method_14_code 23 = .ok (.iinc 1 1, 3) := by decide +kernel
theorem d_jdk_52m14_26 : decode jdk_52_method_14_code 26 = .ok (.iinc 4 1, 3) := by decide +kernel
theorem d_jdk_52m14_29 : decode jdk_52_method_14_code 29 = .ok (.goto (-21), 3) := by decide +kernel
theorem d_jdk_52m14_32 : decode jdk_52_method_14_code 32 = .ok (.aload_n 3, 1) := by decide +kernel
theorem d_jdk_52m14_33 : decode jdk_52_method_14_code 33 = .ok (.areturn, 1) := by decide +kernel
def Q_toB1 (Z : State) (zC : Int32) (vF : Value) (a1 : Addr) (kc : ClassId) (c0 : Int32) (h0 : Heap) (v : Option Value) (h : Heap) (L : List Loc) : Prop := ∃ (a : Addr), ∃ (kb : ClassId), v = some (.ref a) ∧ Fr Z.heap.size L ∧ Keep h0 h [] ∧ h0.size ≤ a ∧ Arv Z h a kb .byte (2 : Int32) [(.int (StrChars.lo8 c0)), (.int (StrChars.hi8 c0))] (.int 0)
set_option maxRecDepth 65536 in
set_option maxHeartbeats 40000000 in
theorem rm_toB1 (l : Launch) (Z : State) (a0 : Array Value) (hw : ∀ d ∈ tables_1, d.before a0 Z = true) (zC : Int32) (SC : Sta Z Z.heap "java/lang/String" "COMPACT_STRINGS" "Z" (.int zC)) (PC : ¬ zC = (0 : Int32)) (vF : Value) (rF : vF = .null ∨ ∃ a, vF = .ref a) (SF : Sta Z Z.heap "jdk/internal/util/Preconditions" "SIOOBE_FORMATTER" "Ljava/util/function/BiFunction;" vF) (SA : Sta Z Z.heap "java/lang/StringUTF16" "$assertionsDisabled" "Z" (.int (1 : Int32))) (SH : Sta Z Z.heap "java/lang/StringUTF16" "HI_BYTE_SHIFT" "I" (.int (0 : Int32))) (SL : Sta Z Z.heap "java/lang/StringUTF16" "LO_BYTE_SHIFT" "I" (.int (8 : Int32))) (a1 : Addr) (kc : ClassId) (c0 : Int32) (h0 : Heap) (O0 : Old Z Z.heap.size h0) (P1 : Arv Z h0 a1 kc .char (1 : Int32) [(.int c0)] (.int 0)) :
    Con l Z (⟨"java/lang/StringUTF16", "toBytes", "([CII)[B"⟩ : MethodName) jdk_52_method_14_code 5 (some (.array .byte)) ({ frames := 2, cells := 1, slots := 2, locals := 24 } : Room) #[(.ref a1), (.int (0 : Int32)), (.int (1 : Int32))] h0 (Q_toB1 Z zC vF a1 kc c0 h0) := by
  refine Con.intro pn2 ?_
  intro p e s m below meth c T0 X0 hx hby hml hown0 hnm hret hlk hZ0 e0
  have N0 := Fr.nil Z.heap.size
  refine castGo (g' := mkF m 0 #[.val (.ref a1), .val (.int (0 : Int32)), .val (.int (1 : Int32)), .unset, .unset] []) (by first | rfl | (simp [entryFrame, mkF, argsToLocals, Value.category]; done)) ?_
  show Go _ _ _ _ (T0.setTop (mkF m 0 #[.val (.ref a1), .val (.int (0 : Int32)), .val (.int (1 : Int32)), .unset, .unset] []))
  refine iL X0 hx (hb hby d_jdk_52m14_0) (q := 1) rfl rfl ?_
  refine g_st X0 hx hZ0 hown0 (wd55 hw) (wd56 hw) (wd44 hw) (wd57 hw) (by decide) e0 (Con.back (W := 0) (rm_nbf1 l Z a0 hw zC SC PC vF rF SF SA SH SL  h0 O0 ) hZ0 (wd57 hw) (wd44 hw) (by decide) (by decide)) (by rw [hml]; rfl) (lenOf pd2 rfl) rfl (Nat.le_of_eq rfl) (hb hby d_jdk_52m14_1) (q := 4) rfl (by decide) (by decide) ?_
  intro v90 T90 L90 X90 Q90
  obtain ⟨a_90, kb_90, rfl, Nq90, K90q, q90_0, q90_1⟩ := Q90
  have N90 := Fr.app N0 Nq90
  show Go _ _ _ _ (T90.setTop (mkF m 4 #[.val (.ref a1), .val (.int (0 : Int32)), .val (.int (1 : Int32)), .unset, .unset] [(.ref a_90)]))
  refine sA X90 hx (hb hby d_jdk_52m14_4) (q := 5) rfl rfl (Ls' := #[.val (.ref a1), .val (.int (0 : Int32)), .val (.int (1 : Int32)), .val (.ref a_90), .unset]) rfl ?_
  refine cI X90 hx (hb hby d_jdk_52m14_5) (q := 6) rfl (z := (0 : Int32)) rfl ?_
  refine sIw X90 hx (hb hby d_jdk_52m14_6) (q := 8) rfl (Ls' := #[.val (.ref a1), .val (.int (0 : Int32)), .val (.int (1 : Int32)), .val (.ref a_90), .val (.int (0 : Int32))]) rfl ?_
  refine iLw X90 hx (hb hby d_jdk_52m14_8) (q := 10) rfl rfl ?_
  refine iL X90 hx (hb hby d_jdk_52m14_10) (q := 11) rfl rfl ?_
  refine icN X90 hx (hb hby d_jdk_52m14_11) (q := 14) rfl (by decide) ?_
  refine aL X90 hx (hb hby d_jdk_52m14_14) (q := 15) rfl rfl rfl ?_
  refine iLw X90 hx (hb hby d_jdk_52m14_15) (q := 17) rfl rfl ?_
  refine aL X90 hx (hb hby d_jdk_52m14_17) (q := 18) rfl rfl rfl ?_
  refine iL X90 hx (hb hby d_jdk_52m14_18) (q := 19) rfl rfl ?_
  have f91 : Arv Z T90.heap a1 kc .char (1 : Int32) [(.int c0)] (.int 0) := P1.keep K90q nin0
  refine g_ldC X90 hx hZ0 f91 (i := 0) (by decide) (by decide) (by decide) (v := (.int c0)) rfl rfl (hb hby d_jdk_52m14_19) (q := 20) rfl ?_
  have gz94 : Z.heap.size ≤ a_90 := Nat.le_trans O0.2.1 q90_0
  have f95 : Old Z Z.heap.size T90.heap := O0.keep K90q all0
  refine g_st X90 hx hZ0 hown0 (wd62 hw) (wd63 hw) (wd44 hw) (wd64 hw) (by decide) rfl (Con.back (W := 0) (rm_put1_0 l Z a0 hw zC SC PC vF rF SF SA SH SL a_90 kb_90 c0 (0 : Int32) (0 : Int32) T90.heap f95 q90_1 gz94) hZ0 (wd64 hw) (wd44 hw) (by decide) (by decide)) (by rw [hml]; rfl) (lenOf pd3 rfl) rfl (Nat.le_of_eq rfl) (hb hby d_jdk_52m14_20) (q := 23) rfl (by decide) (by decide) ?_
  intro v93 T93 L93 X93 Q93
  obtain ⟨rfl, Nq93, K93q, q93_0⟩ := Q93
  have N93 := Fr.app N90 Nq93
  show Go _ _ _ _ (T93.setTop (mkF m 23 #[.val (.ref a1), .val (.int (0 : Int32)), .val (.int (1 : Int32)), .val (.ref a_90), .val (.int (0 : Int32))] []))
  refine g_iinc X93 hx (hb hby d_jdk_52m14_23) (q := 26) rfl rfl (z := (1 : Int32)) (by decide) (Ls' := #[.val (.ref a1), .val (.int (1 : Int32)), .val (.int (1 : Int32)), .val (.ref a_90), .val (.int (0 : Int32))]) rfl ?_
  refine g_iinc X93 hx (hb hby d_jdk_52m14_26) (q := 29) rfl rfl (z := (1 : Int32)) (by decide) (Ls' := #[.val (.ref a1), .val (.int (1 : Int32)), .val (.int (1 : Int32)), .val (.ref a_90), .val (.int (1 : Int32))]) rfl ?_
  refine g_goto X93 hx (hb hby d_jdk_52m14_29) (q := 8) (by decide) (by decide) ?_
  refine iLw X93 hx (hb hby d_jdk_52m14_8) (q := 10) rfl rfl ?_
  refine iL X93 hx (hb hby d_jdk_52m14_10) (q := 11) rfl rfl ?_
  refine icY X93 hx (hb hby d_jdk_52m14_11) (q := 32) (by decide) (by decide) (by decide) ?_
  refine aL X93 hx (hb hby d_jdk_52m14_32) (q := 33) rfl rfl rfl ?_
  have K96 : Keep h0 T90.heap [] := (Keep.refl h0 []).trans K90q all0
  have gh97 : h0.size ≤ a_90 := Nat.le_trans (Nat.le_refl _) q90_0
  have K98 : Keep h0 T93.heap [] := K96.trans K93q (allS (Or.inr gh97) all0)
  refine endP X93 hlk (fun h => by rw [hret] at h; cases h) (lastA X93 hx hret rfl rfl rfl (hb hby d_jdk_52m14_33)) ?_ (by decide) (by decide)
  exact ⟨a_90, kb_90, rfl, N93, K98, gh97, q93_0⟩
theorem d_jdk_52m21_0 : decode jdk_52_method_21_code 0 = .ok (.iconst 0, 1) := by decide +kernel
theorem d_jdk_52m21_1 : decode jdk_52_method_21_code 1 = .ok (.istore 5, 2) := by decide +kernel
theorem d_jdk_52m21_3 : decode jdk_52_method_21_code 3 = .ok (.iload 5, 2) := by decide +kernel
theorem d_jdk_52m21_5 : decode jdk_52_method_21_code 5 = .ok (.iload 4, 2) := by decide +kernel
theorem d_jdk_52m21_7 : decode jdk_52_method_21_code 7 = .ok (.if_icmp .ge 37, 3) := by decide +kernel
theorem d_jdk_52m21_10 : decode jdk_52_method_21_code 10 = .ok (.aload_n 0, 1) := by decide +kernel
theorem d_jdk_52m21_11 : decode jdk_52_method_21_code 11 = .ok (.iload_n 1, 1) := by decide +kernel
theorem d_jdk_52m21_12 : decode jdk_52_method_21_code 12 = .ok (.caload, 1) := by decide +kernel
theorem d_jdk_52m21_13 : decode jdk_52_method_21_code 13 = .ok (.istore 6, 2) := by decide +kernel
theorem d_jdk_52m21_15 : decode jdk_52_method_21_code 15 = .ok (.iload 6, 2) := by decide +kernel
theorem d_jdk_52m21_17 : decode jdk_52_method_21_code 17 = .ok (.sipush 255, 3) := by decide +kernel
theorem d_jdk_52m21_20 : decode jdk_52_method_21_code 20 = .ok (.if_icmp .le 6, 3) := by decide +kernel
theorem d_jdk_52m21_23 : decode jdk_52_method_21_code 23 = .ok (.iload 5, 2) := by decide +kernel
theorem d_jdk_52m21_25 : decode jdk_52_method_21_code 25 = .ok (.ireturn, 1) := by decide +kernel
def Q_cmp5_1_0 (Z : State) (zC : Int32) (vF : Value) (a1 : Addr) (a2 : Addr) (kc : ClassId) (kb : ClassId) (c0 : Int32) (h0 : Heap) (v : Option Value) (h : Heap) (L : List Loc) : Prop := v = some (.int (0 : Int32)) ∧ Fr Z.heap.size L ∧ Keep h0 h [a2]
set_option maxRecDepth 65536 in
set_option maxHeartbeats 40000000 in
theorem rm_cmp5_1_0 (l : Launch) (Z : State) (a0 : Array Value) (hw : ∀ d ∈ tables_1, d.before a0 Z = true) (zC : Int32) (SC : Sta Z Z.heap "java/lang/String" "COMPACT_STRINGS" "Z" (.int zC)) (PC : ¬ zC = (0 : Int32)) (vF : Value) (rF : vF = .null ∨ ∃ a, vF = .ref a) (SF : Sta Z Z.heap "jdk/internal/util/Preconditions" "SIOOBE_FORMATTER" "Ljava/util/function/BiFunction;" vF) (SA : Sta Z Z.heap "java/lang/StringUTF16" "$assertionsDisabled" "Z" (.int (1 : Int32))) (SH : Sta Z Z.heap "java/lang/StringUTF16" "HI_BYTE_SHIFT" "I" (.int (0 : Int32))) (SL : Sta Z Z.heap "java/lang/StringUTF16" "LO_BYTE_SHIFT" "I" (.int (8 : Int32))) (a1 : Addr) (a2 : Addr) (kc : ClassId) (kb : ClassId) (c0 : Int32) (h0 : Heap) (O0 : Old Z Z.heap.size h0) (P1 : Arv Z h0 a1 kc .char (1 : Int32) [(.int c0)] (.int 0)) (P2 : Arv Z h0 a2 kb .byte (1 : Int32) [(.int (0 : Int32))] (.int 0)) (P3 : Z.heap.size ≤ a2) (P4 : a1 ≠ a2) (W0 : ((255 : Int32) < c0)) :
    Con l Z (⟨"java/lang/StringUTF16", "compress", "([CI[BII)I"⟩ : MethodName) jdk_52_method_21_code 7 (some .int) ({ frames := 0, cells := 0, slots := 0, locals := 0 } : Room) #[(.ref a1), (.int (0 : Int32)), (.ref a2), (.int (0 : Int32)), (.int (1 : Int32))] h0 (Q_cmp5_1_0 Z zC vF a1 a2 kc kb c0 h0) := by
  refine Con.intro pn2 ?_
  intro p e s m below meth c T0 X0 hx hby hml hown0 hnm hret hlk hZ0 e0
  have N0 := Fr.nil Z.heap.size
  refine castGo (g' := mkF m 0 #[.val (.ref a1), .val (.int (0 : Int32)), .val (.ref a2), .val (.int (0 : Int32)), .val (.int (1 : Int32)), .unset, .unset] []) (by first | rfl | (simp [entryFrame, mkF, argsToLocals, Value.category]; done)) ?_
  show Go _ _ _ _ (T0.setTop (mkF m 0 #[.val (.ref a1), .val (.int (0 : Int32)), .val (.ref a2), .val (.int (0 : Int32)), .val (.int (1 : Int32)), .unset, .unset] []))
  refine cI X0 hx (hb hby d_jdk_52m21_0) (q := 1) rfl (z := (0 : Int32)) rfl ?_
  refine sIw X0 hx (hb hby d_jdk_52m21_1) (q := 3) rfl (Ls' := #[.val (.ref a1), .val (.int (0 : Int32)), .val (.ref a2), .val (.int (0 : Int32)), .val (.int (1 : Int32)), .val (.int (0 : Int32)), .unset]) rfl ?_
  refine iLw X0 hx (hb hby d_jdk_52m21_3) (q := 5) rfl rfl ?_
  refine iLw X0 hx (hb hby d_jdk_52m21_5) (q := 7) rfl rfl ?_
  refine icN X0 hx (hb hby d_jdk_52m21_7) (q := 10) rfl (by decide) ?_
  refine aL X0 hx (hb hby d_jdk_52m21_10) (q := 11) rfl rfl rfl ?_
  refine iL X0 hx (hb hby d_jdk_52m21_11) (q := 12) rfl rfl ?_
  refine g_ldC X0 hx hZ0 P1 (i := 0) (by decide) (by decide) (by decide) (v := (.int c0)) rfl e0 (hb hby d_jdk_52m21_12) (q := 13) rfl ?_
  refine sIw X0 hx (hb hby d_jdk_52m21_13) (q := 15) rfl (Ls' := #[.val (.ref a1), .val (.int (0 : Int32)), .val (.ref a2), .val (.int (0 : Int32)), .val (.int (1 : Int32)), .val (.int (0 : Int32)), .val (.int c0)]) rfl ?_
  refine iLw X0 hx (hb hby d_jdk_52m21_15) (q := 17) rfl rfl ?_
  refine pI X0 hx (hb hby d_jdk_52m21_17) (q := 20) rfl (z := (255 : Int32)) rfl ?_
  refine icN X0 hx (hb hby d_jdk_52m21_20) (q := 23) rfl (tlt W0).2.2.2 ?_
  refine iLw X0 hx (hb hby d_jdk_52m21_23) (q := 25) rfl rfl ?_
  refine endP X0 hlk (fun h => by rw [hret] at h; cases h) (lastI X0 hx hret (hb hby d_jdk_52m21_25)) ?_ (by decide) (by decide)
  rw [e0]
  exact ⟨rfl, N0, (Keep.refl h0 [a2])⟩
theorem d_jdk_52m16_0 : decode jdk_52_method_16_code 0 = .ok (.iload_n 2, 1) := by decide +kernel
theorem d_jdk_52m16_1 : decode jdk_52_method_16_code 1 = .ok (.newarray .byte, 2) := by decide +kernel
theorem d_jdk_52m16_3 : decode jdk_52_method_16_code 3 = .ok (.astore_n 3, 1) := by decide +kernel
theorem d_jdk_52m16_4 : decode jdk_52_method_16_code 4 = .ok (.aload_n 0, 1) := by decide +kernel
theorem d_jdk_52m16_5 : decode jdk_52_method_16_code 5 = .ok (.iload_n 1, 1) := by decide +kernel
theorem d_jdk_52m16_6 : decode jdk_52_method_16_code 6 = .ok (.aload_n 3, 1) := by decide +kernel
theorem d_jdk_52m16_7 : decode jdk_52_method_16_code 7 = .ok (.iconst 0, 1) := by decide +kernel
theorem d_jdk_52m16_8 : decode jdk_52_method_16_code 8 = .ok (.iload_n 2, 1) := by decide +kernel
theorem d_jdk_52m16_9 : decode jdk_52_method_16_code 9 = .ok (.invokestatic 115, 3) := by decide +kernel
theorem wd48 {a0 : Array Value} {Z : State} (hw : ∀ d ∈ tables_1, d.before a0 Z = true) : ((Jvm.Cond.code ({ cls := "java/lang/StringUTF16", name := "compress", desc := "([CI[BII)I" } : Jvm.MethodName) jdk_52_method_21_code (7 : Nat) (Option.some Jvm.ClassFile.FieldType.int)) : Jvm.Cond).before a0 Z = true := hw _ (List.mem_of_getElem? (i := 48) rfl)
theorem pd4 : parseMethodDescriptor "([CI[BII)I" = some ⟨[(.array .char), .int, (.array .byte), .int, .int], some .int⟩ := by decide +kernel
theorem wd46 {a0 : Array Value} {Z : State} (hw : ∀ d ∈ tables_1, d.before a0 Z = true) : ((Jvm.Cond.methodLink "java/lang/StringUTF16" (115 : Nat) ({ cls := "java/lang/StringUTF16", name := "compress", desc := "([CI[BII)I" } : Jvm.MethodName)) : Jvm.Cond).before a0 Z = true := hw _ (List.mem_of_getElem? (i := 46) rfl)
theorem wd47 {a0 : Array Value} {Z : State} (hw : ∀ d ∈ tables_1, d.before a0 Z = true) : ((Jvm.Cond.static ({ cls := "java/lang/StringUTF16", name := "compress", desc := "([CI[BII)I" } : Jvm.MethodName)) : Jvm.Cond).before a0 Z = true := hw _ (List.mem_of_getElem? (i := 47) rfl)
theorem d_jdk_52m16_12 : decode jdk_52_method_16_code 12 = .ok (.istore 4, 2) := by decide +kernel
theorem d_jdk_52m16_14 : decode jdk_52_method_16_code 14 = .ok (.iload 4, 2) := by decide +kernel
theorem d_jdk_52m16_16 : decode jdk_52_method_16_code 16 = .ok (.iload_n 2, 1) := by decide +kernel
theorem d_jdk_52m16_17 : decode jdk_52_method_16_code 17 = .ok (.if_icmp .eq 40, 3) := by decide +kernel
theorem d_jdk_52m16_20 : decode jdk_52_method_16_code 20 = .ok (.aload_n 0, 1) := by decide +kernel
theorem d_jdk_52m16_21 : decode jdk_52_method_16_code 21 = .ok (.iload_n 1, 1) := by decide +kernel
theorem d_jdk_52m16_22 : decode jdk_52_method_16_code 22 = .ok (.iload_n 2, 1) := by decide +kernel
theorem d_jdk_52m16_23 : decode jdk_52_method_16_code 23 = .ok (.invokestatic 119, 3) := by decide +kernel
theorem wd54 {a0 : Array Value} {Z : State} (hw : ∀ d ∈ tables_1, d.before a0 Z = true) : ((Jvm.Cond.code ({ cls := "java/lang/StringUTF16", name := "toBytes", desc := "([CII)[B" } : Jvm.MethodName) jdk_52_method_14_code (5 : Nat) (Option.some (Jvm.ClassFile.FieldType.array Jvm.ClassFile.FieldType.byte))) : Jvm.Cond).before a0 Z = true := hw _ (List.mem_of_getElem? (i := 54) rfl)
theorem pd5 : parseMethodDescriptor "([CII)[B" = some ⟨[(.array .char), .int, .int], some (.array .byte)⟩ := by decide +kernel
theorem wd52 {a0 : Array Value} {Z : State} (hw : ∀ d ∈ tables_1, d.before a0 Z = true) : ((Jvm.Cond.methodLink "java/lang/StringUTF16" (119 : Nat) ({ cls := "java/lang/StringUTF16", name := "toBytes", desc := "([CII)[B" } : Jvm.MethodName)) : Jvm.Cond).before a0 Z = true := hw _ (List.mem_of_getElem? (i := 52) rfl)
theorem wd53 {a0 : Array Value} {Z : State} (hw : ∀ d ∈ tables_1, d.before a0 Z = true) : ((Jvm.Cond.static ({ cls := "java/lang/StringUTF16", name := "toBytes", desc := "([CII)[B" } : Jvm.MethodName)) : Jvm.Cond).before a0 Z = true := hw _ (List.mem_of_getElem? (i := 53) rfl)
theorem d_jdk_52m16_26 : decode jdk_52_method_16_code 26 = .ok (.astore 5, 2) := by decide +kernel
theorem d_jdk_52m16_28 : decode jdk_52_method_16_code 28 = .ok (.aload 5, 2) := by decide +kernel
theorem d_jdk_52m16_30 : decode jdk_52_method_16_code 30 = .ok (.iload 4, 2) := by decide +kernel
theorem d_jdk_52m16_32 : decode jdk_52_method_16_code 32 = .ok (.invokestatic 71, 3) := by decide +kernel
theorem wd70 {a0 : Array Value} {Z : State} (hw : ∀ d ∈ tables_1, d.before a0 Z = true) : ((Jvm.Cond.code ({ cls := "java/lang/StringUTF16", name := "getChar", desc := "([BI)C" } : Jvm.MethodName) jdk_52_method_5_code (2 : Nat) (Option.some Jvm.ClassFile.FieldType.char)) : Jvm.Cond).before a0 Z = true := hw _ (List.mem_of_getElem? (i := 70) rfl)
theorem pd6 : parseMethodDescriptor "([BI)C" = some ⟨[(.array .byte), .int], some .char⟩ := by decide +kernel
theorem wd68 {a0 : Array Value} {Z : State} (hw : ∀ d ∈ tables_1, d.before a0 Z = true) : ((Jvm.Cond.methodLink "java/lang/StringUTF16" (71 : Nat) ({ cls := "java/lang/StringUTF16", name := "getChar", desc := "([BI)C" } : Jvm.MethodName)) : Jvm.Cond).before a0 Z = true := hw _ (List.mem_of_getElem? (i := 68) rfl)
theorem wd69 {a0 : Array Value} {Z : State} (hw : ∀ d ∈ tables_1, d.before a0 Z = true) : ((Jvm.Cond.static ({ cls := "java/lang/StringUTF16", name := "getChar", desc := "([BI)C" } : Jvm.MethodName)) : Jvm.Cond).before a0 Z = true := hw _ (List.mem_of_getElem? (i := 69) rfl)
theorem d_jdk_52m16_35 : decode jdk_52_method_16_code 35 = .ok (.sipush 255, 3) := by decide +kernel
theorem d_jdk_52m16_38 : decode jdk_52_method_16_code 38 = .ok (.if_icmp .gt 16, 3) := by decide +kernel
theorem d_jdk_52m16_54 : decode jdk_52_method_16_code 54 = .ok (.aload 5, 2) := by decide +kernel
theorem d_jdk_52m16_56 : decode jdk_52_method_16_code 56 = .ok (.areturn, 1) := by decide +kernel
def Q_cmp3_1_0 (Z : State) (zC : Int32) (vF : Value) (a1 : Addr) (kc : ClassId) (c0 : Int32) (h0 : Heap) (v : Option Value) (h : Heap) (L : List Loc) : Prop := ∃ (a : Addr), ∃ (kb : ClassId), v = some (.ref a) ∧ Fr Z.heap.size L ∧ Keep h0 h [] ∧ h0.size ≤ a ∧ Arv Z h a kb .byte (2 : Int32) [(.int (StrChars.lo8 c0)), (.int (StrChars.hi8 c0))] (.int 0)
set_option maxRecDepth 65536 in
set_option maxHeartbeats 40000000 in
theorem rm_cmp3_1_0 (l : Launch) (Z : State) (a0 : Array Value) (hw : ∀ d ∈ tables_1, d.before a0 Z = true) (zC : Int32) (SC : Sta Z Z.heap "java/lang/String" "COMPACT_STRINGS" "Z" (.int zC)) (PC : ¬ zC = (0 : Int32)) (vF : Value) (rF : vF = .null ∨ ∃ a, vF = .ref a) (SF : Sta Z Z.heap "jdk/internal/util/Preconditions" "SIOOBE_FORMATTER" "Ljava/util/function/BiFunction;" vF) (SA : Sta Z Z.heap "java/lang/StringUTF16" "$assertionsDisabled" "Z" (.int (1 : Int32))) (SH : Sta Z Z.heap "java/lang/StringUTF16" "HI_BYTE_SHIFT" "I" (.int (0 : Int32))) (SL : Sta Z Z.heap "java/lang/StringUTF16" "LO_BYTE_SHIFT" "I" (.int (8 : Int32))) (a1 : Addr) (kc : ClassId) (c0 : Int32) (h0 : Heap) (O0 : Old Z Z.heap.size h0) (P1 : Arv Z h0 a1 kc .char (1 : Int32) [(.int c0)] (.int 0)) (H0 : (¬ (c0 < (0 : Int32)))) (J0 : (¬ ((65535 : Int32) < c0))) (W0 : ((255 : Int32) < c0)) :
    Con l Z (⟨"java/lang/StringUTF16", "compress", "([CII)[B"⟩ : MethodName) jdk_52_method_16_code 6 (some (.array .byte)) ({ frames := 3, cells := 2, slots := 3, locals := 40 } : Room) #[(.ref a1), (.int (0 : Int32)), (.int (1 : Int32))] h0 (Q_cmp3_1_0 Z zC vF a1 kc c0 h0) := by
  refine Con.intro pn2 ?_
  intro p e s m below meth c T0 X0 hx hby hml hown0 hnm hret hlk hZ0 e0
  have N0 := Fr.nil Z.heap.size
  refine castGo (g' := mkF m 0 #[.val (.ref a1), .val (.int (0 : Int32)), .val (.int (1 : Int32)), .unset, .unset, .unset] []) (by first | rfl | (simp [entryFrame, mkF, argsToLocals, Value.category]; done)) ?_
  show Go _ _ _ _ (T0.setTop (mkF m 0 #[.val (.ref a1), .val (.int (0 : Int32)), .val (.int (1 : Int32)), .unset, .unset, .unset] []))
  refine iL X0 hx (hb hby d_jdk_52m16_0) (q := 1) rfl rfl ?_
  refine g_newA X0 hx hZ0 (aty := .byte) (wd20 hw) (by decide) (n := 1) (by decide) (by decide) (by decide) (by decide) e0 (hb hby d_jdk_52m16_1) (q := 3) rfl ?_
  intro T99 h99 k99 b99 g99 X99 e99 E99 V99
  have Va99 : Arv Z h99 b99 k99 .byte (1 : Int32) [(.int (0 : Int32))] (.int 0) := V99
  refine sA X99 hx (hb hby d_jdk_52m16_3) (q := 4) rfl rfl (Ls' := #[.val (.ref a1), .val (.int (0 : Int32)), .val (.int (1 : Int32)), .val (.ref b99), .unset, .unset]) rfl ?_
  refine aL X99 hx (hb hby d_jdk_52m16_4) (q := 5) rfl rfl rfl ?_
  refine iL X99 hx (hb hby d_jdk_52m16_5) (q := 6) rfl rfl ?_
  refine aL X99 hx (hb hby d_jdk_52m16_6) (q := 7) rfl rfl rfl ?_
  refine cI X99 hx (hb hby d_jdk_52m16_7) (q := 8) rfl (z := (0 : Int32)) rfl ?_
  refine iL X99 hx (hb hby d_jdk_52m16_8) (q := 9) rfl rfl ?_
  have f104 : Arv Z h99 a1 kc .char (1 : Int32) [(.int c0)] (.int 0) := P1.ext E99
  have gz105 : Z.heap.size ≤ b99 := Nat.le_trans O0.2.1 (Nat.le_of_eq g99.symm)
  have ne106 : a1 ≠ b99 := (Nat.ne_of_lt (Nat.lt_of_lt_of_le (Nat.lt_of_lt_of_le P1.lt (Nat.le_refl _)) (Nat.le_of_eq g99.symm)))
  have f107 : Old Z Z.heap.size h99 := O0.ext E99
  refine g_st X99 hx hZ0 hown0 (wd46 hw) (wd47 hw) (wd44 hw) (wd48 hw) (by decide) e99 (Con.back (W := 0) (rm_cmp5_1_0 l Z a0 hw zC SC PC vF rF SF SA SH SL a1 b99 kc k99 c0 h99 f107 f104 Va99 gz105 ne106 W0) hZ0 (wd48 hw) (wd44 hw) (by decide) (by decide)) (by rw [hml]; rfl) (lenOf pd4 rfl) rfl (Nat.le_of_eq rfl) (hb hby d_jdk_52m16_9) (q := 12) rfl (by decide) (by decide) ?_
  intro v103 T103 L103 X103 Q103
  obtain ⟨rfl, Nq103, K103q⟩ := Q103
  have N103 := Fr.app N0 Nq103
  show Go _ _ _ _ (T103.setTop (mkF m 12 #[.val (.ref a1), .val (.int (0 : Int32)), .val (.int (1 : Int32)), .val (.ref b99), .unset, .unset] [(.int (0 : Int32))]))
  refine sIw X103 hx (hb hby d_jdk_52m16_12) (q := 14) rfl (Ls' := #[.val (.ref a1), .val (.int (0 : Int32)), .val (.int (1 : Int32)), .val (.ref b99), .val (.int (0 : Int32)), .unset]) rfl ?_
  refine iLw X103 hx (hb hby d_jdk_52m16_14) (q := 16) rfl rfl ?_
  refine iL X103 hx (hb hby d_jdk_52m16_16) (q := 17) rfl rfl ?_
  refine icN X103 hx (hb hby d_jdk_52m16_17) (q := 20) rfl (by decide) ?_
  refine aL X103 hx (hb hby d_jdk_52m16_20) (q := 21) rfl rfl rfl ?_
  refine iL X103 hx (hb hby d_jdk_52m16_21) (q := 22) rfl rfl ?_
  refine iL X103 hx (hb hby d_jdk_52m16_22) (q := 23) rfl rfl ?_
  have f110 : Arv Z T103.heap a1 kc .char (1 : Int32) [(.int c0)] (.int 0) := f104.keep K103q (ninS ne106 nin0)
  have f111 : Old Z Z.heap.size T103.heap := f107.keep K103q (allS gz105 all0)
  refine g_st X103 hx hZ0 hown0 (wd52 hw) (wd53 hw) (wd44 hw) (wd54 hw) (by decide) rfl (Con.back (W := 0) (rm_toB1 l Z a0 hw zC SC PC vF rF SF SA SH SL a1 kc c0 T103.heap f111 f110) hZ0 (wd54 hw) (wd44 hw) (by decide) (by decide)) (by rw [hml]; rfl) (lenOf pd5 rfl) rfl (Nat.le_of_eq rfl) (hb hby d_jdk_52m16_23) (q := 26) rfl (by decide) (by decide) ?_
  intro v109 T109 L109 X109 Q109
  obtain ⟨a_109, kb_109, rfl, Nq109, K109q, q109_0, q109_1⟩ := Q109
  have N109 := Fr.app N103 Nq109
  show Go _ _ _ _ (T109.setTop (mkF m 26 #[.val (.ref a1), .val (.int (0 : Int32)), .val (.int (1 : Int32)), .val (.ref b99), .val (.int (0 : Int32)), .unset] [(.ref a_109)]))
  refine sAw X109 hx (hb hby d_jdk_52m16_26) (q := 28) rfl rfl (Ls' := #[.val (.ref a1), .val (.int (0 : Int32)), .val (.int (1 : Int32)), .val (.ref b99), .val (.int (0 : Int32)), .val (.ref a_109)]) rfl ?_
  refine aLw X109 hx (hb hby d_jdk_52m16_28) (q := 30) rfl rfl rfl ?_
  refine iLw X109 hx (hb hby d_jdk_52m16_30) (q := 32) rfl rfl ?_
  have f113 : Old Z Z.heap.size T109.heap := f111.keep K109q all0
  refine g_st X109 hx hZ0 hown0 (wd68 hw) (wd69 hw) (wd44 hw) (wd70 hw) (by decide) rfl (Con.back (W := 0) (rm_get1_0 l Z a0 hw zC SC PC vF rF SF SA SH SL a_109 kb_109 c0 T109.heap f113 q109_1 H0 J0) hZ0 (wd70 hw) (wd44 hw) (by decide) (by decide)) (by rw [hml]; rfl) (lenOf pd6 rfl) rfl (Nat.le_of_eq rfl) (hb hby d_jdk_52m16_32) (q := 35) rfl (by decide) (by decide) ?_
  intro v112 T112 L112 X112 Q112
  obtain ⟨rfl, Nq112, e112⟩ := Q112
  have N112 := Fr.app N109 Nq112
  show Go _ _ _ _ (T112.setTop (mkF m 35 #[.val (.ref a1), .val (.int (0 : Int32)), .val (.int (1 : Int32)), .val (.ref b99), .val (.int (0 : Int32)), .val (.ref a_109)] [(.int c0)]))
  refine pI X112 hx (hb hby d_jdk_52m16_35) (q := 38) rfl (z := (255 : Int32)) rfl ?_
  refine icY X112 hx (hb hby d_jdk_52m16_38) (q := 54) (by decide) (by decide) (tlt W0).2.2.1 ?_
  refine aLw X112 hx (hb hby d_jdk_52m16_54) (q := 56) rfl rfl rfl ?_
  have K114 : Keep h0 h99 [] := (Keep.refl h0 []).ext E99
  have gh115 : h0.size ≤ b99 := Nat.le_trans (Nat.le_refl _) (Nat.le_of_eq g99.symm)
  have K116 : Keep h0 T103.heap [] := K114.trans K103q (allS (Or.inr gh115) all0)
  have K117 : Keep h0 T109.heap [] := K116.trans K109q all0
  have le119 : (h0).size ≤ (h99).size := E99.1
  have le120 : (h0).size ≤ (T103.heap).size := (Nat.le_trans le119 K103q.1)
  have gh118 : h0.size ≤ a_109 := Nat.le_trans le120 q109_0
  refine endP X112 hlk (fun h => by rw [hret] at h; cases h) (lastA X112 hx hret rfl rfl rfl (hb hby d_jdk_52m16_56)) ?_ (by decide) (by decide)
  rw [e112]
  exact ⟨a_109, kb_109, rfl, N112, K117, gh118, q109_1⟩
theorem d_jdk_52m15_0 : decode jdk_52_method_15_code 0 = .ok (.iload_n 1, 1) := by decide +kernel
theorem d_jdk_52m15_1 : decode jdk_52_method_15_code 1 = .ok (.aload_n 0, 1) := by decide +kernel
theorem d_jdk_52m15_2 : decode jdk_52_method_15_code 2 = .ok (.arraylength, 1) := by decide +kernel
theorem d_jdk_52m15_3 : decode jdk_52_method_15_code 3 = .ok (.isub, 1) := by decide +kernel
theorem d_jdk_52m15_4 : decode jdk_52_method_15_code 4 = .ok (.bipush 31, 2) := by decide +kernel
theorem d_jdk_52m15_6 : decode jdk_52_method_15_code 6 = .ok (.iushr, 1) := by decide +kernel
theorem d_jdk_52m15_7 : decode jdk_52_method_15_code 7 = .ok (.i2b, 1) := by decide +kernel
theorem d_jdk_52m15_8 : decode jdk_52_method_15_code 8 = .ok (.ireturn, 1) := by decide +kernel
def Q_cfa1 (Z : State) (zC : Int32) (vF : Value) (a1 : Addr) (kb : ClassId) (vs : List Value) (h0 : Heap) (v : Option Value) (h : Heap) (L : List Loc) : Prop := v = some (.int (1 : Int32)) ∧ Fr Z.heap.size L ∧ h = h0
set_option maxRecDepth 65536 in
set_option maxHeartbeats 40000000 in
theorem rm_cfa1 (l : Launch) (Z : State) (a0 : Array Value) (hw : ∀ d ∈ tables_1, d.before a0 Z = true) (zC : Int32) (SC : Sta Z Z.heap "java/lang/String" "COMPACT_STRINGS" "Z" (.int zC)) (PC : ¬ zC = (0 : Int32)) (vF : Value) (rF : vF = .null ∨ ∃ a, vF = .ref a) (SF : Sta Z Z.heap "jdk/internal/util/Preconditions" "SIOOBE_FORMATTER" "Ljava/util/function/BiFunction;" vF) (SA : Sta Z Z.heap "java/lang/StringUTF16" "$assertionsDisabled" "Z" (.int (1 : Int32))) (SH : Sta Z Z.heap "java/lang/StringUTF16" "HI_BYTE_SHIFT" "I" (.int (0 : Int32))) (SL : Sta Z Z.heap "java/lang/StringUTF16" "LO_BYTE_SHIFT" "I" (.int (8 : Int32))) (a1 : Addr) (kb : ClassId) (vs : List Value) (h0 : Heap) (O0 : Old Z Z.heap.size h0) (P1 : Arv Z h0 a1 kb .byte (2 : Int32) vs (.int 0)) :
    Con l Z (⟨"java/lang/StringUTF16", "coderFromArrayLen", "([BI)B"⟩ : MethodName) jdk_52_method_15_code 2 (some .byte) ({ frames := 0, cells := 0, slots := 0, locals := 0 } : Room) #[(.ref a1), (.int (1 : Int32))] h0 (Q_cfa1 Z zC vF a1 kb vs h0) := by
  refine Con.intro pn2 ?_
  intro p e s m below meth c T0 X0 hx hby hml hown0 hnm hret hlk hZ0 e0
  have N0 := Fr.nil Z.heap.size
  refine castGo (g' := mkF m 0 #[.val (.ref a1), .val (.int (1 : Int32))] []) (by first | rfl | (simp [entryFrame, mkF, argsToLocals, Value.category]; done)) ?_
  show Go _ _ _ _ (T0.setTop (mkF m 0 #[.val (.ref a1), .val (.int (1 : Int32))] []))
  refine iL X0 hx (hb hby d_jdk_52m15_0) (q := 1) rfl rfl ?_
  refine aL X0 hx (hb hby d_jdk_52m15_1) (q := 2) rfl rfl rfl ?_
  refine g_len X0 hx hZ0 P1 e0 (hb hby d_jdk_52m15_2) (q := 3) rfl ?_
  refine g_isub X0 hx (hb hby d_jdk_52m15_3) (q := 4) rfl (z := (-1 : Int32)) (by decide) ?_
  refine bI X0 hx (hb hby d_jdk_52m15_4) (q := 6) rfl (z := (31 : Int32)) rfl ?_
  refine g_iushr X0 hx (hb hby d_jdk_52m15_6) (q := 7) rfl (z := (1 : Int32)) (by decide) ?_
  refine g_i2b X0 hx (hb hby d_jdk_52m15_7) (q := 8) rfl (z := (1 : Int32)) (by decide) ?_
  refine endP X0 hlk (fun h => by rw [hret] at h; cases h) (lastN X0 hx (t := .byte) (z' := (1 : Int32)) hret (by simp) (by decide) (hb hby d_jdk_52m15_8)) ?_ (by decide) (by decide)
  rw [e0]
  exact ⟨rfl, N0, rfl⟩
theorem d_jdk_42m149_27 : decode jdk_42_method_149_code 27 = .ok (.getstatic 38, 3) := by decide +kernel
theorem wd41 {a0 : Array Value} {Z : State} (hw : ∀ d ∈ tables_1, d.before a0 Z = true) : ((Jvm.Cond.fieldLink "java/lang/String" (38 : Nat) "java/lang/String" "COMPACT_STRINGS" "Z") : Jvm.Cond).before a0 Z = true := hw _ (List.mem_of_getElem? (i := 41) rfl)
theorem d_jdk_42m149_30 : decode jdk_42_method_149_code 30 = .ok (.ifCond .eq 28, 3) := by decide +kernel
theorem d_jdk_42m149_33 : decode jdk_42_method_149_code 33 = .ok (.aload_n 1, 1) := by decide +kernel
theorem d_jdk_42m149_34 : decode jdk_42_method_149_code 34 = .ok (.iload_n 2, 1) := by decide +kernel
theorem d_jdk_42m149_35 : decode jdk_42_method_149_code 35 = .ok (.iload_n 3, 1) := by decide +kernel
theorem d_jdk_42m149_36 : decode jdk_42_method_149_code 36 = .ok (.invokestatic 177, 3) := by decide +kernel
theorem wd45 {a0 : Array Value} {Z : State} (hw : ∀ d ∈ tables_1, d.before a0 Z = true) : ((Jvm.Cond.code ({ cls := "java/lang/StringUTF16", name := "compress", desc := "([CII)[B" } : Jvm.MethodName) jdk_52_method_16_code (6 : Nat) (Option.some (Jvm.ClassFile.FieldType.array Jvm.ClassFile.FieldType.byte))) : Jvm.Cond).before a0 Z = true := hw _ (List.mem_of_getElem? (i := 45) rfl)
theorem wd42 {a0 : Array Value} {Z : State} (hw : ∀ d ∈ tables_1, d.before a0 Z = true) : ((Jvm.Cond.methodLink "java/lang/String" (177 : Nat) ({ cls := "java/lang/StringUTF16", name := "compress", desc := "([CII)[B" } : Jvm.MethodName)) : Jvm.Cond).before a0 Z = true := hw _ (List.mem_of_getElem? (i := 42) rfl)
theorem wd43 {a0 : Array Value} {Z : State} (hw : ∀ d ∈ tables_1, d.before a0 Z = true) : ((Jvm.Cond.static ({ cls := "java/lang/StringUTF16", name := "compress", desc := "([CII)[B" } : Jvm.MethodName)) : Jvm.Cond).before a0 Z = true := hw _ (List.mem_of_getElem? (i := 43) rfl)
theorem d_jdk_42m149_39 : decode jdk_42_method_149_code 39 = .ok (.astore 5, 2) := by decide +kernel
theorem d_jdk_42m149_41 : decode jdk_42_method_149_code 41 = .ok (.aload_n 0, 1) := by decide +kernel
theorem d_jdk_42m149_42 : decode jdk_42_method_149_code 42 = .ok (.aload 5, 2) := by decide +kernel
theorem d_jdk_42m149_44 : decode jdk_42_method_149_code 44 = .ok (.iload_n 3, 1) := by decide +kernel
theorem d_jdk_42m149_45 : decode jdk_42_method_149_code 45 = .ok (.invokestatic 47, 3) := by decide +kernel
theorem wd51 {a0 : Array Value} {Z : State} (hw : ∀ d ∈ tables_1, d.before a0 Z = true) : ((Jvm.Cond.code ({ cls := "java/lang/StringUTF16", name := "coderFromArrayLen", desc := "([BI)B" } : Jvm.MethodName) jdk_52_method_15_code (2 : Nat) (Option.some Jvm.ClassFile.FieldType.byte)) : Jvm.Cond).before a0 Z = true := hw _ (List.mem_of_getElem? (i := 51) rfl)
theorem pd7 : parseMethodDescriptor "([BI)B" = some ⟨[(.array .byte), .int], some .byte⟩ := by decide +kernel
theorem wd49 {a0 : Array Value} {Z : State} (hw : ∀ d ∈ tables_1, d.before a0 Z = true) : ((Jvm.Cond.methodLink "java/lang/String" (47 : Nat) ({ cls := "java/lang/StringUTF16", name := "coderFromArrayLen", desc := "([BI)B" } : Jvm.MethodName)) : Jvm.Cond).before a0 Z = true := hw _ (List.mem_of_getElem? (i := 49) rfl)
theorem wd50 {a0 : Array Value} {Z : State} (hw : ∀ d ∈ tables_1, d.before a0 Z = true) : ((Jvm.Cond.static ({ cls := "java/lang/StringUTF16", name := "coderFromArrayLen", desc := "([BI)B" } : Jvm.MethodName)) : Jvm.Cond).before a0 Z = true := hw _ (List.mem_of_getElem? (i := 50) rfl)
theorem d_jdk_42m149_48 : decode jdk_42_method_149_code 48 = .ok (.putfield 15, 3) := by decide +kernel
theorem d_jdk_42m149_51 : decode jdk_42_method_149_code 51 = .ok (.aload_n 0, 1) := by decide +kernel
theorem d_jdk_42m149_52 : decode jdk_42_method_149_code 52 = .ok (.aload 5, 2) := by decide +kernel
theorem d_jdk_42m149_54 : decode jdk_42_method_149_code 54 = .ok (.putfield 9, 3) := by decide +kernel
theorem d_jdk_42m149_57 : decode jdk_42_method_149_code 57 = .ok (.return_, 1) := by decide +kernel
def Q_new4w_1_0 (Z : State) (zC : Int32) (vF : Value) (a1 : Addr) (a2 : Addr) (kc : ClassId) (c0 : Int32) (h0 : Heap) (v : Option Value) (h : Heap) (L : List Loc) : Prop := ∃ (t : Addr), ∃ (kb : ClassId), v = none ∧ Fr Z.heap.size L ∧ Keep h0 h [a1] ∧ h0.size ≤ t ∧ Exa Z h a1 "java/lang/String" ∧ Fld Z h a1 "java/lang/String" "value" "[B" (.ref t) ∧ Fld Z h a1 "java/lang/String" "coder" "B" (.int (1 : Int32)) ∧ Arv Z h t kb .byte (2 : Int32) [(.int (StrChars.lo8 c0)), (.int (StrChars.hi8 c0))] (.int 0)
set_option maxRecDepth 65536 in
set_option maxHeartbeats 40000000 in
theorem rm_new4w_1_0 (l : Launch) (Z : State) (a0 : Array Value) (hw : ∀ d ∈ tables_1, d.before a0 Z = true) (zC : Int32) (SC : Sta Z Z.heap "java/lang/String" "COMPACT_STRINGS" "Z" (.int zC)) (PC : ¬ zC = (0 : Int32)) (vF : Value) (rF : vF = .null ∨ ∃ a, vF = .ref a) (SF : Sta Z Z.heap "jdk/internal/util/Preconditions" "SIOOBE_FORMATTER" "Ljava/util/function/BiFunction;" vF) (SA : Sta Z Z.heap "java/lang/StringUTF16" "$assertionsDisabled" "Z" (.int (1 : Int32))) (SH : Sta Z Z.heap "java/lang/StringUTF16" "HI_BYTE_SHIFT" "I" (.int (0 : Int32))) (SL : Sta Z Z.heap "java/lang/StringUTF16" "LO_BYTE_SHIFT" "I" (.int (8 : Int32))) (a1 : Addr) (a2 : Addr) (kc : ClassId) (c0 : Int32) (h0 : Heap) (O0 : Old Z Z.heap.size h0) (P1 : Exa Z h0 a1 "java/lang/String") (P2 : Fld Z h0 a1 "java/lang/String" "value" "[B" .null) (P3 : Fld Z h0 a1 "java/lang/String" "coder" "B" (.int (0 : Int32))) (P4 : Z.heap.size ≤ a1) (P5 : Arv Z h0 a2 kc .char (1 : Int32) [(.int c0)] (.int 0)) (H0 : (¬ (c0 < (0 : Int32)))) (J0 : (¬ ((65535 : Int32) < c0))) (W0 : ((255 : Int32) < c0)) :
    Con l Z (⟨"java/lang/String", "<init>", "([CIILjava/lang/Void;)V"⟩ : MethodName) jdk_42_method_149_code 6 none ({ frames := 4, cells := 2, slots := 3, locals := 57 } : Room) #[(.ref a1), (.ref a2), (.int (0 : Int32)), (.int (1 : Int32)), .null] h0 (Q_new4w_1_0 Z zC vF a1 a2 kc c0 h0) := by
  refine Con.intro pn0 ?_
  intro p e s m below meth c T0 X0 hx hby hml hown0 hnm hret hlk hZ0 e0
  have N0 := Fr.nil Z.heap.size
  refine castGo (g' := mkF m 0 #[.val (.ref a1), .val (.ref a2), .val (.int (0 : Int32)), .val (.int (1 : Int32)), .val .null, .unset] []) (by first | rfl | (simp [entryFrame, mkF, argsToLocals, Value.category]; done)) ?_
  show Go _ _ _ _ (T0.setTop (mkF m 0 #[.val (.ref a1), .val (.ref a2), .val (.int (0 : Int32)), .val (.int (1 : Int32)), .val .null, .unset] []))
  refine aL X0 hx (hb hby d_jdk_42m149_0) (q := 1) rfl rfl rfl ?_
  refine g_init0 X0 hx hZ0 hown0 (wd16 hw) (wd17 hw) (wd18 hw) (by rw [hml]; rfl) (by decide) (W := 0) (Nat.le_of_eq rfl) (by decide) e0 (hb hby d_jdk_42m149_1) (q := 4) rfl ?_
  intro T121 X121 e121
  refine iL X121 hx (hb hby d_jdk_42m149_4) (q := 5) rfl rfl ?_
  refine ifY X121 hx (hb hby d_jdk_42m149_5) (q := 27) (by decide) (by decide) (by decide) ?_
  refine g_getS X121 hx hZ0 hown0 (host := "") (Or.inl (wd41 hw)) Via.refl (SC.ext O0.2) e121 (hb hby d_jdk_42m149_27) (q := 30) rfl ?_
  intro T122 X122 e122
  refine ifN X122 hx (hb hby d_jdk_42m149_30) (q := 33) rfl ((if0 _ _).trans (feq PC).1) ?_
  refine aL X122 hx (hb hby d_jdk_42m149_33) (q := 34) rfl rfl rfl ?_
  refine iL X122 hx (hb hby d_jdk_42m149_34) (q := 35) rfl rfl ?_
  refine iL X122 hx (hb hby d_jdk_42m149_35) (q := 36) rfl rfl ?_
  refine g_st X122 hx hZ0 hown0 (wd42 hw) (wd43 hw) (wd44 hw) (wd45 hw) (by decide) e122 (Con.back (W := 0) (rm_cmp3_1_0 l Z a0 hw zC SC PC vF rF SF SA SH SL a2 kc c0 h0 O0 P5 H0 J0 W0) hZ0 (wd45 hw) (wd44 hw) (by decide) (by decide)) (by rw [hml]; rfl) (lenOf pd5 rfl) rfl (Nat.le_of_eq rfl) (hb hby d_jdk_42m149_36) (q := 39) rfl (by decide) (by decide) ?_
  intro v123 T123 L123 X123 Q123
  obtain ⟨a_123, kb_123, rfl, Nq123, K123q, q123_0, q123_1⟩ := Q123
  have N123 := Fr.app N0 Nq123
  show Go _ _ _ _ (T123.setTop (mkF m 39 #[.val (.ref a1), .val (.ref a2), .val (.int (0 : Int32)), .val (.int (1 : Int32)), .val .null, .unset] [(.ref a_123)]))
  refine sAw X123 hx (hb hby d_jdk_42m149_39) (q := 41) rfl rfl (Ls' := #[.val (.ref a1), .val (.ref a2), .val (.int (0 : Int32)), .val (.int (1 : Int32)), .val .null, .val (.ref a_123)]) rfl ?_
  refine aL X123 hx (hb hby d_jdk_42m149_41) (q := 42) rfl rfl rfl ?_
  refine aLw X123 hx (hb hby d_jdk_42m149_42) (q := 44) rfl rfl rfl ?_
  refine iL X123 hx (hb hby d_jdk_42m149_44) (q := 45) rfl rfl ?_
  have f125 : Old Z Z.heap.size T123.heap := O0.keep K123q all0
  refine g_st X123 hx hZ0 hown0 (wd49 hw) (wd50 hw) (wd44 hw) (wd51 hw) (by decide) rfl (Con.back (W := 1) (rm_cfa1 l Z a0 hw zC SC PC vF rF SF SA SH SL a_123 kb_123 [(.int (StrChars.lo8 c0)), (.int (StrChars.hi8 c0))] T123.heap f125 q123_1) hZ0 (wd51 hw) (wd44 hw) (by decide) (by decide)) (by rw [hml]; rfl) (lenOf pd7 rfl) rfl (Nat.le_of_eq rfl) (hb hby d_jdk_42m149_45) (q := 48) rfl (by decide) (by decide) ?_
  intro v124 T124 L124 X124 Q124
  obtain ⟨rfl, Nq124, e124⟩ := Q124
  have N124 := Fr.app N123 Nq124
  show Go _ _ _ _ (T124.setTop (mkF m 48 #[.val (.ref a1), .val (.ref a2), .val (.int (0 : Int32)), .val (.int (1 : Int32)), .val .null, .val (.ref a_123)] [(.int (1 : Int32)), (.ref a1)]))
  have f126 : Fld Z T123.heap a1 "java/lang/String" "coder" "B" (.int (0 : Int32)) := P3.keep K123q nin0
  have f127 : Exa Z T123.heap a1 "java/lang/String" := P1.keep K123q
  refine g_putF X124 hx hZ0 hown0 (host := "") (Or.inl (wd26 hw)) Via.refl f126 f127 (Or.inr ⟨(wd22 hw), rfl, hnm⟩) (wd2 hw) (ty := .byte) (by decide) rfl rfl e124 (hb hby d_jdk_42m149_48) (q := 51) rfl ?_
  intro T128 h128 X128 e128 W128
  have N128 := Fr.snoc X128 N124 P4
  have Fw128 : Fld Z h128 a1 "java/lang/String" "coder" "B" (.int (1 : Int32)) := f126.same W128
  refine aL X128 hx (hb hby d_jdk_42m149_51) (q := 52) rfl rfl rfl ?_
  refine aLw X128 hx (hb hby d_jdk_42m149_52) (q := 54) rfl rfl rfl ?_
  have f129 : Fld Z T123.heap a1 "java/lang/String" "value" "[B" .null := P2.keep K123q nin0
  have f130 : Fld Z h128 a1 "java/lang/String" "value" "[B" .null := f129.other W128 (Or.inr (slot_ne (Or.inr (wd21 hw)) (Or.inr (wd22 hw)) (by decide) (t := (.array .byte)) (t' := .byte) (by decide) (by decide)))
  have f131 : Exa Z h128 a1 "java/lang/String" := f127.wr W128
  refine g_putF X128 hx hZ0 hown0 (host := "") (Or.inl (wd25 hw)) Via.refl f130 f131 (Or.inr ⟨(wd21 hw), rfl, hnm⟩) (wd2 hw) (ty := (.array .byte)) (by decide) rfl rfl e128 (hb hby d_jdk_42m149_54) (q := 57) rfl ?_
  intro T132 h132 X132 e132 W132
  have N132 := Fr.snoc X132 N128 P4
  have Fw132 : Fld Z h132 a1 "java/lang/String" "value" "[B" (.ref a_123) := f130.same W132
  have K133 : Keep h0 T123.heap [a1] := (Keep.refl h0 [a1]).trans K123q all0
  have K134 : Keep h0 h128 [a1] := K133.wr W128 (Or.inl (by simp))
  have K135 : Keep h0 h132 [a1] := K134.wr W132 (Or.inl (by simp))
  have gh136 : h0.size ≤ a_123 := Nat.le_trans (Nat.le_refl _) q123_0
  have f137 : Exa Z h132 a1 "java/lang/String" := f131.wr W132
  have f138 : Fld Z h132 a1 "java/lang/String" "coder" "B" (.int (1 : Int32)) := Fw128.other W132 (Or.inr (slot_ne (Or.inr (wd22 hw)) (Or.inr (wd21 hw)) (by decide) (t := .byte) (t' := (.array .byte)) (by decide) (by decide)))
  have ne139 : a_123 ≠ a1 := (Nat.ne_of_gt (Nat.lt_of_lt_of_le (Nat.lt_of_lt_of_le P1.lt (Nat.le_refl _)) q123_0))
  have f140 : Arv Z h128 a_123 kb_123 .byte (2 : Int32) [(.int (StrChars.lo8 c0)), (.int (StrChars.hi8 c0))] (.int 0) := q123_1.other W128 ne139
  have f141 : Arv Z h132 a_123 kb_123 .byte (2 : Int32) [(.int (StrChars.lo8 c0)), (.int (StrChars.hi8 c0))] (.int 0) := f140.other W132 ne139
  refine endP X132 hlk (fun _ => rfl) (lastV X132 hx hret (hb hby d_jdk_42m149_57)) ?_ (by decide) (by decide)
  rw [e132]
  exact ⟨a_123, kb_123, rfl, N132, K135, gh136, f137, Fw132, f138, f141⟩
def Q_new1w_1_0 (Z : State) (zC : Int32) (vF : Value) (a1 : Addr) (a2 : Addr) (kc : ClassId) (c0 : Int32) (h0 : Heap) (v : Option Value) (h : Heap) (L : List Loc) : Prop := ∃ (t : Addr), ∃ (kb : ClassId), v = none ∧ Fr Z.heap.size L ∧ Keep h0 h [a1] ∧ h0.size ≤ t ∧ Exa Z h a1 "java/lang/String" ∧ Fld Z h a1 "java/lang/String" "value" "[B" (.ref t) ∧ Fld Z h a1 "java/lang/String" "coder" "B" (.int (1 : Int32)) ∧ Arv Z h t kb .byte (2 : Int32) [(.int (StrChars.lo8 c0)), (.int (StrChars.hi8 c0))] (.int 0)
set_option maxRecDepth 65536 in
set_option maxHeartbeats 40000000 in
theorem rm_new1w_1_0 (l : Launch) (Z : State) (a0 : Array Value) (hw : ∀ d ∈ tables_1, d.before a0 Z = true) (zC : Int32) (SC : Sta Z Z.heap "java/lang/String" "COMPACT_STRINGS" "Z" (.int zC)) (PC : ¬ zC = (0 : Int32)) (vF : Value) (rF : vF = .null ∨ ∃ a, vF = .ref a) (SF : Sta Z Z.heap "jdk/internal/util/Preconditions" "SIOOBE_FORMATTER" "Ljava/util/function/BiFunction;" vF) (SA : Sta Z Z.heap "java/lang/StringUTF16" "$assertionsDisabled" "Z" (.int (1 : Int32))) (SH : Sta Z Z.heap "java/lang/StringUTF16" "HI_BYTE_SHIFT" "I" (.int (0 : Int32))) (SL : Sta Z Z.heap "java/lang/StringUTF16" "LO_BYTE_SHIFT" "I" (.int (8 : Int32))) (a1 : Addr) (a2 : Addr) (kc : ClassId) (c0 : Int32) (h0 : Heap) (O0 : Old Z Z.heap.size h0) (P1 : Exa Z h0 a1 "java/lang/String") (P2 : Fld Z h0 a1 "java/lang/String" "value" "[B" .null) (P3 : Fld Z h0 a1 "java/lang/String" "coder" "B" (.int (0 : Int32))) (P4 : Z.heap.size ≤ a1) (P5 : Arv Z h0 a2 kc .char (1 : Int32) [(.int c0)] (.int 0)) (H0 : (¬ (c0 < (0 : Int32)))) (J0 : (¬ ((65535 : Int32) < c0))) (W0 : ((255 : Int32) < c0)) :
    Con l Z (⟨"java/lang/String", "<init>", "([C)V"⟩ : MethodName) jdk_42_method_3_code 2 none ({ frames := 5, cells := 2, slots := 3, locals := 74 } : Room) #[(.ref a1), (.ref a2)] h0 (Q_new1w_1_0 Z zC vF a1 a2 kc c0 h0) := by
  refine Con.intro pn0 ?_
  intro p e s m below meth c T0 X0 hx hby hml hown0 hnm hret hlk hZ0 e0
  have N0 := Fr.nil Z.heap.size
  refine castGo (g' := mkF m 0 #[.val (.ref a1), .val (.ref a2)] []) (by first | rfl | (simp [entryFrame, mkF, argsToLocals, Value.category]; done)) ?_
  show Go _ _ _ _ (T0.setTop (mkF m 0 #[.val (.ref a1), .val (.ref a2)] []))
  refine aL X0 hx (hb hby d_jdk_42m3_0) (q := 1) rfl rfl rfl ?_
  refine aL X0 hx (hb hby d_jdk_42m3_1) (q := 2) rfl rfl rfl ?_
  refine cI X0 hx (hb hby d_jdk_42m3_2) (q := 3) rfl (z := (0 : Int32)) rfl ?_
  refine aL X0 hx (hb hby d_jdk_42m3_3) (q := 4) rfl rfl rfl ?_
  refine g_len X0 hx hZ0 P5 e0 (hb hby d_jdk_42m3_4) (q := 5) rfl ?_
  refine cN X0 hx (hb hby d_jdk_42m3_5) (q := 6) rfl ?_
  refine g_sp X0 hx hZ0 hown0 (wd12 hw) (wd13 hw) (wd15 hw) rfl (by decide) e0 (Con.back (W := 0) (rm_new4w_1_0 l Z a0 hw zC SC PC vF rF SF SA SH SL a1 a2 kc c0 h0 O0 P1 P2 P3 P4 P5 H0 J0 W0) hZ0 (wd15 hw) (wd3 hw) (by decide) (by decide)) (by rw [hml]; rfl) (lenOf pd0 rfl) rfl (Nat.le_of_eq rfl) (hb hby d_jdk_42m3_6) (q := 9) rfl (by decide) (by decide) ?_
  intro v142 T142 L142 X142 Q142
  obtain ⟨t_142, kb_142, rfl, Nq142, K142q, q142_0, q142_1, q142_2, q142_3, q142_4⟩ := Q142
  have N142 := Fr.app N0 Nq142
  show Go _ _ _ _ (T142.setTop (mkF m 9 #[.val (.ref a1), .val (.ref a2)] []))
  have K143 : Keep h0 T142.heap [a1] := (Keep.refl h0 [a1]).trans K142q (allS (Or.inl (by simp)) all0)
  have gh144 : h0.size ≤ t_142 := Nat.le_trans (Nat.le_refl _) q142_0
  refine endP X142 hlk (fun _ => rfl) (lastV X142 hx hret (hb hby d_jdk_42m3_9)) ?_ (by decide) (by decide)
  exact ⟨t_142, kb_142, rfl, N142, K143, gh144, q142_1, q142_2, q142_3, q142_4⟩
def Q_put2_0 (Z : State) (zC : Int32) (vF : Value) (a1 : Addr) (kb : ClassId) (c0 : Int32) (x0 : Int32) (x1 : Int32) (x2 : Int32) (x3 : Int32) (h0 : Heap) (v : Option Value) (h : Heap) (L : List Loc) : Prop := v = none ∧ Fr Z.heap.size L ∧ Keep h0 h [a1] ∧ Arv Z h a1 kb .byte (4 : Int32) [(.int (StrChars.lo8 c0)), (.int (StrChars.hi8 c0)), (.int x2), (.int x3)] (.int 0)
set_option maxRecDepth 65536 in
set_option maxHeartbeats 40000000 in
theorem rm_put2_0 (l : Launch) (Z : State) (a0 : Array Value) (hw : ∀ d ∈ tables_1, d.before a0 Z = true) (zC : Int32) (SC : Sta Z Z.heap "java/lang/String" "COMPACT_STRINGS" "Z" (.int zC)) (PC : ¬ zC = (0 : Int32)) (vF : Value) (rF : vF = .null ∨ ∃ a, vF = .ref a) (SF : Sta Z Z.heap "jdk/internal/util/Preconditions" "SIOOBE_FORMATTER" "Ljava/util/function/BiFunction;" vF) (SA : Sta Z Z.heap "java/lang/StringUTF16" "$assertionsDisabled" "Z" (.int (1 : Int32))) (SH : Sta Z Z.heap "java/lang/StringUTF16" "HI_BYTE_SHIFT" "I" (.int (0 : Int32))) (SL : Sta Z Z.heap "java/lang/StringUTF16" "LO_BYTE_SHIFT" "I" (.int (8 : Int32))) (a1 : Addr) (kb : ClassId) (c0 : Int32) (x0 : Int32) (x1 : Int32) (x2 : Int32) (x3 : Int32) (h0 : Heap) (O0 : Old Z Z.heap.size h0) (P1 : Arv Z h0 a1 kb .byte (4 : Int32) [(.int x0), (.int x1), (.int x2), (.int x3)] (.int 0)) (P2 : Z.heap.size ≤ a1) :
    Con l Z (⟨"java/lang/StringUTF16", "putChar", "([BII)V"⟩ : MethodName) jdk_52_method_4_code 3 none ({ frames := 0, cells := 0, slots := 0, locals := 0 } : Room) #[(.ref a1), (.int (0 : Int32)), (.int c0)] h0 (Q_put2_0 Z zC vF a1 kb c0 x0 x1 x2 x3 h0) := by
  refine Con.intro pn2 ?_
  intro p e s m below meth c T0 X0 hx hby hml hown0 hnm hret hlk hZ0 e0
  have N0 := Fr.nil Z.heap.size
  refine castGo (g' := mkF m 0 #[.val (.ref a1), .val (.int (0 : Int32)), .val (.int c0)] []) (by first | rfl | (simp [entryFrame, mkF, argsToLocals, Value.category]; done)) ?_
  show Go _ _ _ _ (T0.setTop (mkF m 0 #[.val (.ref a1), .val (.int (0 : Int32)), .val (.int c0)] []))
  refine g_getS X0 hx hZ0 hown0 (host := "") (Or.inl (wd65 hw)) Via.refl (SA.ext O0.2) e0 (hb hby d_jdk_52m4_0) (q := 3) rfl ?_
  intro T145 X145 e145
  refine ifY X145 hx (hb hby d_jdk_52m4_3) (q := 28) (by decide) (by decide) (by decide) ?_
  refine iL X145 hx (hb hby d_jdk_52m4_28) (q := 29) rfl rfl ?_
  refine cI X145 hx (hb hby d_jdk_52m4_29) (q := 30) rfl (z := (1 : Int32)) rfl ?_
  refine g_ishl X145 hx (hb hby d_jdk_52m4_30) (q := 31) rfl (z := (0 : Int32)) (by decide) ?_
  refine sI X145 hx (hb hby d_jdk_52m4_31) (q := 32) rfl (Ls' := #[.val (.ref a1), .val (.int (0 : Int32)), .val (.int c0)]) rfl ?_
  refine aL X145 hx (hb hby d_jdk_52m4_32) (q := 33) rfl rfl rfl ?_
  refine iL X145 hx (hb hby d_jdk_52m4_33) (q := 34) rfl rfl ?_
  refine g_iinc X145 hx (hb hby d_jdk_52m4_34) (q := 37) rfl rfl (z := (1 : Int32)) (by decide) (Ls' := #[.val (.ref a1), .val (.int (1 : Int32)), .val (.int c0)]) rfl ?_
  refine iL X145 hx (hb hby d_jdk_52m4_37) (q := 38) rfl rfl ?_
  refine g_getS X145 hx hZ0 hown0 (host := "") (Or.inl (wd66 hw)) Via.refl (SH.ext O0.2) e145 (hb hby d_jdk_52m4_38) (q := 41) rfl ?_
  intro T146 X146 e146
  refine g_ishr X146 hx (hb hby d_jdk_52m4_41) (q := 42) rfl (z := c0) (shr_zero _) ?_
  refine g_i2b X146 hx (hb hby d_jdk_52m4_42) (q := 43) rfl (z := (StrChars.lo8 c0)) rfl ?_
  refine g_stB X146 hx hZ0 P1 (i := 0) (by decide) (by decide) (by decide) (Nat.le_of_ble_eq_true rfl) (y := (StrChars.lo8 c0)) (lo8_nar _) e146 (hb hby d_jdk_52m4_43) (q := 44) rfl ?_
  intro T147 h147 X147 e147 W147 V147
  have N147 := Fr.snoc X147 N0 P2
  have Va147 : Arv Z h147 a1 kb .byte (4 : Int32) [(.int (StrChars.lo8 c0)), (.int x1), (.int x2), (.int x3)] (.int 0) := V147
  refine aL X147 hx (hb hby d_jdk_52m4_44) (q := 45) rfl rfl rfl ?_
  refine iL X147 hx (hb hby d_jdk_52m4_45) (q := 46) rfl rfl ?_
  refine iL X147 hx (hb hby d_jdk_52m4_46) (q := 47) rfl rfl ?_
  have f149 : Old Z Z.heap.size h147 := O0.wr W147 P2
  refine g_getS X147 hx hZ0 hown0 (host := "") (Or.inl (wd67 hw)) Via.refl (SL.ext f149.2) e147 (hb hby d_jdk_52m4_47) (q := 50) rfl ?_
  intro T148 X148 e148
  refine g_ishr X148 hx (hb hby d_jdk_52m4_50) (q := 51) rfl rfl ?_
  refine g_i2b X148 hx (hb hby d_jdk_52m4_51) (q := 52) rfl (z := (StrChars.hi8 c0)) rfl ?_
  refine g_stB X148 hx hZ0 Va147 (i := 1) (by decide) (by decide) (by decide) (Nat.le_of_ble_eq_true rfl) (y := (StrChars.hi8 c0)) (lo8_nar _) e148 (hb hby d_jdk_52m4_52) (q := 53) rfl ?_
  intro T150 h150 X150 e150 W150 V150
  have N150 := Fr.snoc X150 N147 P2
  have Va150 : Arv Z h150 a1 kb .byte (4 : Int32) [(.int (StrChars.lo8 c0)), (.int (StrChars.hi8 c0)), (.int x2), (.int x3)] (.int 0) := V150
  have K151 : Keep h0 h147 [a1] := (Keep.refl h0 [a1]).wr W147 (Or.inl (by simp))
  have K152 : Keep h0 h150 [a1] := K151.wr W150 (Or.inl (by simp))
  refine endP X150 hlk (fun _ => rfl) (lastV X150 hx hret (hb hby d_jdk_52m4_53)) ?_ (by decide) (by decide)
  rw [e150]
  exact ⟨rfl, N150, K152, Va150⟩
def Q_get2_0 (Z : State) (zC : Int32) (vF : Value) (a1 : Addr) (kb : ClassId) (c0 : Int32) (x2 : Int32) (x3 : Int32) (h0 : Heap) (v : Option Value) (h : Heap) (L : List Loc) : Prop := v = some (.int c0) ∧ Fr Z.heap.size L ∧ h = h0
set_option maxRecDepth 65536 in
set_option maxHeartbeats 40000000 in
theorem rm_get2_0 (l : Launch) (Z : State) (a0 : Array Value) (hw : ∀ d ∈ tables_1, d.before a0 Z = true) (zC : Int32) (SC : Sta Z Z.heap "java/lang/String" "COMPACT_STRINGS" "Z" (.int zC)) (PC : ¬ zC = (0 : Int32)) (vF : Value) (rF : vF = .null ∨ ∃ a, vF = .ref a) (SF : Sta Z Z.heap "jdk/internal/util/Preconditions" "SIOOBE_FORMATTER" "Ljava/util/function/BiFunction;" vF) (SA : Sta Z Z.heap "java/lang/StringUTF16" "$assertionsDisabled" "Z" (.int (1 : Int32))) (SH : Sta Z Z.heap "java/lang/StringUTF16" "HI_BYTE_SHIFT" "I" (.int (0 : Int32))) (SL : Sta Z Z.heap "java/lang/StringUTF16" "LO_BYTE_SHIFT" "I" (.int (8 : Int32))) (a1 : Addr) (kb : ClassId) (c0 : Int32) (x2 : Int32) (x3 : Int32) (h0 : Heap) (O0 : Old Z Z.heap.size h0) (P1 : Arv Z h0 a1 kb .byte (4 : Int32) [(.int (StrChars.lo8 c0)), (.int (StrChars.hi8 c0)), (.int x2), (.int x3)] (.int 0)) (H0 : (¬ (c0 < (0 : Int32)))) (J0 : (¬ ((65535 : Int32) < c0))) :
    Con l Z (⟨"java/lang/StringUTF16", "getChar", "([BI)C"⟩ : MethodName) jdk_52_method_5_code 2 (some .char) ({ frames := 0, cells := 0, slots := 0, locals := 0 } : Room) #[(.ref a1), (.int (0 : Int32))] h0 (Q_get2_0 Z zC vF a1 kb c0 x2 x3 h0) := by
  refine Con.intro pn2 ?_
  intro p e s m below meth c T0 X0 hx hby hml hown0 hnm hret hlk hZ0 e0
  have N0 := Fr.nil Z.heap.size
  refine castGo (g' := mkF m 0 #[.val (.ref a1), .val (.int (0 : Int32))] []) (by first | rfl | (simp [entryFrame, mkF, argsToLocals, Value.category]; done)) ?_
  show Go _ _ _ _ (T0.setTop (mkF m 0 #[.val (.ref a1), .val (.int (0 : Int32))] []))
  refine g_getS X0 hx hZ0 hown0 (host := "") (Or.inl (wd65 hw)) Via.refl (SA.ext O0.2) e0 (hb hby d_jdk_52m5_0) (q := 3) rfl ?_
  intro T153 X153 e153
  refine ifY X153 hx (hb hby d_jdk_52m5_3) (q := 28) (by decide) (by decide) (by decide) ?_
  refine iL X153 hx (hb hby d_jdk_52m5_28) (q := 29) rfl rfl ?_
  refine cI X153 hx (hb hby d_jdk_52m5_29) (q := 30) rfl (z := (1 : Int32)) rfl ?_
  refine g_ishl X153 hx (hb hby d_jdk_52m5_30) (q := 31) rfl (z := (0 : Int32)) (by decide) ?_
  refine sI X153 hx (hb hby d_jdk_52m5_31) (q := 32) rfl (Ls' := #[.val (.ref a1), .val (.int (0 : Int32))]) rfl ?_
  refine aL X153 hx (hb hby d_jdk_52m5_32) (q := 33) rfl rfl rfl ?_
  refine iL X153 hx (hb hby d_jdk_52m5_33) (q := 34) rfl rfl ?_
  refine g_iinc X153 hx (hb hby d_jdk_52m5_34) (q := 37) rfl rfl (z := (1 : Int32)) (by decide) (Ls' := #[.val (.ref a1), .val (.int (1 : Int32))]) rfl ?_
  refine g_ldB X153 hx hZ0 P1 (i := 0) (by decide) (by decide) (by decide) (v := (.int (StrChars.lo8 c0))) rfl e153 (hb hby d_jdk_52m5_37) (q := 38) rfl ?_
  refine pI X153 hx (hb hby d_jdk_52m5_38) (q := 41) rfl (z := (255 : Int32)) rfl ?_
  refine g_iand X153 hx (hb hby d_jdk_52m5_41) (q := 42) rfl rfl ?_
  refine g_getS X153 hx hZ0 hown0 (host := "") (Or.inl (wd66 hw)) Via.refl (SH.ext O0.2) e153 (hb hby d_jdk_52m5_42) (q := 45) rfl ?_
  intro T154 X154 e154
  refine g_ishl X154 hx (hb hby d_jdk_52m5_45) (q := 46) rfl rfl ?_
  refine aL X154 hx (hb hby d_jdk_52m5_46) (q := 47) rfl rfl rfl ?_
  refine iL X154 hx (hb hby d_jdk_52m5_47) (q := 48) rfl rfl ?_
  refine g_ldB X154 hx hZ0 P1 (i := 1) (by decide) (by decide) (by decide) (v := (.int (StrChars.hi8 c0))) rfl e154 (hb hby d_jdk_52m5_48) (q := 49) rfl ?_
  refine pI X154 hx (hb hby d_jdk_52m5_49) (q := 52) rfl (z := (255 : Int32)) rfl ?_
  refine g_iand X154 hx (hb hby d_jdk_52m5_52) (q := 53) rfl rfl ?_
  refine g_getS X154 hx hZ0 hown0 (host := "") (Or.inl (wd67 hw)) Via.refl (SL.ext O0.2) e154 (hb hby d_jdk_52m5_53) (q := 56) rfl ?_
  intro T155 X155 e155
  refine g_ishl X155 hx (hb hby d_jdk_52m5_56) (q := 57) rfl rfl ?_
  refine g_ior X155 hx (hb hby d_jdk_52m5_57) (q := 58) rfl rfl ?_
  refine g_i2c X155 hx (hb hby d_jdk_52m5_58) (q := 59) rfl (z := c0) (StrChars.pair_says H0 J0) ?_
  refine endP X155 hlk (fun h => by rw [hret] at h; cases h) (lastN X155 hx (t := .char) (z' := c0) hret (by simp) (nar_of H0 J0) (hb hby d_jdk_52m5_59)) ?_ (by decide) (by decide)
  rw [e155]
  exact ⟨rfl, N0, rfl⟩
def Q_put2_1 (Z : State) (zC : Int32) (vF : Value) (a1 : Addr) (kb : ClassId) (c0 : Int32) (x0 : Int32) (x1 : Int32) (x2 : Int32) (x3 : Int32) (h0 : Heap) (v : Option Value) (h : Heap) (L : List Loc) : Prop := v = none ∧ Fr Z.heap.size L ∧ Keep h0 h [a1] ∧ Arv Z h a1 kb .byte (4 : Int32) [(.int x0), (.int x1), (.int (StrChars.lo8 c0)), (.int (StrChars.hi8 c0))] (.int 0)
set_option maxRecDepth 65536 in
set_option maxHeartbeats 40000000 in
theorem rm_put2_1 (l : Launch) (Z : State) (a0 : Array Value) (hw : ∀ d ∈ tables_1, d.before a0 Z = true) (zC : Int32) (SC : Sta Z Z.heap "java/lang/String" "COMPACT_STRINGS" "Z" (.int zC)) (PC : ¬ zC = (0 : Int32)) (vF : Value) (rF : vF = .null ∨ ∃ a, vF = .ref a) (SF : Sta Z Z.heap "jdk/internal/util/Preconditions" "SIOOBE_FORMATTER" "Ljava/util/function/BiFunction;" vF) (SA : Sta Z Z.heap "java/lang/StringUTF16" "$assertionsDisabled" "Z" (.int (1 : Int32))) (SH : Sta Z Z.heap "java/lang/StringUTF16" "HI_BYTE_SHIFT" "I" (.int (0 : Int32))) (SL : Sta Z Z.heap "java/lang/StringUTF16" "LO_BYTE_SHIFT" "I" (.int (8 : Int32))) (a1 : Addr) (kb : ClassId) (c0 : Int32) (x0 : Int32) (x1 : Int32) (x2 : Int32) (x3 : Int32) (h0 : Heap) (O0 : Old Z Z.heap.size h0) (P1 : Arv Z h0 a1 kb .byte (4 : Int32) [(.int x0), (.int x1), (.int x2), (.int x3)] (.int 0)) (P2 : Z.heap.size ≤ a1) :
    Con l Z (⟨"java/lang/StringUTF16", "putChar", "([BII)V"⟩ : MethodName) jdk_52_method_4_code 3 none ({ frames := 0, cells := 0, slots := 0, locals := 0 } : Room) #[(.ref a1), (.int (1 : Int32)), (.int c0)] h0 (Q_put2_1 Z zC vF a1 kb c0 x0 x1 x2 x3 h0) := by
  refine Con.intro pn2 ?_
  intro p e s m below meth c T0 X0 hx hby hml hown0 hnm hret hlk hZ0 e0
  have N0 := Fr.nil Z.heap.size
  refine castGo (g' := mkF m 0 #[.val (.ref a1), .val (.int (1 : Int32)), .val (.int c0)] []) (by first | rfl | (simp [entryFrame, mkF, argsToLocals, Value.category]; done)) ?_
  show Go _ _ _ _ (T0.setTop (mkF m 0 #[.val (.ref a1), .val (.int (1 : Int32)), .val (.int c0)] []))
  refine g_getS X0 hx hZ0 hown0 (host := "") (Or.inl (wd65 hw)) Via.refl (SA.ext O0.2) e0 (hb hby d_jdk_52m4_0) (q := 3) rfl ?_
  intro T156 X156 e156
  refine ifY X156 hx (hb hby d_jdk_52m4_3) (q := 28) (by decide) (by decide) (by decide) ?_
  refine iL X156 hx (hb hby d_jdk_52m4_28) (q := 29) rfl rfl ?_
  refine cI X156 hx (hb hby d_jdk_52m4_29) (q := 30) rfl (z := (1 : Int32)) rfl ?_
  refine g_ishl X156 hx (hb hby d_jdk_52m4_30) (q := 31) rfl (z := (2 : Int32)) (by decide) ?_
  refine sI X156 hx (hb hby d_jdk_52m4_31) (q := 32) rfl (Ls' := #[.val (.ref a1), .val (.int (2 : Int32)), .val (.int c0)]) rfl ?_
  refine aL X156 hx (hb hby d_jdk_52m4_32) (q := 33) rfl rfl rfl ?_
  refine iL X156 hx (hb hby d_jdk_52m4_33) (q := 34) rfl rfl ?_
  refine g_iinc X156 hx (hb hby d_jdk_52m4_34) (q := 37) rfl rfl (z := (3 : Int32)) (by decide) (Ls' := #[.val (.ref a1), .val (.int (3 : Int32)), .val (.int c0)]) rfl ?_
  refine iL X156 hx (hb hby d_jdk_52m4_37) (q := 38) rfl rfl ?_
  refine g_getS X156 hx hZ0 hown0 (host := "") (Or.inl (wd66 hw)) Via.refl (SH.ext O0.2) e156 (hb hby d_jdk_52m4_38) (q := 41) rfl ?_
  intro T157 X157 e157
  refine g_ishr X157 hx (hb hby d_jdk_52m4_41) (q := 42) rfl (z := c0) (shr_zero _) ?_
  refine g_i2b X157 hx (hb hby d_jdk_52m4_42) (q := 43) rfl (z := (StrChars.lo8 c0)) rfl ?_
  refine g_stB X157 hx hZ0 P1 (i := 2) (by decide) (by decide) (by decide) (Nat.le_of_ble_eq_true rfl) (y := (StrChars.lo8 c0)) (lo8_nar _) e157 (hb hby d_jdk_52m4_43) (q := 44) rfl ?_
  intro T158 h158 X158 e158 W158 V158
  have N158 := Fr.snoc X158 N0 P2
  have Va158 : Arv Z h158 a1 kb .byte (4 : Int32) [(.int x0), (.int x1), (.int (StrChars.lo8 c0)), (.int x3)] (.int 0) := V158
  refine aL X158 hx (hb hby d_jdk_52m4_44) (q := 45) rfl rfl rfl ?_
  refine iL X158 hx (hb hby d_jdk_52m4_45) (q := 46) rfl rfl ?_
  refine iL X158 hx (hb hby d_jdk_52m4_46) (q := 47) rfl rfl ?_
  have f160 : Old Z Z.heap.size h158 := O0.wr W158 P2
  refine g_getS X158 hx hZ0 hown0 (host := "") (Or.inl (wd67 hw)) Via.refl (SL.ext f160.2) e158 (hb hby d_jdk_52m4_47) (q := 50) rfl ?_
  intro T159 X159 e159
  refine g_ishr X159 hx (hb hby d_jdk_52m4_50) (q := 51) rfl rfl ?_
  refine g_i2b X159 hx (hb hby d_jdk_52m4_51) (q := 52) rfl (z := (StrChars.hi8 c0)) rfl ?_
  refine g_stB X159 hx hZ0 Va158 (i := 3) (by decide) (by decide) (by decide) (Nat.le_of_ble_eq_true rfl) (y := (StrChars.hi8 c0)) (lo8_nar _) e159 (hb hby d_jdk_52m4_52) (q := 53) rfl ?_
  intro T161 h161 X161 e161 W161 V161
  have N161 := Fr.snoc X161 N158 P2
  have Va161 : Arv Z h161 a1 kb .byte (4 : Int32) [(.int x0), (.int x1), (.int (StrChars.lo8 c0)), (.int (StrChars.hi8 c0))] (.int 0) := V161
  have K162 : Keep h0 h158 [a1] := (Keep.refl h0 [a1]).wr W158 (Or.inl (by simp))
  have K163 : Keep h0 h161 [a1] := K162.wr W161 (Or.inl (by simp))
  refine endP X161 hlk (fun _ => rfl) (lastV X161 hx hret (hb hby d_jdk_52m4_53)) ?_ (by decide) (by decide)
  rw [e161]
  exact ⟨rfl, N161, K163, Va161⟩
def Q_get2_1 (Z : State) (zC : Int32) (vF : Value) (a1 : Addr) (kb : ClassId) (c0 : Int32) (x0 : Int32) (x1 : Int32) (h0 : Heap) (v : Option Value) (h : Heap) (L : List Loc) : Prop := v = some (.int c0) ∧ Fr Z.heap.size L ∧ h = h0
set_option maxRecDepth 65536 in
set_option maxHeartbeats 40000000 in
theorem rm_get2_1 (l : Launch) (Z : State) (a0 : Array Value) (hw : ∀ d ∈ tables_1, d.before a0 Z = true) (zC : Int32) (SC : Sta Z Z.heap "java/lang/String" "COMPACT_STRINGS" "Z" (.int zC)) (PC : ¬ zC = (0 : Int32)) (vF : Value) (rF : vF = .null ∨ ∃ a, vF = .ref a) (SF : Sta Z Z.heap "jdk/internal/util/Preconditions" "SIOOBE_FORMATTER" "Ljava/util/function/BiFunction;" vF) (SA : Sta Z Z.heap "java/lang/StringUTF16" "$assertionsDisabled" "Z" (.int (1 : Int32))) (SH : Sta Z Z.heap "java/lang/StringUTF16" "HI_BYTE_SHIFT" "I" (.int (0 : Int32))) (SL : Sta Z Z.heap "java/lang/StringUTF16" "LO_BYTE_SHIFT" "I" (.int (8 : Int32))) (a1 : Addr) (kb : ClassId) (c0 : Int32) (x0 : Int32) (x1 : Int32) (h0 : Heap) (O0 : Old Z Z.heap.size h0) (P1 : Arv Z h0 a1 kb .byte (4 : Int32) [(.int x0), (.int x1), (.int (StrChars.lo8 c0)), (.int (StrChars.hi8 c0))] (.int 0)) (H0 : (¬ (c0 < (0 : Int32)))) (J0 : (¬ ((65535 : Int32) < c0))) :
    Con l Z (⟨"java/lang/StringUTF16", "getChar", "([BI)C"⟩ : MethodName) jdk_52_method_5_code 2 (some .char) ({ frames := 0, cells := 0, slots := 0, locals := 0 } : Room) #[(.ref a1), (.int (1 : Int32))] h0 (Q_get2_1 Z zC vF a1 kb c0 x0 x1 h0) := by
  refine Con.intro pn2 ?_
  intro p e s m below meth c T0 X0 hx hby hml hown0 hnm hret hlk hZ0 e0
  have N0 := Fr.nil Z.heap.size
  refine castGo (g' := mkF m 0 #[.val (.ref a1), .val (.int (1 : Int32))] []) (by first | rfl | (simp [entryFrame, mkF, argsToLocals, Value.category]; done)) ?_
  show Go _ _ _ _ (T0.setTop (mkF m 0 #[.val (.ref a1), .val (.int (1 : Int32))] []))
  refine g_getS X0 hx hZ0 hown0 (host := "") (Or.inl (wd65 hw)) Via.refl (SA.ext O0.2) e0 (hb hby d_jdk_52m5_0) (q := 3) rfl ?_
  intro T164 X164 e164
  refine ifY X164 hx (hb hby d_jdk_52m5_3) (q := 28) (by decide) (by decide) (by decide) ?_
  refine iL X164 hx (hb hby d_jdk_52m5_28) (q := 29) rfl rfl ?_
  refine cI X164 hx (hb hby d_jdk_52m5_29) (q := 30) rfl (z := (1 : Int32)) rfl ?_
  refine g_ishl X164 hx (hb hby d_jdk_52m5_30) (q := 31) rfl (z := (2 : Int32)) (by decide) ?_
  refine sI X164 hx (hb hby d_jdk_52m5_31) (q := 32) rfl (Ls' := #[.val (.ref a1), .val (.int (2 : Int32))]) rfl ?_
  refine aL X164 hx (hb hby d_jdk_52m5_32) (q := 33) rfl rfl rfl ?_
  refine iL X164 hx (hb hby d_jdk_52m5_33) (q := 34) rfl rfl ?_
  refine g_iinc X164 hx (hb hby d_jdk_52m5_34) (q := 37) rfl rfl (z := (3 : Int32)) (by decide) (Ls' := #[.val (.ref a1), .val (.int (3 : Int32))]) rfl ?_
  refine g_ldB X164 hx hZ0 P1 (i := 2) (by decide) (by decide) (by decide) (v := (.int (StrChars.lo8 c0))) rfl e164 (hb hby d_jdk_52m5_37) (q := 38) rfl ?_
  refine pI X164 hx (hb hby d_jdk_52m5_38) (q := 41) rfl (z := (255 : Int32)) rfl ?_
  refine g_iand X164 hx (hb hby d_jdk_52m5_41) (q := 42) rfl rfl ?_
  refine g_getS X164 hx hZ0 hown0 (host := "") (Or.inl (wd66 hw)) Via.refl (SH.ext O0.2) e164 (hb hby d_jdk_52m5_42) (q := 45) rfl ?_
  intro T165 X165 e165
  refine g_ishl X165 hx (hb hby d_jdk_52m5_45) (q := 46) rfl rfl ?_
  refine aL X165 hx (hb hby d_jdk_52m5_46) (q := 47) rfl rfl rfl ?_
  refine iL X165 hx (hb hby d_jdk_52m5_47) (q := 48) rfl rfl ?_
  refine g_ldB X165 hx hZ0 P1 (i := 3) (by decide) (by decide) (by decide) (v := (.int (StrChars.hi8 c0))) rfl e165 (hb hby d_jdk_52m5_48) (q := 49) rfl ?_
  refine pI X165 hx (hb hby d_jdk_52m5_49) (q := 52) rfl (z := (255 : Int32)) rfl ?_
  refine g_iand X165 hx (hb hby d_jdk_52m5_52) (q := 53) rfl rfl ?_
  refine g_getS X165 hx hZ0 hown0 (host := "") (Or.inl (wd67 hw)) Via.refl (SL.ext O0.2) e165 (hb hby d_jdk_52m5_53) (q := 56) rfl ?_
  intro T166 X166 e166
  refine g_ishl X166 hx (hb hby d_jdk_52m5_56) (q := 57) rfl rfl ?_
  refine g_ior X166 hx (hb hby d_jdk_52m5_57) (q := 58) rfl rfl ?_
  refine g_i2c X166 hx (hb hby d_jdk_52m5_58) (q := 59) rfl (z := c0) (StrChars.pair_says H0 J0) ?_
  refine endP X166 hlk (fun h => by rw [hret] at h; cases h) (lastN X166 hx (t := .char) (z' := c0) hret (by simp) (nar_of H0 J0) (hb hby d_jdk_52m5_59)) ?_ (by decide) (by decide)
  rw [e166]
  exact ⟨rfl, N0, rfl⟩
def Q_toB2 (Z : State) (zC : Int32) (vF : Value) (a1 : Addr) (kc : ClassId) (c0 : Int32) (c1 : Int32) (h0 : Heap) (v : Option Value) (h : Heap) (L : List Loc) : Prop := ∃ (a : Addr), ∃ (kb : ClassId), v = some (.ref a) ∧ Fr Z.heap.size L ∧ Keep h0 h [] ∧ h0.size ≤ a ∧ Arv Z h a kb .byte (4 : Int32) [(.int (StrChars.lo8 c0)), (.int (StrChars.hi8 c0)), (.int (StrChars.lo8 c1)), (.int (StrChars.hi8 c1))] (.int 0)
set_option maxRecDepth 65536 in
set_option maxHeartbeats 40000000 in
theorem rm_toB2 (l : Launch) (Z : State) (a0 : Array Value) (hw : ∀ d ∈ tables_1, d.before a0 Z = true) (zC : Int32) (SC : Sta Z Z.heap "java/lang/String" "COMPACT_STRINGS" "Z" (.int zC)) (PC : ¬ zC = (0 : Int32)) (vF : Value) (rF : vF = .null ∨ ∃ a, vF = .ref a) (SF : Sta Z Z.heap "jdk/internal/util/Preconditions" "SIOOBE_FORMATTER" "Ljava/util/function/BiFunction;" vF) (SA : Sta Z Z.heap "java/lang/StringUTF16" "$assertionsDisabled" "Z" (.int (1 : Int32))) (SH : Sta Z Z.heap "java/lang/StringUTF16" "HI_BYTE_SHIFT" "I" (.int (0 : Int32))) (SL : Sta Z Z.heap "java/lang/StringUTF16" "LO_BYTE_SHIFT" "I" (.int (8 : Int32))) (a1 : Addr) (kc : ClassId) (c0 : Int32) (c1 : Int32) (h0 : Heap) (O0 : Old Z Z.heap.size h0) (P1 : Arv Z h0 a1 kc .char (2 : Int32) [(.int c0), (.int c1)] (.int 0)) :
    Con l Z (⟨"java/lang/StringUTF16", "toBytes", "([CII)[B"⟩ : MethodName) jdk_52_method_14_code 5 (some (.array .byte)) ({ frames := 2, cells := 1, slots := 4, locals := 24 } : Room) #[(.ref a1), (.int (0 : Int32)), (.int (2 : Int32))] h0 (Q_toB2 Z zC vF a1 kc c0 c1 h0) := by
  refine Con.intro pn2 ?_
  intro p e s m below meth c T0 X0 hx hby hml hown0 hnm hret hlk hZ0 e0
  have N0 := Fr.nil Z.heap.size
  refine castGo (g' := mkF m 0 #[.val (.ref a1), .val (.int (0 : Int32)), .val (.int (2 : Int32)), .unset, .unset] []) (by first | rfl | (simp [entryFrame, mkF, argsToLocals, Value.category]; done)) ?_
  show Go _ _ _ _ (T0.setTop (mkF m 0 #[.val (.ref a1), .val (.int (0 : Int32)), .val (.int (2 : Int32)), .unset, .unset] []))
  refine iL X0 hx (hb hby d_jdk_52m14_0) (q := 1) rfl rfl ?_
  refine g_st X0 hx hZ0 hown0 (wd55 hw) (wd56 hw) (wd44 hw) (wd57 hw) (by decide) e0 (Con.back (W := 0) (rm_nbf2 l Z a0 hw zC SC PC vF rF SF SA SH SL  h0 O0 ) hZ0 (wd57 hw) (wd44 hw) (by decide) (by decide)) (by rw [hml]; rfl) (lenOf pd2 rfl) rfl (Nat.le_of_eq rfl) (hb hby d_jdk_52m14_1) (q := 4) rfl (by decide) (by decide) ?_
  intro v167 T167 L167 X167 Q167
  obtain ⟨a_167, kb_167, rfl, Nq167, K167q, q167_0, q167_1⟩ := Q167
  have N167 := Fr.app N0 Nq167
  show Go _ _ _ _ (T167.setTop (mkF m 4 #[.val (.ref a1), .val (.int (0 : Int32)), .val (.int (2 : Int32)), .unset, .unset] [(.ref a_167)]))
  refine sA X167 hx (hb hby d_jdk_52m14_4) (q := 5) rfl rfl (Ls' := #[.val (.ref a1), .val (.int (0 : Int32)), .val (.int (2 : Int32)), .val (.ref a_167), .unset]) rfl ?_
  refine cI X167 hx (hb hby d_jdk_52m14_5) (q := 6) rfl (z := (0 : Int32)) rfl ?_
  refine sIw X167 hx (hb hby d_jdk_52m14_6) (q := 8) rfl (Ls' := #[.val (.ref a1), .val (.int (0 : Int32)), .val (.int (2 : Int32)), .val (.ref a_167), .val (.int (0 : Int32))]) rfl ?_
  refine iLw X167 hx (hb hby d_jdk_52m14_8) (q := 10) rfl rfl ?_
  refine iL X167 hx (hb hby d_jdk_52m14_10) (q := 11) rfl rfl ?_
  refine icN X167 hx (hb hby d_jdk_52m14_11) (q := 14) rfl (by decide) ?_
  refine aL X167 hx (hb hby d_jdk_52m14_14) (q := 15) rfl rfl rfl ?_
  refine iLw X167 hx (hb hby d_jdk_52m14_15) (q := 17) rfl rfl ?_
  refine aL X167 hx (hb hby d_jdk_52m14_17) (q := 18) rfl rfl rfl ?_
  refine iL X167 hx (hb hby d_jdk_52m14_18) (q := 19) rfl rfl ?_
  have f168 : Arv Z T167.heap a1 kc .char (2 : Int32) [(.int c0), (.int c1)] (.int 0) := P1.keep K167q nin0
  refine g_ldC X167 hx hZ0 f168 (i := 0) (by decide) (by decide) (by decide) (v := (.int c0)) rfl rfl (hb hby d_jdk_52m14_19) (q := 20) rfl ?_
  have gz171 : Z.heap.size ≤ a_167 := Nat.le_trans O0.2.1 q167_0
  have f172 : Old Z Z.heap.size T167.heap := O0.keep K167q all0
  refine g_st X167 hx hZ0 hown0 (wd62 hw) (wd63 hw) (wd44 hw) (wd64 hw) (by decide) rfl (Con.back (W := 0) (rm_put2_0 l Z a0 hw zC SC PC vF rF SF SA SH SL a_167 kb_167 c0 (0 : Int32) (0 : Int32) (0 : Int32) (0 : Int32) T167.heap f172 q167_1 gz171) hZ0 (wd64 hw) (wd44 hw) (by decide) (by decide)) (by rw [hml]; rfl) (lenOf pd3 rfl) rfl (Nat.le_of_eq rfl) (hb hby d_jdk_52m14_20) (q := 23) rfl (by decide) (by decide) ?_
  intro v170 T170 L170 X170 Q170
  obtain ⟨rfl, Nq170, K170q, q170_0⟩ := Q170
  have N170 := Fr.app N167 Nq170
  show Go _ _ _ _ (T170.setTop (mkF m 23 #[.val (.ref a1), .val (.int (0 : Int32)), .val (.int (2 : Int32)), .val (.ref a_167), .val (.int (0 : Int32))] []))
  refine g_iinc X170 hx (hb hby d_jdk_52m14_23) (q := 26) rfl rfl (z := (1 : Int32)) (by decide) (Ls' := #[.val (.ref a1), .val (.int (1 : Int32)), .val (.int (2 : Int32)), .val (.ref a_167), .val (.int (0 : Int32))]) rfl ?_
  refine g_iinc X170 hx (hb hby d_jdk_52m14_26) (q := 29) rfl rfl (z := (1 : Int32)) (by decide) (Ls' := #[.val (.ref a1), .val (.int (1 : Int32)), .val (.int (2 : Int32)), .val (.ref a_167), .val (.int (1 : Int32))]) rfl ?_
  refine g_goto X170 hx (hb hby d_jdk_52m14_29) (q := 8) (by decide) (by decide) ?_
  refine iLw X170 hx (hb hby d_jdk_52m14_8) (q := 10) rfl rfl ?_
  refine iL X170 hx (hb hby d_jdk_52m14_10) (q := 11) rfl rfl ?_
  refine icN X170 hx (hb hby d_jdk_52m14_11) (q := 14) rfl (by decide) ?_
  refine aL X170 hx (hb hby d_jdk_52m14_14) (q := 15) rfl rfl rfl ?_
  refine iLw X170 hx (hb hby d_jdk_52m14_15) (q := 17) rfl rfl ?_
  refine aL X170 hx (hb hby d_jdk_52m14_17) (q := 18) rfl rfl rfl ?_
  refine iL X170 hx (hb hby d_jdk_52m14_18) (q := 19) rfl rfl ?_
  have ne173 : a1 ≠ a_167 := (Nat.ne_of_lt (Nat.lt_of_lt_of_le (Nat.lt_of_lt_of_le P1.lt (Nat.le_refl _)) q167_0))
  have f174 : Arv Z T170.heap a1 kc .char (2 : Int32) [(.int c0), (.int c1)] (.int 0) := f168.keep K170q (ninS ne173 nin0)
  refine g_ldC X170 hx hZ0 f174 (i := 1) (by decide) (by decide) (by decide) (v := (.int c1)) rfl rfl (hb hby d_jdk_52m14_19) (q := 20) rfl ?_
  have f176 : Old Z Z.heap.size T170.heap := f172.keep K170q (allS gz171 all0)
  refine g_st X170 hx hZ0 hown0 (wd62 hw) (wd63 hw) (wd44 hw) (wd64 hw) (by decide) rfl (Con.back (W := 0) (rm_put2_1 l Z a0 hw zC SC PC vF rF SF SA SH SL a_167 kb_167 c1 (StrChars.lo8 c0) (StrChars.hi8 c0) (0 : Int32) (0 : Int32) T170.heap f176 q170_0 gz171) hZ0 (wd64 hw) (wd44 hw) (by decide) (by decide)) (by rw [hml]; rfl) (lenOf pd3 rfl) rfl (Nat.le_of_eq rfl) (hb hby d_jdk_52m14_20) (q := 23) rfl (by decide) (by decide) ?_
  intro v175 T175 L175 X175 Q175
  obtain ⟨rfl, Nq175, K175q, q175_0⟩ := Q175
  have N175 := Fr.app N170 Nq175
  show Go _ _ _ _ (T175.setTop (mkF m 23 #[.val (.ref a1), .val (.int (1 : Int32)), .val (.int (2 : Int32)), .val (.ref a_167), .val (.int (1 : Int32))] []))
  refine g_iinc X175 hx (hb hby d_jdk_52m14_23) (q := 26) rfl rfl (z := (2 : Int32)) (by decide) (Ls' := #[.val (.ref a1), .val (.int (2 : Int32)), .val (.int (2 : Int32)), .val (.ref a_167), .val (.int (1 : Int32))]) rfl ?_
  refine g_iinc X175 hx (hb hby d_jdk_52m14_26) (q := 29) rfl rfl (z := (2 : Int32)) (by decide) (Ls' := #[.val (.ref a1), .val (.int (2 : Int32)), .val (.int (2 : Int32)), .val (.ref a_167), .val (.int (2 : Int32))]) rfl ?_
  refine g_goto X175 hx (hb hby d_jdk_52m14_29) (q := 8) (by decide) (by decide) ?_
  refine iLw X175 hx (hb hby d_jdk_52m14_8) (q := 10) rfl rfl ?_
  refine iL X175 hx (hb hby d_jdk_52m14_10) (q := 11) rfl rfl ?_
  refine icY X175 hx (hb hby d_jdk_52m14_11) (q := 32) (by decide) (by decide) (by decide) ?_
  refine aL X175 hx (hb hby d_jdk_52m14_32) (q := 33) rfl rfl rfl ?_
  have K177 : Keep h0 T167.heap [] := (Keep.refl h0 []).trans K167q all0
  have gh178 : h0.size ≤ a_167 := Nat.le_trans (Nat.le_refl _) q167_0
  have K179 : Keep h0 T170.heap [] := K177.trans K170q (allS (Or.inr gh178) all0)
  have K180 : Keep h0 T175.heap [] := K179.trans K175q (allS (Or.inr gh178) all0)
  refine endP X175 hlk (fun h => by rw [hret] at h; cases h) (lastA X175 hx hret rfl rfl rfl (hb hby d_jdk_52m14_33)) ?_ (by decide) (by decide)
  exact ⟨a_167, kb_167, rfl, N175, K180, gh178, q175_0⟩
def Q_cmp5_2_0 (Z : State) (zC : Int32) (vF : Value) (a1 : Addr) (a2 : Addr) (kc : ClassId) (kb : ClassId) (c0 : Int32) (c1 : Int32) (h0 : Heap) (v : Option Value) (h : Heap) (L : List Loc) : Prop := v = some (.int (0 : Int32)) ∧ Fr Z.heap.size L ∧ Keep h0 h [a2]
set_option maxRecDepth 65536 in
set_option maxHeartbeats 40000000 in
theorem rm_cmp5_2_0 (l : Launch) (Z : State) (a0 : Array Value) (hw : ∀ d ∈ tables_1, d.before a0 Z = true) (zC : Int32) (SC : Sta Z Z.heap "java/lang/String" "COMPACT_STRINGS" "Z" (.int zC)) (PC : ¬ zC = (0 : Int32)) (vF : Value) (rF : vF = .null ∨ ∃ a, vF = .ref a) (SF : Sta Z Z.heap "jdk/internal/util/Preconditions" "SIOOBE_FORMATTER" "Ljava/util/function/BiFunction;" vF) (SA : Sta Z Z.heap "java/lang/StringUTF16" "$assertionsDisabled" "Z" (.int (1 : Int32))) (SH : Sta Z Z.heap "java/lang/StringUTF16" "HI_BYTE_SHIFT" "I" (.int (0 : Int32))) (SL : Sta Z Z.heap "java/lang/StringUTF16" "LO_BYTE_SHIFT" "I" (.int (8 : Int32))) (a1 : Addr) (a2 : Addr) (kc : ClassId) (kb : ClassId) (c0 : Int32) (c1 : Int32) (h0 : Heap) (O0 : Old Z Z.heap.size h0) (P1 : Arv Z h0 a1 kc .char (2 : Int32) [(.int c0), (.int c1)] (.int 0)) (P2 : Arv Z h0 a2 kb .byte (2 : Int32) [(.int (0 : Int32)), (.int (0 : Int32))] (.int 0)) (P3 : Z.heap.size ≤ a2) (P4 : a1 ≠ a2) (W0 : ((255 : Int32) < c0)) :
    Con l Z (⟨"java/lang/StringUTF16", "compress", "([CI[BII)I"⟩ : MethodName) jdk_52_method_21_code 7 (some .int) ({ frames := 0, cells := 0, slots := 0, locals := 0 } : Room) #[(.ref a1), (.int (0 : Int32)), (.ref a2), (.int (0 : Int32)), (.int (2 : Int32))] h0 (Q_cmp5_2_0 Z zC vF a1 a2 kc kb c0 c1 h0) := by
  refine Con.intro pn2 ?_
  intro p e s m below meth c T0 X0 hx hby hml hown0 hnm hret hlk hZ0 e0
  have N0 := Fr.nil Z.heap.size
  refine castGo (g' := mkF m 0 #[.val (.ref a1), .val (.int (0 : Int32)), .val (.ref a2), .val (.int (0 : Int32)), .val (.int (2 : Int32)), .unset, .unset] []) (by first | rfl | (simp [entryFrame, mkF, argsToLocals, Value.category]; done)) ?_
  show Go _ _ _ _ (T0.setTop (mkF m 0 #[.val (.ref a1), .val (.int (0 : Int32)), .val (.ref a2), .val (.int (0 : Int32)), .val (.int (2 : Int32)), .unset, .unset] []))
  refine cI X0 hx (hb hby d_jdk_52m21_0) (q := 1) rfl (z := (0 : Int32)) rfl ?_
  refine sIw X0 hx (hb hby d_jdk_52m21_1) (q := 3) rfl (Ls' := #[.val (.ref a1), .val (.int (0 : Int32)), .val (.ref a2), .val (.int (0 : Int32)), .val (.int (2 : Int32)), .val (.int (0 : Int32)), .unset]) rfl ?_
  refine iLw X0 hx (hb hby d_jdk_52m21_3) (q := 5) rfl rfl ?_
  refine iLw X0 hx (hb hby d_jdk_52m21_5) (q := 7) rfl rfl ?_
  refine icN X0 hx (hb hby d_jdk_52m21_7) (q := 10) rfl (by decide) ?_
  refine aL X0 hx (hb hby d_jdk_52m21_10) (q := 11) rfl rfl rfl ?_
  refine iL X0 hx (hb hby d_jdk_52m21_11) (q := 12) rfl rfl ?_
  refine g_ldC X0 hx hZ0 P1 (i := 0) (by decide) (by decide) (by decide) (v := (.int c0)) rfl e0 (hb hby d_jdk_52m21_12) (q := 13) rfl ?_
  refine sIw X0 hx (hb hby d_jdk_52m21_13) (q := 15) rfl (Ls' := #[.val (.ref a1), .val (.int (0 : Int32)), .val (.ref a2), .val (.int (0 : Int32)), .val (.int (2 : Int32)), .val (.int (0 : Int32)), .val (.int c0)]) rfl ?_
  refine iLw X0 hx (hb hby d_jdk_52m21_15) (q := 17) rfl rfl ?_
  refine pI X0 hx (hb hby d_jdk_52m21_17) (q := 20) rfl (z := (255 : Int32)) rfl ?_
  refine icN X0 hx (hb hby d_jdk_52m21_20) (q := 23) rfl (tlt W0).2.2.2 ?_
  refine iLw X0 hx (hb hby d_jdk_52m21_23) (q := 25) rfl rfl ?_
  refine endP X0 hlk (fun h => by rw [hret] at h; cases h) (lastI X0 hx hret (hb hby d_jdk_52m21_25)) ?_ (by decide) (by decide)
  rw [e0]
  exact ⟨rfl, N0, (Keep.refl h0 [a2])⟩
def Q_cmp3_2_0 (Z : State) (zC : Int32) (vF : Value) (a1 : Addr) (kc : ClassId) (c0 : Int32) (c1 : Int32) (h0 : Heap) (v : Option Value) (h : Heap) (L : List Loc) : Prop := ∃ (a : Addr), ∃ (kb : ClassId), v = some (.ref a) ∧ Fr Z.heap.size L ∧ Keep h0 h [] ∧ h0.size ≤ a ∧ Arv Z h a kb .byte (4 : Int32) [(.int (StrChars.lo8 c0)), (.int (StrChars.hi8 c0)), (.int (StrChars.lo8 c1)), (.int (StrChars.hi8 c1))] (.int 0)
set_option maxRecDepth 65536 in
set_option maxHeartbeats 40000000 in
theorem rm_cmp3_2_0 (l : Launch) (Z : State) (a0 : Array Value) (hw : ∀ d ∈ tables_1, d.before a0 Z = true) (zC : Int32) (SC : Sta Z Z.heap "java/lang/String" "COMPACT_STRINGS" "Z" (.int zC)) (PC : ¬ zC = (0 : Int32)) (vF : Value) (rF : vF = .null ∨ ∃ a, vF = .ref a) (SF : Sta Z Z.heap "jdk/internal/util/Preconditions" "SIOOBE_FORMATTER" "Ljava/util/function/BiFunction;" vF) (SA : Sta Z Z.heap "java/lang/StringUTF16" "$assertionsDisabled" "Z" (.int (1 : Int32))) (SH : Sta Z Z.heap "java/lang/StringUTF16" "HI_BYTE_SHIFT" "I" (.int (0 : Int32))) (SL : Sta Z Z.heap "java/lang/StringUTF16" "LO_BYTE_SHIFT" "I" (.int (8 : Int32))) (a1 : Addr) (kc : ClassId) (c0 : Int32) (c1 : Int32) (h0 : Heap) (O0 : Old Z Z.heap.size h0) (P1 : Arv Z h0 a1 kc .char (2 : Int32) [(.int c0), (.int c1)] (.int 0)) (H0 : (¬ (c0 < (0 : Int32)))) (J0 : (¬ ((65535 : Int32) < c0))) (H1 : (¬ (c1 < (0 : Int32)))) (J1 : (¬ ((65535 : Int32) < c1))) (W0 : ((255 : Int32) < c0)) :
    Con l Z (⟨"java/lang/StringUTF16", "compress", "([CII)[B"⟩ : MethodName) jdk_52_method_16_code 6 (some (.array .byte)) ({ frames := 3, cells := 2, slots := 6, locals := 40 } : Room) #[(.ref a1), (.int (0 : Int32)), (.int (2 : Int32))] h0 (Q_cmp3_2_0 Z zC vF a1 kc c0 c1 h0) := by
  refine Con.intro pn2 ?_
  intro p e s m below meth c T0 X0 hx hby hml hown0 hnm hret hlk hZ0 e0
  have N0 := Fr.nil Z.heap.size
  refine castGo (g' := mkF m 0 #[.val (.ref a1), .val (.int (0 : Int32)), .val (.int (2 : Int32)), .unset, .unset, .unset] []) (by first | rfl | (simp [entryFrame, mkF, argsToLocals, Value.category]; done)) ?_
  show Go _ _ _ _ (T0.setTop (mkF m 0 #[.val (.ref a1), .val (.int (0 : Int32)), .val (.int (2 : Int32)), .unset, .unset, .unset] []))
  refine iL X0 hx (hb hby d_jdk_52m16_0) (q := 1) rfl rfl ?_
  refine g_newA X0 hx hZ0 (aty := .byte) (wd20 hw) (by decide) (n := 2) (by decide) (by decide) (by decide) (by decide) e0 (hb hby d_jdk_52m16_1) (q := 3) rfl ?_
  intro T181 h181 k181 b181 g181 X181 e181 E181 V181
  have Va181 : Arv Z h181 b181 k181 .byte (2 : Int32) [(.int (0 : Int32)), (.int (0 : Int32))] (.int 0) := V181
  refine sA X181 hx (hb hby d_jdk_52m16_3) (q := 4) rfl rfl (Ls' := #[.val (.ref a1), .val (.int (0 : Int32)), .val (.int (2 : Int32)), .val (.ref b181), .unset, .unset]) rfl ?_
  refine aL X181 hx (hb hby d_jdk_52m16_4) (q := 5) rfl rfl rfl ?_
  refine iL X181 hx (hb hby d_jdk_52m16_5) (q := 6) rfl rfl ?_
  refine aL X181 hx (hb hby d_jdk_52m16_6) (q := 7) rfl rfl rfl ?_
  refine cI X181 hx (hb hby d_jdk_52m16_7) (q := 8) rfl (z := (0 : Int32)) rfl ?_
  refine iL X181 hx (hb hby d_jdk_52m16_8) (q := 9) rfl rfl ?_
  have f186 : Arv Z h181 a1 kc .char (2 : Int32) [(.int c0), (.int c1)] (.int 0) := P1.ext E181
  have gz187 : Z.heap.size ≤ b181 := Nat.le_trans O0.2.1 (Nat.le_of_eq g181.symm)
  have ne188 : a1 ≠ b181 := (Nat.ne_of_lt (Nat.lt_of_lt_of_le (Nat.lt_of_lt_of_le P1.lt (Nat.le_refl _)) (Nat.le_of_eq g181.symm)))
  have f189 : Old Z Z.heap.size h181 := O0.ext E181
  refine g_st X181 hx hZ0 hown0 (wd46 hw) (wd47 hw) (wd44 hw) (wd48 hw) (by decide) e181 (Con.back (W := 0) (rm_cmp5_2_0 l Z a0 hw zC SC PC vF rF SF SA SH SL a1 b181 kc k181 c0 c1 h181 f189 f186 Va181 gz187 ne188 W0) hZ0 (wd48 hw) (wd44 hw) (by decide) (by decide)) (by rw [hml]; rfl) (lenOf pd4 rfl) rfl (Nat.le_of_eq rfl) (hb hby d_jdk_52m16_9) (q := 12) rfl (by decide) (by decide) ?_
  intro v185 T185 L185 X185 Q185
  obtain ⟨rfl, Nq185, K185q⟩ := Q185
  have N185 := Fr.app N0 Nq185
  show Go _ _ _ _ (T185.setTop (mkF m 12 #[.val (.ref a1), .val (.int (0 : Int32)), .val (.int (2 : Int32)), .val (.ref b181), .unset, .unset] [(.int (0 : Int32))]))
  refine sIw X185 hx (hb hby d_jdk_52m16_12) (q := 14) rfl (Ls' := #[.val (.ref a1), .val (.int (0 : Int32)), .val (.int (2 : Int32)), .val (.ref b181), .val (.int (0 : Int32)), .unset]) rfl ?_
  refine iLw X185 hx (hb hby d_jdk_52m16_14) (q := 16) rfl rfl ?_
  refine iL X185 hx (hb hby d_jdk_52m16_16) (q := 17) rfl rfl ?_
  refine icN X185 hx (hb hby d_jdk_52m16_17) (q := 20) rfl (by decide) ?_
  refine aL X185 hx (hb hby d_jdk_52m16_20) (q := 21) rfl rfl rfl ?_
  refine iL X185 hx (hb hby d_jdk_52m16_21) (q := 22) rfl rfl ?_
  refine iL X185 hx (hb hby d_jdk_52m16_22) (q := 23) rfl rfl ?_
  have f192 : Arv Z T185.heap a1 kc .char (2 : Int32) [(.int c0), (.int c1)] (.int 0) := f186.keep K185q (ninS ne188 nin0)
  have f193 : Old Z Z.heap.size T185.heap := f189.keep K185q (allS gz187 all0)
  refine g_st X185 hx hZ0 hown0 (wd52 hw) (wd53 hw) (wd44 hw) (wd54 hw) (by decide) rfl (Con.back (W := 0) (rm_toB2 l Z a0 hw zC SC PC vF rF SF SA SH SL a1 kc c0 c1 T185.heap f193 f192) hZ0 (wd54 hw) (wd44 hw) (by decide) (by decide)) (by rw [hml]; rfl) (lenOf pd5 rfl) rfl (Nat.le_of_eq rfl) (hb hby d_jdk_52m16_23) (q := 26) rfl (by decide) (by decide) ?_
  intro v191 T191 L191 X191 Q191
  obtain ⟨a_191, kb_191, rfl, Nq191, K191q, q191_0, q191_1⟩ := Q191
  have N191 := Fr.app N185 Nq191
  show Go _ _ _ _ (T191.setTop (mkF m 26 #[.val (.ref a1), .val (.int (0 : Int32)), .val (.int (2 : Int32)), .val (.ref b181), .val (.int (0 : Int32)), .unset] [(.ref a_191)]))
  refine sAw X191 hx (hb hby d_jdk_52m16_26) (q := 28) rfl rfl (Ls' := #[.val (.ref a1), .val (.int (0 : Int32)), .val (.int (2 : Int32)), .val (.ref b181), .val (.int (0 : Int32)), .val (.ref a_191)]) rfl ?_
  refine aLw X191 hx (hb hby d_jdk_52m16_28) (q := 30) rfl rfl rfl ?_
  refine iLw X191 hx (hb hby d_jdk_52m16_30) (q := 32) rfl rfl ?_
  have f195 : Old Z Z.heap.size T191.heap := f193.keep K191q all0
  refine g_st X191 hx hZ0 hown0 (wd68 hw) (wd69 hw) (wd44 hw) (wd70 hw) (by decide) rfl (Con.back (W := 0) (rm_get2_0 l Z a0 hw zC SC PC vF rF SF SA SH SL a_191 kb_191 c0 (StrChars.lo8 c1) (StrChars.hi8 c1) T191.heap f195 q191_1 H0 J0) hZ0 (wd70 hw) (wd44 hw) (by decide) (by decide)) (by rw [hml]; rfl) (lenOf pd6 rfl) rfl (Nat.le_of_eq rfl) (hb hby d_jdk_52m16_32) (q := 35) rfl (by decide) (by decide) ?_
  intro v194 T194 L194 X194 Q194
  obtain ⟨rfl, Nq194, e194⟩ := Q194
  have N194 := Fr.app N191 Nq194
  show Go _ _ _ _ (T194.setTop (mkF m 35 #[.val (.ref a1), .val (.int (0 : Int32)), .val (.int (2 : Int32)), .val (.ref b181), .val (.int (0 : Int32)), .val (.ref a_191)] [(.int c0)]))
  refine pI X194 hx (hb hby d_jdk_52m16_35) (q := 38) rfl (z := (255 : Int32)) rfl ?_
  refine icY X194 hx (hb hby d_jdk_52m16_38) (q := 54) (by decide) (by decide) (tlt W0).2.2.1 ?_
  refine aLw X194 hx (hb hby d_jdk_52m16_54) (q := 56) rfl rfl rfl ?_
  have K196 : Keep h0 h181 [] := (Keep.refl h0 []).ext E181
  have gh197 : h0.size ≤ b181 := Nat.le_trans (Nat.le_refl _) (Nat.le_of_eq g181.symm)
  have K198 : Keep h0 T185.heap [] := K196.trans K185q (allS (Or.inr gh197) all0)
  have K199 : Keep h0 T191.heap [] := K198.trans K191q all0
  have le201 : (h0).size ≤ (h181).size := E181.1
  have le202 : (h0).size ≤ (T185.heap).size := (Nat.le_trans le201 K185q.1)
  have gh200 : h0.size ≤ a_191 := Nat.le_trans le202 q191_0
  refine endP X194 hlk (fun h => by rw [hret] at h; cases h) (lastA X194 hx hret rfl rfl rfl (hb hby d_jdk_52m16_56)) ?_ (by decide) (by decide)
  rw [e194]
  exact ⟨a_191, kb_191, rfl, N194, K199, gh200, q191_1⟩
theorem d_jdk_52m21_26 : decode jdk_52_method_21_code 26 = .ok (.aload_n 2, 1) := by decide +kernel
theorem d_jdk_52m21_27 : decode jdk_52_method_21_code 27 = .ok (.iload_n 3, 1) := by decide +kernel
theorem d_jdk_52m21_28 : decode jdk_52_method_21_code 28 = .ok (.iload 6, 2) := by decide +kernel
theorem d_jdk_52m21_30 : decode jdk_52_method_21_code 30 = .ok (.i2b, 1) := by decide +kernel
theorem d_jdk_52m21_31 : decode jdk_52_method_21_code 31 = .ok (.bastore, 1) := by decide +kernel
theorem d_jdk_52m21_32 : decode jdk_52_method_21_code 32 = .ok (.iinc 1 1, 3) := by decide +kernel
theorem d_jdk_52m21_35 : decode jdk_52_method_21_code 35 = .ok (.iinc 3 1, 3) := by decide +kernel
theorem d_jdk_52m21_38 : decode jdk_52_method_21_code 38 = .ok (.iinc 5 1, 3) := by decide +kernel
theorem d_jdk_52m21_41 : decode jdk_52_method_21_code 41 = .ok (.goto (-38), 3) := by decide +kernel
def Q_cmp5_2_1 (Z : State) (zC : Int32) (vF : Value) (a1 : Addr) (a2 : Addr) (kc : ClassId) (kb : ClassId) (c0 : Int32) (c1 : Int32) (h0 : Heap) (v : Option Value) (h : Heap) (L : List Loc) : Prop := v = some (.int (1 : Int32)) ∧ Fr Z.heap.size L ∧ Keep h0 h [a2]
set_option maxRecDepth 65536 in
set_option maxHeartbeats 40000000 in
theorem rm_cmp5_2_1 (l : Launch) (Z : State) (a0 : Array Value) (hw : ∀ d ∈ tables_1, d.before a0 Z = true) (zC : Int32) (SC : Sta Z Z.heap "java/lang/String" "COMPACT_STRINGS" "Z" (.int zC)) (PC : ¬ zC = (0 : Int32)) (vF : Value) (rF : vF = .null ∨ ∃ a, vF = .ref a) (SF : Sta Z Z.heap "jdk/internal/util/Preconditions" "SIOOBE_FORMATTER" "Ljava/util/function/BiFunction;" vF) (SA : Sta Z Z.heap "java/lang/StringUTF16" "$assertionsDisabled" "Z" (.int (1 : Int32))) (SH : Sta Z Z.heap "java/lang/StringUTF16" "HI_BYTE_SHIFT" "I" (.int (0 : Int32))) (SL : Sta Z Z.heap "java/lang/StringUTF16" "LO_BYTE_SHIFT" "I" (.int (8 : Int32))) (a1 : Addr) (a2 : Addr) (kc : ClassId) (kb : ClassId) (c0 : Int32) (c1 : Int32) (h0 : Heap) (O0 : Old Z Z.heap.size h0) (P1 : Arv Z h0 a1 kc .char (2 : Int32) [(.int c0), (.int c1)] (.int 0)) (P2 : Arv Z h0 a2 kb .byte (2 : Int32) [(.int (0 : Int32)), (.int (0 : Int32))] (.int 0)) (P3 : Z.heap.size ≤ a2) (P4 : a1 ≠ a2) (W0 : (¬ ((255 : Int32) < c0))) (W1 : ((255 : Int32) < c1)) :
    Con l Z (⟨"java/lang/StringUTF16", "compress", "([CI[BII)I"⟩ : MethodName) jdk_52_method_21_code 7 (some .int) ({ frames := 0, cells := 0, slots := 0, locals := 0 } : Room) #[(.ref a1), (.int (0 : Int32)), (.ref a2), (.int (0 : Int32)), (.int (2 : Int32))] h0 (Q_cmp5_2_1 Z zC vF a1 a2 kc kb c0 c1 h0) := by
  refine Con.intro pn2 ?_
  intro p e s m below meth c T0 X0 hx hby hml hown0 hnm hret hlk hZ0 e0
  have N0 := Fr.nil Z.heap.size
  refine castGo (g' := mkF m 0 #[.val (.ref a1), .val (.int (0 : Int32)), .val (.ref a2), .val (.int (0 : Int32)), .val (.int (2 : Int32)), .unset, .unset] []) (by first | rfl | (simp [entryFrame, mkF, argsToLocals, Value.category]; done)) ?_
  show Go _ _ _ _ (T0.setTop (mkF m 0 #[.val (.ref a1), .val (.int (0 : Int32)), .val (.ref a2), .val (.int (0 : Int32)), .val (.int (2 : Int32)), .unset, .unset] []))
  refine cI X0 hx (hb hby d_jdk_52m21_0) (q := 1) rfl (z := (0 : Int32)) rfl ?_
  refine sIw X0 hx (hb hby d_jdk_52m21_1) (q := 3) rfl (Ls' := #[.val (.ref a1), .val (.int (0 : Int32)), .val (.ref a2), .val (.int (0 : Int32)), .val (.int (2 : Int32)), .val (.int (0 : Int32)), .unset]) rfl ?_
  refine iLw X0 hx (hb hby d_jdk_52m21_3) (q := 5) rfl rfl ?_
  refine iLw X0 hx (hb hby d_jdk_52m21_5) (q := 7) rfl rfl ?_
  refine icN X0 hx (hb hby d_jdk_52m21_7) (q := 10) rfl (by decide) ?_
  refine aL X0 hx (hb hby d_jdk_52m21_10) (q := 11) rfl rfl rfl ?_
  refine iL X0 hx (hb hby d_jdk_52m21_11) (q := 12) rfl rfl ?_
  refine g_ldC X0 hx hZ0 P1 (i := 0) (by decide) (by decide) (by decide) (v := (.int c0)) rfl e0 (hb hby d_jdk_52m21_12) (q := 13) rfl ?_
  refine sIw X0 hx (hb hby d_jdk_52m21_13) (q := 15) rfl (Ls' := #[.val (.ref a1), .val (.int (0 : Int32)), .val (.ref a2), .val (.int (0 : Int32)), .val (.int (2 : Int32)), .val (.int (0 : Int32)), .val (.int c0)]) rfl ?_
  refine iLw X0 hx (hb hby d_jdk_52m21_15) (q := 17) rfl rfl ?_
  refine pI X0 hx (hb hby d_jdk_52m21_17) (q := 20) rfl (z := (255 : Int32)) rfl ?_
  refine icY X0 hx (hb hby d_jdk_52m21_20) (q := 26) (by decide) (by decide) (flt W0).2.2.2 ?_
  refine aL X0 hx (hb hby d_jdk_52m21_26) (q := 27) rfl rfl rfl ?_
  refine iL X0 hx (hb hby d_jdk_52m21_27) (q := 28) rfl rfl ?_
  refine iLw X0 hx (hb hby d_jdk_52m21_28) (q := 30) rfl rfl ?_
  refine g_i2b X0 hx (hb hby d_jdk_52m21_30) (q := 31) rfl (z := (StrChars.lo8 c0)) rfl ?_
  refine g_stB X0 hx hZ0 P2 (i := 0) (by decide) (by decide) (by decide) (Nat.le_of_ble_eq_true rfl) (y := (StrChars.lo8 c0)) (lo8_nar _) e0 (hb hby d_jdk_52m21_31) (q := 32) rfl ?_
  intro T203 h203 X203 e203 W203 V203
  have N203 := Fr.snoc X203 N0 P3
  have Va203 : Arv Z h203 a2 kb .byte (2 : Int32) [(.int (StrChars.lo8 c0)), (.int (0 : Int32))] (.int 0) := V203
  refine g_iinc X203 hx (hb hby d_jdk_52m21_32) (q := 35) rfl rfl (z := (1 : Int32)) (by decide) (Ls' := #[.val (.ref a1), .val (.int (1 : Int32)), .val (.ref a2), .val (.int (0 : Int32)), .val (.int (2 : Int32)), .val (.int (0 : Int32)), .val (.int c0)]) rfl ?_
  refine g_iinc X203 hx (hb hby d_jdk_52m21_35) (q := 38) rfl rfl (z := (1 : Int32)) (by decide) (Ls' := #[.val (.ref a1), .val (.int (1 : Int32)), .val (.ref a2), .val (.int (1 : Int32)), .val (.int (2 : Int32)), .val (.int (0 : Int32)), .val (.int c0)]) rfl ?_
  refine g_iinc X203 hx (hb hby d_jdk_52m21_38) (q := 41) rfl rfl (z := (1 : Int32)) (by decide) (Ls' := #[.val (.ref a1), .val (.int (1 : Int32)), .val (.ref a2), .val (.int (1 : Int32)), .val (.int (2 : Int32)), .val (.int (1 : Int32)), .val (.int c0)]) rfl ?_
  refine g_goto X203 hx (hb hby d_jdk_52m21_41) (q := 3) (by decide) (by decide) ?_
  refine iLw X203 hx (hb hby d_jdk_52m21_3) (q := 5) rfl rfl ?_
  refine iLw X203 hx (hb hby d_jdk_52m21_5) (q := 7) rfl rfl ?_
  refine icN X203 hx (hb hby d_jdk_52m21_7) (q := 10) rfl (by decide) ?_
  refine aL X203 hx (hb hby d_jdk_52m21_10) (q := 11) rfl rfl rfl ?_
  refine iL X203 hx (hb hby d_jdk_52m21_11) (q := 12) rfl rfl ?_
  have f204 : Arv Z h203 a1 kc .char (2 : Int32) [(.int c0), (.int c1)] (.int 0) := P1.other W203 P4
  refine g_ldC X203 hx hZ0 f204 (i := 1) (by decide) (by decide) (by decide) (v := (.int c1)) rfl e203 (hb hby d_jdk_52m21_12) (q := 13) rfl ?_
  refine sIw X203 hx (hb hby d_jdk_52m21_13) (q := 15) rfl (Ls' := #[.val (.ref a1), .val (.int (1 : Int32)), .val (.ref a2), .val (.int (1 : Int32)), .val (.int (2 : Int32)), .val (.int (1 : Int32)), .val (.int c1)]) rfl ?_
  refine iLw X203 hx (hb hby d_jdk_52m21_15) (q := 17) rfl rfl ?_
  refine pI X203 hx (hb hby d_jdk_52m21_17) (q := 20) rfl (z := (255 : Int32)) rfl ?_
  refine icN X203 hx (hb hby d_jdk_52m21_20) (q := 23) rfl (tlt W1).2.2.2 ?_
  refine iLw X203 hx (hb hby d_jdk_52m21_23) (q := 25) rfl rfl ?_
  have K205 : Keep h0 h203 [a2] := (Keep.refl h0 [a2]).wr W203 (Or.inl (by simp))
  refine endP X203 hlk (fun h => by rw [hret] at h; cases h) (lastI X203 hx hret (hb hby d_jdk_52m21_25)) ?_ (by decide) (by decide)
  rw [e203]
  exact ⟨rfl, N203, K205⟩
def Q_cmp3_2_1 (Z : State) (zC : Int32) (vF : Value) (a1 : Addr) (kc : ClassId) (c0 : Int32) (c1 : Int32) (h0 : Heap) (v : Option Value) (h : Heap) (L : List Loc) : Prop := ∃ (a : Addr), ∃ (kb : ClassId), v = some (.ref a) ∧ Fr Z.heap.size L ∧ Keep h0 h [] ∧ h0.size ≤ a ∧ Arv Z h a kb .byte (4 : Int32) [(.int (StrChars.lo8 c0)), (.int (StrChars.hi8 c0)), (.int (StrChars.lo8 c1)), (.int (StrChars.hi8 c1))] (.int 0)
set_option maxRecDepth 65536 in
set_option maxHeartbeats 40000000 in
theorem rm_cmp3_2_1 (l : Launch) (Z : State) (a0 : Array Value) (hw : ∀ d ∈ tables_1, d.before a0 Z = true) (zC : Int32) (SC : Sta Z Z.heap "java/lang/String" "COMPACT_STRINGS" "Z" (.int zC)) (PC : ¬ zC = (0 : Int32)) (vF : Value) (rF : vF = .null ∨ ∃ a, vF = .ref a) (SF : Sta Z Z.heap "jdk/internal/util/Preconditions" "SIOOBE_FORMATTER" "Ljava/util/function/BiFunction;" vF) (SA : Sta Z Z.heap "java/lang/StringUTF16" "$assertionsDisabled" "Z" (.int (1 : Int32))) (SH : Sta Z Z.heap "java/lang/StringUTF16" "HI_BYTE_SHIFT" "I" (.int (0 : Int32))) (SL : Sta Z Z.heap "java/lang/StringUTF16" "LO_BYTE_SHIFT" "I" (.int (8 : Int32))) (a1 : Addr) (kc : ClassId) (c0 : Int32) (c1 : Int32) (h0 : Heap) (O0 : Old Z Z.heap.size h0) (P1 : Arv Z h0 a1 kc .char (2 : Int32) [(.int c0), (.int c1)] (.int 0)) (H0 : (¬ (c0 < (0 : Int32)))) (J0 : (¬ ((65535 : Int32) < c0))) (H1 : (¬ (c1 < (0 : Int32)))) (J1 : (¬ ((65535 : Int32) < c1))) (W0 : (¬ ((255 : Int32) < c0))) (W1 : ((255 : Int32) < c1)) :
    Con l Z (⟨"java/lang/StringUTF16", "compress", "([CII)[B"⟩ : MethodName) jdk_52_method_16_code 6 (some (.array .byte)) ({ frames := 3, cells := 2, slots := 6, locals := 40 } : Room) #[(.ref a1), (.int (0 : Int32)), (.int (2 : Int32))] h0 (Q_cmp3_2_1 Z zC vF a1 kc c0 c1 h0) := by
  refine Con.intro pn2 ?_
  intro p e s m below meth c T0 X0 hx hby hml hown0 hnm hret hlk hZ0 e0
  have N0 := Fr.nil Z.heap.size
  refine castGo (g' := mkF m 0 #[.val (.ref a1), .val (.int (0 : Int32)), .val (.int (2 : Int32)), .unset, .unset, .unset] []) (by first | rfl | (simp [entryFrame, mkF, argsToLocals, Value.category]; done)) ?_
  show Go _ _ _ _ (T0.setTop (mkF m 0 #[.val (.ref a1), .val (.int (0 : Int32)), .val (.int (2 : Int32)), .unset, .unset, .unset] []))
  refine iL X0 hx (hb hby d_jdk_52m16_0) (q := 1) rfl rfl ?_
  refine g_newA X0 hx hZ0 (aty := .byte) (wd20 hw) (by decide) (n := 2) (by decide) (by decide) (by decide) (by decide) e0 (hb hby d_jdk_52m16_1) (q := 3) rfl ?_
  intro T206 h206 k206 b206 g206 X206 e206 E206 V206
  have Va206 : Arv Z h206 b206 k206 .byte (2 : Int32) [(.int (0 : Int32)), (.int (0 : Int32))] (.int 0) := V206
  refine sA X206 hx (hb hby d_jdk_52m16_3) (q := 4) rfl rfl (Ls' := #[.val (.ref a1), .val (.int (0 : Int32)), .val (.int (2 : Int32)), .val (.ref b206), .unset, .unset]) rfl ?_
  refine aL X206 hx (hb hby d_jdk_52m16_4) (q := 5) rfl rfl rfl ?_
  refine iL X206 hx (hb hby d_jdk_52m16_5) (q := 6) rfl rfl ?_
  refine aL X206 hx (hb hby d_jdk_52m16_6) (q := 7) rfl rfl rfl ?_
  refine cI X206 hx (hb hby d_jdk_52m16_7) (q := 8) rfl (z := (0 : Int32)) rfl ?_
  refine iL X206 hx (hb hby d_jdk_52m16_8) (q := 9) rfl rfl ?_
  have f214 : Arv Z h206 a1 kc .char (2 : Int32) [(.int c0), (.int c1)] (.int 0) := P1.ext E206
  have gz215 : Z.heap.size ≤ b206 := Nat.le_trans O0.2.1 (Nat.le_of_eq g206.symm)
  have ne216 : a1 ≠ b206 := (Nat.ne_of_lt (Nat.lt_of_lt_of_le (Nat.lt_of_lt_of_le P1.lt (Nat.le_refl _)) (Nat.le_of_eq g206.symm)))
  have f217 : Old Z Z.heap.size h206 := O0.ext E206
  refine g_st X206 hx hZ0 hown0 (wd46 hw) (wd47 hw) (wd44 hw) (wd48 hw) (by decide) e206 (Con.back (W := 0) (rm_cmp5_2_1 l Z a0 hw zC SC PC vF rF SF SA SH SL a1 b206 kc k206 c0 c1 h206 f217 f214 Va206 gz215 ne216 W0 W1) hZ0 (wd48 hw) (wd44 hw) (by decide) (by decide)) (by rw [hml]; rfl) (lenOf pd4 rfl) rfl (Nat.le_of_eq rfl) (hb hby d_jdk_52m16_9) (q := 12) rfl (by decide) (by decide) ?_
  intro v213 T213 L213 X213 Q213
  obtain ⟨rfl, Nq213, K213q⟩ := Q213
  have N213 := Fr.app N0 Nq213
  show Go _ _ _ _ (T213.setTop (mkF m 12 #[.val (.ref a1), .val (.int (0 : Int32)), .val (.int (2 : Int32)), .val (.ref b206), .unset, .unset] [(.int (1 : Int32))]))
  refine sIw X213 hx (hb hby d_jdk_52m16_12) (q := 14) rfl (Ls' := #[.val (.ref a1), .val (.int (0 : Int32)), .val (.int (2 : Int32)), .val (.ref b206), .val (.int (1 : Int32)), .unset]) rfl ?_
  refine iLw X213 hx (hb hby d_jdk_52m16_14) (q := 16) rfl rfl ?_
  refine iL X213 hx (hb hby d_jdk_52m16_16) (q := 17) rfl rfl ?_
  refine icN X213 hx (hb hby d_jdk_52m16_17) (q := 20) rfl (by decide) ?_
  refine aL X213 hx (hb hby d_jdk_52m16_20) (q := 21) rfl rfl rfl ?_
  refine iL X213 hx (hb hby d_jdk_52m16_21) (q := 22) rfl rfl ?_
  refine iL X213 hx (hb hby d_jdk_52m16_22) (q := 23) rfl rfl ?_
  have f220 : Arv Z T213.heap a1 kc .char (2 : Int32) [(.int c0), (.int c1)] (.int 0) := f214.keep K213q (ninS ne216 nin0)
  have f221 : Old Z Z.heap.size T213.heap := f217.keep K213q (allS gz215 all0)
  refine g_st X213 hx hZ0 hown0 (wd52 hw) (wd53 hw) (wd44 hw) (wd54 hw) (by decide) rfl (Con.back (W := 0) (rm_toB2 l Z a0 hw zC SC PC vF rF SF SA SH SL a1 kc c0 c1 T213.heap f221 f220) hZ0 (wd54 hw) (wd44 hw) (by decide) (by decide)) (by rw [hml]; rfl) (lenOf pd5 rfl) rfl (Nat.le_of_eq rfl) (hb hby d_jdk_52m16_23) (q := 26) rfl (by decide) (by decide) ?_
  intro v219 T219 L219 X219 Q219
  obtain ⟨a_219, kb_219, rfl, Nq219, K219q, q219_0, q219_1⟩ := Q219
  have N219 := Fr.app N213 Nq219
  show Go _ _ _ _ (T219.setTop (mkF m 26 #[.val (.ref a1), .val (.int (0 : Int32)), .val (.int (2 : Int32)), .val (.ref b206), .val (.int (1 : Int32)), .unset] [(.ref a_219)]))
  refine sAw X219 hx (hb hby d_jdk_52m16_26) (q := 28) rfl rfl (Ls' := #[.val (.ref a1), .val (.int (0 : Int32)), .val (.int (2 : Int32)), .val (.ref b206), .val (.int (1 : Int32)), .val (.ref a_219)]) rfl ?_
  refine aLw X219 hx (hb hby d_jdk_52m16_28) (q := 30) rfl rfl rfl ?_
  refine iLw X219 hx (hb hby d_jdk_52m16_30) (q := 32) rfl rfl ?_
  have f223 : Old Z Z.heap.size T219.heap := f221.keep K219q all0
  refine g_st X219 hx hZ0 hown0 (wd68 hw) (wd69 hw) (wd44 hw) (wd70 hw) (by decide) rfl (Con.back (W := 0) (rm_get2_1 l Z a0 hw zC SC PC vF rF SF SA SH SL a_219 kb_219 c1 (StrChars.lo8 c0) (StrChars.hi8 c0) T219.heap f223 q219_1 H1 J1) hZ0 (wd70 hw) (wd44 hw) (by decide) (by decide)) (by rw [hml]; rfl) (lenOf pd6 rfl) rfl (Nat.le_of_eq rfl) (hb hby d_jdk_52m16_32) (q := 35) rfl (by decide) (by decide) ?_
  intro v222 T222 L222 X222 Q222
  obtain ⟨rfl, Nq222, e222⟩ := Q222
  have N222 := Fr.app N219 Nq222
  show Go _ _ _ _ (T222.setTop (mkF m 35 #[.val (.ref a1), .val (.int (0 : Int32)), .val (.int (2 : Int32)), .val (.ref b206), .val (.int (1 : Int32)), .val (.ref a_219)] [(.int c1)]))
  refine pI X222 hx (hb hby d_jdk_52m16_35) (q := 38) rfl (z := (255 : Int32)) rfl ?_
  refine icY X222 hx (hb hby d_jdk_52m16_38) (q := 54) (by decide) (by decide) (tlt W1).2.2.1 ?_
  refine aLw X222 hx (hb hby d_jdk_52m16_54) (q := 56) rfl rfl rfl ?_
  have K224 : Keep h0 h206 [] := (Keep.refl h0 []).ext E206
  have gh225 : h0.size ≤ b206 := Nat.le_trans (Nat.le_refl _) (Nat.le_of_eq g206.symm)
  have K226 : Keep h0 T213.heap [] := K224.trans K213q (allS (Or.inr gh225) all0)
  have K227 : Keep h0 T219.heap [] := K226.trans K219q all0
  have le229 : (h0).size ≤ (h206).size := E206.1
  have le230 : (h0).size ≤ (T213.heap).size := (Nat.le_trans le229 K213q.1)
  have gh228 : h0.size ≤ a_219 := Nat.le_trans le230 q219_0
  refine endP X222 hlk (fun h => by rw [hret] at h; cases h) (lastA X222 hx hret rfl rfl rfl (hb hby d_jdk_52m16_56)) ?_ (by decide) (by decide)
  rw [e222]
  exact ⟨a_219, kb_219, rfl, N222, K227, gh228, q219_1⟩
def Q_cfa2 (Z : State) (zC : Int32) (vF : Value) (a1 : Addr) (kb : ClassId) (vs : List Value) (h0 : Heap) (v : Option Value) (h : Heap) (L : List Loc) : Prop := v = some (.int (1 : Int32)) ∧ Fr Z.heap.size L ∧ h = h0
set_option maxRecDepth 65536 in
set_option maxHeartbeats 40000000 in
theorem rm_cfa2 (l : Launch) (Z : State) (a0 : Array Value) (hw : ∀ d ∈ tables_1, d.before a0 Z = true) (zC : Int32) (SC : Sta Z Z.heap "java/lang/String" "COMPACT_STRINGS" "Z" (.int zC)) (PC : ¬ zC = (0 : Int32)) (vF : Value) (rF : vF = .null ∨ ∃ a, vF = .ref a) (SF : Sta Z Z.heap "jdk/internal/util/Preconditions" "SIOOBE_FORMATTER" "Ljava/util/function/BiFunction;" vF) (SA : Sta Z Z.heap "java/lang/StringUTF16" "$assertionsDisabled" "Z" (.int (1 : Int32))) (SH : Sta Z Z.heap "java/lang/StringUTF16" "HI_BYTE_SHIFT" "I" (.int (0 : Int32))) (SL : Sta Z Z.heap "java/lang/StringUTF16" "LO_BYTE_SHIFT" "I" (.int (8 : Int32))) (a1 : Addr) (kb : ClassId) (vs : List Value) (h0 : Heap) (O0 : Old Z Z.heap.size h0) (P1 : Arv Z h0 a1 kb .byte (4 : Int32) vs (.int 0)) :
    Con l Z (⟨"java/lang/StringUTF16", "coderFromArrayLen", "([BI)B"⟩ : MethodName) jdk_52_method_15_code 2 (some .byte) ({ frames := 0, cells := 0, slots := 0, locals := 0 } : Room) #[(.ref a1), (.int (2 : Int32))] h0 (Q_cfa2 Z zC vF a1 kb vs h0) := by
  refine Con.intro pn2 ?_
  intro p e s m below meth c T0 X0 hx hby hml hown0 hnm hret hlk hZ0 e0
  have N0 := Fr.nil Z.heap.size
  refine castGo (g' := mkF m 0 #[.val (.ref a1), .val (.int (2 : Int32))] []) (by first | rfl | (simp [entryFrame, mkF, argsToLocals, Value.category]; done)) ?_
  show Go _ _ _ _ (T0.setTop (mkF m 0 #[.val (.ref a1), .val (.int (2 : Int32))] []))
  refine iL X0 hx (hb hby d_jdk_52m15_0) (q := 1) rfl rfl ?_
  refine aL X0 hx (hb hby d_jdk_52m15_1) (q := 2) rfl rfl rfl ?_
  refine g_len X0 hx hZ0 P1 e0 (hb hby d_jdk_52m15_2) (q := 3) rfl ?_
  refine g_isub X0 hx (hb hby d_jdk_52m15_3) (q := 4) rfl (z := (-2 : Int32)) (by decide) ?_
  refine bI X0 hx (hb hby d_jdk_52m15_4) (q := 6) rfl (z := (31 : Int32)) rfl ?_
  refine g_iushr X0 hx (hb hby d_jdk_52m15_6) (q := 7) rfl (z := (1 : Int32)) (by decide) ?_
  refine g_i2b X0 hx (hb hby d_jdk_52m15_7) (q := 8) rfl (z := (1 : Int32)) (by decide) ?_
  refine endP X0 hlk (fun h => by rw [hret] at h; cases h) (lastN X0 hx (t := .byte) (z' := (1 : Int32)) hret (by simp) (by decide) (hb hby d_jdk_52m15_8)) ?_ (by decide) (by decide)
  rw [e0]
  exact ⟨rfl, N0, rfl⟩
def Q_new4w_2_0 (Z : State) (zC : Int32) (vF : Value) (a1 : Addr) (a2 : Addr) (kc : ClassId) (c0 : Int32) (c1 : Int32) (h0 : Heap) (v : Option Value) (h : Heap) (L : List Loc) : Prop := ∃ (t : Addr), ∃ (kb : ClassId), v = none ∧ Fr Z.heap.size L ∧ Keep h0 h [a1] ∧ h0.size ≤ t ∧ Exa Z h a1 "java/lang/String" ∧ Fld Z h a1 "java/lang/String" "value" "[B" (.ref t) ∧ Fld Z h a1 "java/lang/String" "coder" "B" (.int (1 : Int32)) ∧ Arv Z h t kb .byte (4 : Int32) [(.int (StrChars.lo8 c0)), (.int (StrChars.hi8 c0)), (.int (StrChars.lo8 c1)), (.int (StrChars.hi8 c1))] (.int 0)
set_option maxRecDepth 65536 in
set_option maxHeartbeats 40000000 in
theorem rm_new4w_2_0 (l : Launch) (Z : State) (a0 : Array Value) (hw : ∀ d ∈ tables_1, d.before a0 Z = true) (zC : Int32) (SC : Sta Z Z.heap "java/lang/String" "COMPACT_STRINGS" "Z" (.int zC)) (PC : ¬ zC = (0 : Int32)) (vF : Value) (rF : vF = .null ∨ ∃ a, vF = .ref a) (SF : Sta Z Z.heap "jdk/internal/util/Preconditions" "SIOOBE_FORMATTER" "Ljava/util/function/BiFunction;" vF) (SA : Sta Z Z.heap "java/lang/StringUTF16" "$assertionsDisabled" "Z" (.int (1 : Int32))) (SH : Sta Z Z.heap "java/lang/StringUTF16" "HI_BYTE_SHIFT" "I" (.int (0 : Int32))) (SL : Sta Z Z.heap "java/lang/StringUTF16" "LO_BYTE_SHIFT" "I" (.int (8 : Int32))) (a1 : Addr) (a2 : Addr) (kc : ClassId) (c0 : Int32) (c1 : Int32) (h0 : Heap) (O0 : Old Z Z.heap.size h0) (P1 : Exa Z h0 a1 "java/lang/String") (P2 : Fld Z h0 a1 "java/lang/String" "value" "[B" .null) (P3 : Fld Z h0 a1 "java/lang/String" "coder" "B" (.int (0 : Int32))) (P4 : Z.heap.size ≤ a1) (P5 : Arv Z h0 a2 kc .char (2 : Int32) [(.int c0), (.int c1)] (.int 0)) (H0 : (¬ (c0 < (0 : Int32)))) (J0 : (¬ ((65535 : Int32) < c0))) (H1 : (¬ (c1 < (0 : Int32)))) (J1 : (¬ ((65535 : Int32) < c1))) (W0 : ((255 : Int32) < c0)) :
    Con l Z (⟨"java/lang/String", "<init>", "([CIILjava/lang/Void;)V"⟩ : MethodName) jdk_42_method_149_code 6 none ({ frames := 4, cells := 2, slots := 6, locals := 57 } : Room) #[(.ref a1), (.ref a2), (.int (0 : Int32)), (.int (2 : Int32)), .null] h0 (Q_new4w_2_0 Z zC vF a1 a2 kc c0 c1 h0) := by
  refine Con.intro pn0 ?_
  intro p e s m below meth c T0 X0 hx hby hml hown0 hnm hret hlk hZ0 e0
  have N0 := Fr.nil Z.heap.size
  refine castGo (g' := mkF m 0 #[.val (.ref a1), .val (.ref a2), .val (.int (0 : Int32)), .val (.int (2 : Int32)), .val .null, .unset] []) (by first | rfl | (simp [entryFrame, mkF, argsToLocals, Value.category]; done)) ?_
  show Go _ _ _ _ (T0.setTop (mkF m 0 #[.val (.ref a1), .val (.ref a2), .val (.int (0 : Int32)), .val (.int (2 : Int32)), .val .null, .unset] []))
  refine aL X0 hx (hb hby d_jdk_42m149_0) (q := 1) rfl rfl rfl ?_
  refine g_init0 X0 hx hZ0 hown0 (wd16 hw) (wd17 hw) (wd18 hw) (by rw [hml]; rfl) (by decide) (W := 0) (Nat.le_of_eq rfl) (by decide) e0 (hb hby d_jdk_42m149_1) (q := 4) rfl ?_
  intro T231 X231 e231
  refine iL X231 hx (hb hby d_jdk_42m149_4) (q := 5) rfl rfl ?_
  refine ifY X231 hx (hb hby d_jdk_42m149_5) (q := 27) (by decide) (by decide) (by decide) ?_
  refine g_getS X231 hx hZ0 hown0 (host := "") (Or.inl (wd41 hw)) Via.refl (SC.ext O0.2) e231 (hb hby d_jdk_42m149_27) (q := 30) rfl ?_
  intro T232 X232 e232
  refine ifN X232 hx (hb hby d_jdk_42m149_30) (q := 33) rfl ((if0 _ _).trans (feq PC).1) ?_
  refine aL X232 hx (hb hby d_jdk_42m149_33) (q := 34) rfl rfl rfl ?_
  refine iL X232 hx (hb hby d_jdk_42m149_34) (q := 35) rfl rfl ?_
  refine iL X232 hx (hb hby d_jdk_42m149_35) (q := 36) rfl rfl ?_
  refine g_st X232 hx hZ0 hown0 (wd42 hw) (wd43 hw) (wd44 hw) (wd45 hw) (by decide) e232 (Con.back (W := 0) (rm_cmp3_2_0 l Z a0 hw zC SC PC vF rF SF SA SH SL a2 kc c0 c1 h0 O0 P5 H0 J0 H1 J1 W0) hZ0 (wd45 hw) (wd44 hw) (by decide) (by decide)) (by rw [hml]; rfl) (lenOf pd5 rfl) rfl (Nat.le_of_eq rfl) (hb hby d_jdk_42m149_36) (q := 39) rfl (by decide) (by decide) ?_
  intro v233 T233 L233 X233 Q233
  obtain ⟨a_233, kb_233, rfl, Nq233, K233q, q233_0, q233_1⟩ := Q233
  have N233 := Fr.app N0 Nq233
  show Go _ _ _ _ (T233.setTop (mkF m 39 #[.val (.ref a1), .val (.ref a2), .val (.int (0 : Int32)), .val (.int (2 : Int32)), .val .null, .unset] [(.ref a_233)]))
  refine sAw X233 hx (hb hby d_jdk_42m149_39) (q := 41) rfl rfl (Ls' := #[.val (.ref a1), .val (.ref a2), .val (.int (0 : Int32)), .val (.int (2 : Int32)), .val .null, .val (.ref a_233)]) rfl ?_
  refine aL X233 hx (hb hby d_jdk_42m149_41) (q := 42) rfl rfl rfl ?_
  refine aLw X233 hx (hb hby d_jdk_42m149_42) (q := 44) rfl rfl rfl ?_
  refine iL X233 hx (hb hby d_jdk_42m149_44) (q := 45) rfl rfl ?_
  have f235 : Old Z Z.heap.size T233.heap := O0.keep K233q all0
  refine g_st X233 hx hZ0 hown0 (wd49 hw) (wd50 hw) (wd44 hw) (wd51 hw) (by decide) rfl (Con.back (W := 1) (rm_cfa2 l Z a0 hw zC SC PC vF rF SF SA SH SL a_233 kb_233 [(.int (StrChars.lo8 c0)), (.int (StrChars.hi8 c0)), (.int (StrChars.lo8 c1)), (.int (StrChars.hi8 c1))] T233.heap f235 q233_1) hZ0 (wd51 hw) (wd44 hw) (by decide) (by decide)) (by rw [hml]; rfl) (lenOf pd7 rfl) rfl (Nat.le_of_eq rfl) (hb hby d_jdk_42m149_45) (q := 48) rfl (by decide) (by decide) ?_
  intro v234 T234 L234 X234 Q234
  obtain ⟨rfl, Nq234, e234⟩ := Q234
  have N234 := Fr.app N233 Nq234
  show Go _ _ _ _ (T234.setTop (mkF m 48 #[.val (.ref a1), .val (.ref a2), .val (.int (0 : Int32)), .val (.int (2 : Int32)), .val .null, .val (.ref a_233)] [(.int (1 : Int32)), (.ref a1)]))
  have f236 : Fld Z T233.heap a1 "java/lang/String" "coder" "B" (.int (0 : Int32)) := P3.keep K233q nin0
  have f237 : Exa Z T233.heap a1 "java/lang/String" := P1.keep K233q
  refine g_putF X234 hx hZ0 hown0 (host := "") (Or.inl (wd26 hw)) Via.refl f236 f237 (Or.inr ⟨(wd22 hw), rfl, hnm⟩) (wd2 hw) (ty := .byte) (by decide) rfl rfl e234 (hb hby d_jdk_42m149_48) (q := 51) rfl ?_
  intro T238 h238 X238 e238 W238
  have N238 := Fr.snoc X238 N234 P4
  have Fw238 : Fld Z h238 a1 "java/lang/String" "coder" "B" (.int (1 : Int32)) := f236.same W238
  refine aL X238 hx (hb hby d_jdk_42m149_51) (q := 52) rfl rfl rfl ?_
  refine aLw X238 hx (hb hby d_jdk_42m149_52) (q := 54) rfl rfl rfl ?_
  have f239 : Fld Z T233.heap a1 "java/lang/String" "value" "[B" .null := P2.keep K233q nin0
  have f240 : Fld Z h238 a1 "java/lang/String" "value" "[B" .null := f239.other W238 (Or.inr (slot_ne (Or.inr (wd21 hw)) (Or.inr (wd22 hw)) (by decide) (t := (.array .byte)) (t' := .byte) (by decide) (by decide)))
  have f241 : Exa Z h238 a1 "java/lang/String" := f237.wr W238
  refine g_putF X238 hx hZ0 hown0 (host := "") (Or.inl (wd25 hw)) Via.refl f240 f241 (Or.inr ⟨(wd21 hw), rfl, hnm⟩) (wd2 hw) (ty := (.array .byte)) (by decide) rfl rfl e238 (hb hby d_jdk_42m149_54) (q := 57) rfl ?_
  intro T242 h242 X242 e242 W242
  have N242 := Fr.snoc X242 N238 P4
  have Fw242 : Fld Z h242 a1 "java/lang/String" "value" "[B" (.ref a_233) := f240.same W242
  have K243 : Keep h0 T233.heap [a1] := (Keep.refl h0 [a1]).trans K233q all0
  have K244 : Keep h0 h238 [a1] := K243.wr W238 (Or.inl (by simp))
  have K245 : Keep h0 h242 [a1] := K244.wr W242 (Or.inl (by simp))
  have gh246 : h0.size ≤ a_233 := Nat.le_trans (Nat.le_refl _) q233_0
  have f247 : Exa Z h242 a1 "java/lang/String" := f241.wr W242
  have f248 : Fld Z h242 a1 "java/lang/String" "coder" "B" (.int (1 : Int32)) := Fw238.other W242 (Or.inr (slot_ne (Or.inr (wd22 hw)) (Or.inr (wd21 hw)) (by decide) (t := .byte) (t' := (.array .byte)) (by decide) (by decide)))
  have ne249 : a_233 ≠ a1 := (Nat.ne_of_gt (Nat.lt_of_lt_of_le (Nat.lt_of_lt_of_le P1.lt (Nat.le_refl _)) q233_0))
  have f250 : Arv Z h238 a_233 kb_233 .byte (4 : Int32) [(.int (StrChars.lo8 c0)), (.int (StrChars.hi8 c0)), (.int (StrChars.lo8 c1)), (.int (StrChars.hi8 c1))] (.int 0) := q233_1.other W238 ne249
  have f251 : Arv Z h242 a_233 kb_233 .byte (4 : Int32) [(.int (StrChars.lo8 c0)), (.int (StrChars.hi8 c0)), (.int (StrChars.lo8 c1)), (.int (StrChars.hi8 c1))] (.int 0) := f250.other W242 ne249
  refine endP X242 hlk (fun _ => rfl) (lastV X242 hx hret (hb hby d_jdk_42m149_57)) ?_ (by decide) (by decide)
  rw [e242]
  exact ⟨a_233, kb_233, rfl, N242, K245, gh246, f247, Fw242, f248, f251⟩
def Q_new1w_2_0 (Z : State) (zC : Int32) (vF : Value) (a1 : Addr) (a2 : Addr) (kc : ClassId) (c0 : Int32) (c1 : Int32) (h0 : Heap) (v : Option Value) (h : Heap) (L : List Loc) : Prop := ∃ (t : Addr), ∃ (kb : ClassId), v = none ∧ Fr Z.heap.size L ∧ Keep h0 h [a1] ∧ h0.size ≤ t ∧ Exa Z h a1 "java/lang/String" ∧ Fld Z h a1 "java/lang/String" "value" "[B" (.ref t) ∧ Fld Z h a1 "java/lang/String" "coder" "B" (.int (1 : Int32)) ∧ Arv Z h t kb .byte (4 : Int32) [(.int (StrChars.lo8 c0)), (.int (StrChars.hi8 c0)), (.int (StrChars.lo8 c1)), (.int (StrChars.hi8 c1))] (.int 0)
set_option maxRecDepth 65536 in
set_option maxHeartbeats 40000000 in
theorem rm_new1w_2_0 (l : Launch) (Z : State) (a0 : Array Value) (hw : ∀ d ∈ tables_1, d.before a0 Z = true) (zC : Int32) (SC : Sta Z Z.heap "java/lang/String" "COMPACT_STRINGS" "Z" (.int zC)) (PC : ¬ zC = (0 : Int32)) (vF : Value) (rF : vF = .null ∨ ∃ a, vF = .ref a) (SF : Sta Z Z.heap "jdk/internal/util/Preconditions" "SIOOBE_FORMATTER" "Ljava/util/function/BiFunction;" vF) (SA : Sta Z Z.heap "java/lang/StringUTF16" "$assertionsDisabled" "Z" (.int (1 : Int32))) (SH : Sta Z Z.heap "java/lang/StringUTF16" "HI_BYTE_SHIFT" "I" (.int (0 : Int32))) (SL : Sta Z Z.heap "java/lang/StringUTF16" "LO_BYTE_SHIFT" "I" (.int (8 : Int32))) (a1 : Addr) (a2 : Addr) (kc : ClassId) (c0 : Int32) (c1 : Int32) (h0 : Heap) (O0 : Old Z Z.heap.size h0) (P1 : Exa Z h0 a1 "java/lang/String") (P2 : Fld Z h0 a1 "java/lang/String" "value" "[B" .null) (P3 : Fld Z h0 a1 "java/lang/String" "coder" "B" (.int (0 : Int32))) (P4 : Z.heap.size ≤ a1) (P5 : Arv Z h0 a2 kc .char (2 : Int32) [(.int c0), (.int c1)] (.int 0)) (H0 : (¬ (c0 < (0 : Int32)))) (J0 : (¬ ((65535 : Int32) < c0))) (H1 : (¬ (c1 < (0 : Int32)))) (J1 : (¬ ((65535 : Int32) < c1))) (W0 : ((255 : Int32) < c0)) :
    Con l Z (⟨"java/lang/String", "<init>", "([C)V"⟩ : MethodName) jdk_42_method_3_code 2 none ({ frames := 5, cells := 2, slots := 6, locals := 74 } : Room) #[(.ref a1), (.ref a2)] h0 (Q_new1w_2_0 Z zC vF a1 a2 kc c0 c1 h0) := by
  refine Con.intro pn0 ?_
  intro p e s m below meth c T0 X0 hx hby hml hown0 hnm hret hlk hZ0 e0
  have N0 := Fr.nil Z.heap.size
  refine castGo (g' := mkF m 0 #[.val (.ref a1), .val (.ref a2)] []) (by first | rfl | (simp [entryFrame, mkF, argsToLocals, Value.category]; done)) ?_
  show Go _ _ _ _ (T0.setTop (mkF m 0 #[.val (.ref a1), .val (.ref a2)] []))
  refine aL X0 hx (hb hby d_jdk_42m3_0) (q := 1) rfl rfl rfl ?_
  refine aL X0 hx (hb hby d_jdk_42m3_1) (q := 2) rfl rfl rfl ?_
  refine cI X0 hx (hb hby d_jdk_42m3_2) (q := 3) rfl (z := (0 : Int32)) rfl ?_
  refine aL X0 hx (hb hby d_jdk_42m3_3) (q := 4) rfl rfl rfl ?_
  refine g_len X0 hx hZ0 P5 e0 (hb hby d_jdk_42m3_4) (q := 5) rfl ?_
  refine cN X0 hx (hb hby d_jdk_42m3_5) (q := 6) rfl ?_
  refine g_sp X0 hx hZ0 hown0 (wd12 hw) (wd13 hw) (wd15 hw) rfl (by decide) e0 (Con.back (W := 0) (rm_new4w_2_0 l Z a0 hw zC SC PC vF rF SF SA SH SL a1 a2 kc c0 c1 h0 O0 P1 P2 P3 P4 P5 H0 J0 H1 J1 W0) hZ0 (wd15 hw) (wd3 hw) (by decide) (by decide)) (by rw [hml]; rfl) (lenOf pd0 rfl) rfl (Nat.le_of_eq rfl) (hb hby d_jdk_42m3_6) (q := 9) rfl (by decide) (by decide) ?_
  intro v252 T252 L252 X252 Q252
  obtain ⟨t_252, kb_252, rfl, Nq252, K252q, q252_0, q252_1, q252_2, q252_3, q252_4⟩ := Q252
  have N252 := Fr.app N0 Nq252
  show Go _ _ _ _ (T252.setTop (mkF m 9 #[.val (.ref a1), .val (.ref a2)] []))
  have K253 : Keep h0 T252.heap [a1] := (Keep.refl h0 [a1]).trans K252q (allS (Or.inl (by simp)) all0)
  have gh254 : h0.size ≤ t_252 := Nat.le_trans (Nat.le_refl _) q252_0
  refine endP X252 hlk (fun _ => rfl) (lastV X252 hx hret (hb hby d_jdk_42m3_9)) ?_ (by decide) (by decide)
  exact ⟨t_252, kb_252, rfl, N252, K253, gh254, q252_1, q252_2, q252_3, q252_4⟩
def Q_new4w_2_1 (Z : State) (zC : Int32) (vF : Value) (a1 : Addr) (a2 : Addr) (kc : ClassId) (c0 : Int32) (c1 : Int32) (h0 : Heap) (v : Option Value) (h : Heap) (L : List Loc) : Prop := ∃ (t : Addr), ∃ (kb : ClassId), v = none ∧ Fr Z.heap.size L ∧ Keep h0 h [a1] ∧ h0.size ≤ t ∧ Exa Z h a1 "java/lang/String" ∧ Fld Z h a1 "java/lang/String" "value" "[B" (.ref t) ∧ Fld Z h a1 "java/lang/String" "coder" "B" (.int (1 : Int32)) ∧ Arv Z h t kb .byte (4 : Int32) [(.int (StrChars.lo8 c0)), (.int (StrChars.hi8 c0)), (.int (StrChars.lo8 c1)), (.int (StrChars.hi8 c1))] (.int 0)
set_option maxRecDepth 65536 in
set_option maxHeartbeats 40000000 in
theorem rm_new4w_2_1 (l : Launch) (Z : State) (a0 : Array Value) (hw : ∀ d ∈ tables_1, d.before a0 Z = true) (zC : Int32) (SC : Sta Z Z.heap "java/lang/String" "COMPACT_STRINGS" "Z" (.int zC)) (PC : ¬ zC = (0 : Int32)) (vF : Value) (rF : vF = .null ∨ ∃ a, vF = .ref a) (SF : Sta Z Z.heap "jdk/internal/util/Preconditions" "SIOOBE_FORMATTER" "Ljava/util/function/BiFunction;" vF) (SA : Sta Z Z.heap "java/lang/StringUTF16" "$assertionsDisabled" "Z" (.int (1 : Int32))) (SH : Sta Z Z.heap "java/lang/StringUTF16" "HI_BYTE_SHIFT" "I" (.int (0 : Int32))) (SL : Sta Z Z.heap "java/lang/StringUTF16" "LO_BYTE_SHIFT" "I" (.int (8 : Int32))) (a1 : Addr) (a2 : Addr) (kc : ClassId) (c0 : Int32) (c1 : Int32) (h0 : Heap) (O0 : Old Z Z.heap.size h0) (P1 : Exa Z h0 a1 "java/lang/String") (P2 : Fld Z h0 a1 "java/lang/String" "value" "[B" .null) (P3 : Fld Z h0 a1 "java/lang/String" "coder" "B" (.int (0 : Int32))) (P4 : Z.heap.size ≤ a1) (P5 : Arv Z h0 a2 kc .char (2 : Int32) [(.int c0), (.int c1)] (.int 0)) (H0 : (¬ (c0 < (0 : Int32)))) (J0 : (¬ ((65535 : Int32) < c0))) (H1 : (¬ (c1 < (0 : Int32)))) (J1 : (¬ ((65535 : Int32) < c1))) (W0 : (¬ ((255 : Int32) < c0))) (W1 : ((255 : Int32) < c1)) :
    Con l Z (⟨"java/lang/String", "<init>", "([CIILjava/lang/Void;)V"⟩ : MethodName) jdk_42_method_149_code 6 none ({ frames := 4, cells := 2, slots := 6, locals := 57 } : Room) #[(.ref a1), (.ref a2), (.int (0 : Int32)), (.int (2 : Int32)), .null] h0 (Q_new4w_2_1 Z zC vF a1 a2 kc c0 c1 h0) := by
  refine Con.intro pn0 ?_
  intro p e s m below meth c T0 X0 hx hby hml hown0 hnm hret hlk hZ0 e0
  have N0 := Fr.nil Z.heap.size
  refine castGo (g' := mkF m 0 #[.val (.ref a1), .val (.ref a2), .val (.int (0 : Int32)), .val (.int (2 : Int32)), .val .null, .unset] []) (by first | rfl | (simp [entryFrame, mkF, argsToLocals, Value.category]; done)) ?_
  show Go _ _ _ _ (T0.setTop (mkF m 0 #[.val (.ref a1), .val (.ref a2), .val (.int (0 : Int32)), .val (.int (2 : Int32)), .val .null, .unset] []))
  refine aL X0 hx (hb hby d_jdk_42m149_0) (q := 1) rfl rfl rfl ?_
  refine g_init0 X0 hx hZ0 hown0 (wd16 hw) (wd17 hw) (wd18 hw) (by rw [hml]; rfl) (by decide) (W := 0) (Nat.le_of_eq rfl) (by decide) e0 (hb hby d_jdk_42m149_1) (q := 4) rfl ?_
  intro T255 X255 e255
  refine iL X255 hx (hb hby d_jdk_42m149_4) (q := 5) rfl rfl ?_
  refine ifY X255 hx (hb hby d_jdk_42m149_5) (q := 27) (by decide) (by decide) (by decide) ?_
  refine g_getS X255 hx hZ0 hown0 (host := "") (Or.inl (wd41 hw)) Via.refl (SC.ext O0.2) e255 (hb hby d_jdk_42m149_27) (q := 30) rfl ?_
  intro T256 X256 e256
  refine ifN X256 hx (hb hby d_jdk_42m149_30) (q := 33) rfl ((if0 _ _).trans (feq PC).1) ?_
  refine aL X256 hx (hb hby d_jdk_42m149_33) (q := 34) rfl rfl rfl ?_
  refine iL X256 hx (hb hby d_jdk_42m149_34) (q := 35) rfl rfl ?_
  refine iL X256 hx (hb hby d_jdk_42m149_35) (q := 36) rfl rfl ?_
  refine g_st X256 hx hZ0 hown0 (wd42 hw) (wd43 hw) (wd44 hw) (wd45 hw) (by decide) e256 (Con.back (W := 0) (rm_cmp3_2_1 l Z a0 hw zC SC PC vF rF SF SA SH SL a2 kc c0 c1 h0 O0 P5 H0 J0 H1 J1 W0 W1) hZ0 (wd45 hw) (wd44 hw) (by decide) (by decide)) (by rw [hml]; rfl) (lenOf pd5 rfl) rfl (Nat.le_of_eq rfl) (hb hby d_jdk_42m149_36) (q := 39) rfl (by decide) (by decide) ?_
  intro v257 T257 L257 X257 Q257
  obtain ⟨a_257, kb_257, rfl, Nq257, K257q, q257_0, q257_1⟩ := Q257
  have N257 := Fr.app N0 Nq257
  show Go _ _ _ _ (T257.setTop (mkF m 39 #[.val (.ref a1), .val (.ref a2), .val (.int (0 : Int32)), .val (.int (2 : Int32)), .val .null, .unset] [(.ref a_257)]))
  refine sAw X257 hx (hb hby d_jdk_42m149_39) (q := 41) rfl rfl (Ls' := #[.val (.ref a1), .val (.ref a2), .val (.int (0 : Int32)), .val (.int (2 : Int32)), .val .null, .val (.ref a_257)]) rfl ?_
  refine aL X257 hx (hb hby d_jdk_42m149_41) (q := 42) rfl rfl rfl ?_
  refine aLw X257 hx (hb hby d_jdk_42m149_42) (q := 44) rfl rfl rfl ?_
  refine iL X257 hx (hb hby d_jdk_42m149_44) (q := 45) rfl rfl ?_
  have f259 : Old Z Z.heap.size T257.heap := O0.keep K257q all0
  refine g_st X257 hx hZ0 hown0 (wd49 hw) (wd50 hw) (wd44 hw) (wd51 hw) (by decide) rfl (Con.back (W := 1) (rm_cfa2 l Z a0 hw zC SC PC vF rF SF SA SH SL a_257 kb_257 [(.int (StrChars.lo8 c0)), (.int (StrChars.hi8 c0)), (.int (StrChars.lo8 c1)), (.int (StrChars.hi8 c1))] T257.heap f259 q257_1) hZ0 (wd51 hw) (wd44 hw) (by decide) (by decide)) (by rw [hml]; rfl) (lenOf pd7 rfl) rfl (Nat.le_of_eq rfl) (hb hby d_jdk_42m149_45) (q := 48) rfl (by decide) (by decide) ?_
  intro v258 T258 L258 X258 Q258
  obtain ⟨rfl, Nq258, e258⟩ := Q258
  have N258 := Fr.app N257 Nq258
  show Go _ _ _ _ (T258.setTop (mkF m 48 #[.val (.ref a1), .val (.ref a2), .val (.int (0 : Int32)), .val (.int (2 : Int32)), .val .null, .val (.ref a_257)] [(.int (1 : Int32)), (.ref a1)]))
  have f260 : Fld Z T257.heap a1 "java/lang/String" "coder" "B" (.int (0 : Int32)) := P3.keep K257q nin0
  have f261 : Exa Z T257.heap a1 "java/lang/String" := P1.keep K257q
  refine g_putF X258 hx hZ0 hown0 (host := "") (Or.inl (wd26 hw)) Via.refl f260 f261 (Or.inr ⟨(wd22 hw), rfl, hnm⟩) (wd2 hw) (ty := .byte) (by decide) rfl rfl e258 (hb hby d_jdk_42m149_48) (q := 51) rfl ?_
  intro T262 h262 X262 e262 W262
  have N262 := Fr.snoc X262 N258 P4
  have Fw262 : Fld Z h262 a1 "java/lang/String" "coder" "B" (.int (1 : Int32)) := f260.same W262
  refine aL X262 hx (hb hby d_jdk_42m149_51) (q := 52) rfl rfl rfl ?_
  refine aLw X262 hx (hb hby d_jdk_42m149_52) (q := 54) rfl rfl rfl ?_
  have f263 : Fld Z T257.heap a1 "java/lang/String" "value" "[B" .null := P2.keep K257q nin0
  have f264 : Fld Z h262 a1 "java/lang/String" "value" "[B" .null := f263.other W262 (Or.inr (slot_ne (Or.inr (wd21 hw)) (Or.inr (wd22 hw)) (by decide) (t := (.array .byte)) (t' := .byte) (by decide) (by decide)))
  have f265 : Exa Z h262 a1 "java/lang/String" := f261.wr W262
  refine g_putF X262 hx hZ0 hown0 (host := "") (Or.inl (wd25 hw)) Via.refl f264 f265 (Or.inr ⟨(wd21 hw), rfl, hnm⟩) (wd2 hw) (ty := (.array .byte)) (by decide) rfl rfl e262 (hb hby d_jdk_42m149_54) (q := 57) rfl ?_
  intro T266 h266 X266 e266 W266
  have N266 := Fr.snoc X266 N262 P4
  have Fw266 : Fld Z h266 a1 "java/lang/String" "value" "[B" (.ref a_257) := f264.same W266
  have K267 : Keep h0 T257.heap [a1] := (Keep.refl h0 [a1]).trans K257q all0
  have K268 : Keep h0 h262 [a1] := K267.wr W262 (Or.inl (by simp))
  have K269 : Keep h0 h266 [a1] := K268.wr W266 (Or.inl (by simp))
  have gh270 : h0.size ≤ a_257 := Nat.le_trans (Nat.le_refl _) q257_0
  have f271 : Exa Z h266 a1 "java/lang/String" := f265.wr W266
  have f272 : Fld Z h266 a1 "java/lang/String" "coder" "B" (.int (1 : Int32)) := Fw262.other W266 (Or.inr (slot_ne (Or.inr (wd22 hw)) (Or.inr (wd21 hw)) (by decide) (t := .byte) (t' := (.array .byte)) (by decide) (by decide)))
  have ne273 : a_257 ≠ a1 := (Nat.ne_of_gt (Nat.lt_of_lt_of_le (Nat.lt_of_lt_of_le P1.lt (Nat.le_refl _)) q257_0))
  have f274 : Arv Z h262 a_257 kb_257 .byte (4 : Int32) [(.int (StrChars.lo8 c0)), (.int (StrChars.hi8 c0)), (.int (StrChars.lo8 c1)), (.int (StrChars.hi8 c1))] (.int 0) := q257_1.other W262 ne273
  have f275 : Arv Z h266 a_257 kb_257 .byte (4 : Int32) [(.int (StrChars.lo8 c0)), (.int (StrChars.hi8 c0)), (.int (StrChars.lo8 c1)), (.int (StrChars.hi8 c1))] (.int 0) := f274.other W266 ne273
  refine endP X266 hlk (fun _ => rfl) (lastV X266 hx hret (hb hby d_jdk_42m149_57)) ?_ (by decide) (by decide)
  rw [e266]
  exact ⟨a_257, kb_257, rfl, N266, K269, gh270, f271, Fw266, f272, f275⟩
def Q_new1w_2_1 (Z : State) (zC : Int32) (vF : Value) (a1 : Addr) (a2 : Addr) (kc : ClassId) (c0 : Int32) (c1 : Int32) (h0 : Heap) (v : Option Value) (h : Heap) (L : List Loc) : Prop := ∃ (t : Addr), ∃ (kb : ClassId), v = none ∧ Fr Z.heap.size L ∧ Keep h0 h [a1] ∧ h0.size ≤ t ∧ Exa Z h a1 "java/lang/String" ∧ Fld Z h a1 "java/lang/String" "value" "[B" (.ref t) ∧ Fld Z h a1 "java/lang/String" "coder" "B" (.int (1 : Int32)) ∧ Arv Z h t kb .byte (4 : Int32) [(.int (StrChars.lo8 c0)), (.int (StrChars.hi8 c0)), (.int (StrChars.lo8 c1)), (.int (StrChars.hi8 c1))] (.int 0)
set_option maxRecDepth 65536 in
set_option maxHeartbeats 40000000 in
theorem rm_new1w_2_1 (l : Launch) (Z : State) (a0 : Array Value) (hw : ∀ d ∈ tables_1, d.before a0 Z = true) (zC : Int32) (SC : Sta Z Z.heap "java/lang/String" "COMPACT_STRINGS" "Z" (.int zC)) (PC : ¬ zC = (0 : Int32)) (vF : Value) (rF : vF = .null ∨ ∃ a, vF = .ref a) (SF : Sta Z Z.heap "jdk/internal/util/Preconditions" "SIOOBE_FORMATTER" "Ljava/util/function/BiFunction;" vF) (SA : Sta Z Z.heap "java/lang/StringUTF16" "$assertionsDisabled" "Z" (.int (1 : Int32))) (SH : Sta Z Z.heap "java/lang/StringUTF16" "HI_BYTE_SHIFT" "I" (.int (0 : Int32))) (SL : Sta Z Z.heap "java/lang/StringUTF16" "LO_BYTE_SHIFT" "I" (.int (8 : Int32))) (a1 : Addr) (a2 : Addr) (kc : ClassId) (c0 : Int32) (c1 : Int32) (h0 : Heap) (O0 : Old Z Z.heap.size h0) (P1 : Exa Z h0 a1 "java/lang/String") (P2 : Fld Z h0 a1 "java/lang/String" "value" "[B" .null) (P3 : Fld Z h0 a1 "java/lang/String" "coder" "B" (.int (0 : Int32))) (P4 : Z.heap.size ≤ a1) (P5 : Arv Z h0 a2 kc .char (2 : Int32) [(.int c0), (.int c1)] (.int 0)) (H0 : (¬ (c0 < (0 : Int32)))) (J0 : (¬ ((65535 : Int32) < c0))) (H1 : (¬ (c1 < (0 : Int32)))) (J1 : (¬ ((65535 : Int32) < c1))) (W0 : (¬ ((255 : Int32) < c0))) (W1 : ((255 : Int32) < c1)) :
    Con l Z (⟨"java/lang/String", "<init>", "([C)V"⟩ : MethodName) jdk_42_method_3_code 2 none ({ frames := 5, cells := 2, slots := 6, locals := 74 } : Room) #[(.ref a1), (.ref a2)] h0 (Q_new1w_2_1 Z zC vF a1 a2 kc c0 c1 h0) := by
  refine Con.intro pn0 ?_
  intro p e s m below meth c T0 X0 hx hby hml hown0 hnm hret hlk hZ0 e0
  have N0 := Fr.nil Z.heap.size
  refine castGo (g' := mkF m 0 #[.val (.ref a1), .val (.ref a2)] []) (by first | rfl | (simp [entryFrame, mkF, argsToLocals, Value.category]; done)) ?_
  show Go _ _ _ _ (T0.setTop (mkF m 0 #[.val (.ref a1), .val (.ref a2)] []))
  refine aL X0 hx (hb hby d_jdk_42m3_0) (q := 1) rfl rfl rfl ?_
  refine aL X0 hx (hb hby d_jdk_42m3_1) (q := 2) rfl rfl rfl ?_
  refine cI X0 hx (hb hby d_jdk_42m3_2) (q := 3) rfl (z := (0 : Int32)) rfl ?_
  refine aL X0 hx (hb hby d_jdk_42m3_3) (q := 4) rfl rfl rfl ?_
  refine g_len X0 hx hZ0 P5 e0 (hb hby d_jdk_42m3_4) (q := 5) rfl ?_
  refine cN X0 hx (hb hby d_jdk_42m3_5) (q := 6) rfl ?_
  refine g_sp X0 hx hZ0 hown0 (wd12 hw) (wd13 hw) (wd15 hw) rfl (by decide) e0 (Con.back (W := 0) (rm_new4w_2_1 l Z a0 hw zC SC PC vF rF SF SA SH SL a1 a2 kc c0 c1 h0 O0 P1 P2 P3 P4 P5 H0 J0 H1 J1 W0 W1) hZ0 (wd15 hw) (wd3 hw) (by decide) (by decide)) (by rw [hml]; rfl) (lenOf pd0 rfl) rfl (Nat.le_of_eq rfl) (hb hby d_jdk_42m3_6) (q := 9) rfl (by decide) (by decide) ?_
  intro v276 T276 L276 X276 Q276
  obtain ⟨t_276, kb_276, rfl, Nq276, K276q, q276_0, q276_1, q276_2, q276_3, q276_4⟩ := Q276
  have N276 := Fr.app N0 Nq276
  show Go _ _ _ _ (T276.setTop (mkF m 9 #[.val (.ref a1), .val (.ref a2)] []))
  have K277 : Keep h0 T276.heap [a1] := (Keep.refl h0 [a1]).trans K276q (allS (Or.inl (by simp)) all0)
  have gh278 : h0.size ≤ t_276 := Nat.le_trans (Nat.le_refl _) q276_0
  refine endP X276 hlk (fun _ => rfl) (lastV X276 hx hret (hb hby d_jdk_42m3_9)) ?_ (by decide) (by decide)
  exact ⟨t_276, kb_276, rfl, N276, K277, gh278, q276_1, q276_2, q276_3, q276_4⟩
def Q_put3_0 (Z : State) (zC : Int32) (vF : Value) (a1 : Addr) (kb : ClassId) (c0 : Int32) (x0 : Int32) (x1 : Int32) (x2 : Int32) (x3 : Int32) (x4 : Int32) (x5 : Int32) (h0 : Heap) (v : Option Value) (h : Heap) (L : List Loc) : Prop := v = none ∧ Fr Z.heap.size L ∧ Keep h0 h [a1] ∧ Arv Z h a1 kb .byte (6 : Int32) [(.int (StrChars.lo8 c0)), (.int (StrChars.hi8 c0)), (.int x2), (.int x3), (.int x4), (.int x5)] (.int 0)
set_option maxRecDepth 65536 in
set_option maxHeartbeats 40000000 in
theorem rm_put3_0 (l : Launch) (Z : State) (a0 : Array Value) (hw : ∀ d ∈ tables_1, d.before a0 Z = true) (zC : Int32) (SC : Sta Z Z.heap "java/lang/String" "COMPACT_STRINGS" "Z" (.int zC)) (PC : ¬ zC = (0 : Int32)) (vF : Value) (rF : vF = .null ∨ ∃ a, vF = .ref a) (SF : Sta Z Z.heap "jdk/internal/util/Preconditions" "SIOOBE_FORMATTER" "Ljava/util/function/BiFunction;" vF) (SA : Sta Z Z.heap "java/lang/StringUTF16" "$assertionsDisabled" "Z" (.int (1 : Int32))) (SH : Sta Z Z.heap "java/lang/StringUTF16" "HI_BYTE_SHIFT" "I" (.int (0 : Int32))) (SL : Sta Z Z.heap "java/lang/StringUTF16" "LO_BYTE_SHIFT" "I" (.int (8 : Int32))) (a1 : Addr) (kb : ClassId) (c0 : Int32) (x0 : Int32) (x1 : Int32) (x2 : Int32) (x3 : Int32) (x4 : Int32) (x5 : Int32) (h0 : Heap) (O0 : Old Z Z.heap.size h0) (P1 : Arv Z h0 a1 kb .byte (6 : Int32) [(.int x0), (.int x1), (.int x2), (.int x3), (.int x4), (.int x5)] (.int 0)) (P2 : Z.heap.size ≤ a1) :
    Con l Z (⟨"java/lang/StringUTF16", "putChar", "([BII)V"⟩ : MethodName) jdk_52_method_4_code 3 none ({ frames := 0, cells := 0, slots := 0, locals := 0 } : Room) #[(.ref a1), (.int (0 : Int32)), (.int c0)] h0 (Q_put3_0 Z zC vF a1 kb c0 x0 x1 x2 x3 x4 x5 h0) := by
  refine Con.intro pn2 ?_
  intro p e s m below meth c T0 X0 hx hby hml hown0 hnm hret hlk hZ0 e0
  have N0 := Fr.nil Z.heap.size
  refine castGo (g' := mkF m 0 #[.val (.ref a1), .val (.int (0 : Int32)), .val (.int c0)] []) (by first | rfl | (simp [entryFrame, mkF, argsToLocals, Value.category]; done)) ?_
  show Go _ _ _ _ (T0.setTop (mkF m 0 #[.val (.ref a1), .val (.int (0 : Int32)), .val (.int c0)] []))
  refine g_getS X0 hx hZ0 hown0 (host := "") (Or.inl (wd65 hw)) Via.refl (SA.ext O0.2) e0 (hb hby d_jdk_52m4_0) (q := 3) rfl ?_
  intro T279 X279 e279
  refine ifY X279 hx (hb hby d_jdk_52m4_3) (q := 28) (by decide) (by decide) (by decide) ?_
  refine iL X279 hx (hb hby d_jdk_52m4_28) (q := 29) rfl rfl ?_
  refine cI X279 hx (hb hby d_jdk_52m4_29) (q := 30) rfl (z := (1 : Int32)) rfl ?_
  refine g_ishl X279 hx (hb hby d_jdk_52m4_30) (q := 31) rfl (z := (0 : Int32)) (by decide) ?_
  refine sI X279 hx (hb hby d_jdk_52m4_31) (q := 32) rfl (Ls' := #[.val (.ref a1), .val (.int (0 : Int32)), .val (.int c0)]) rfl ?_
  refine aL X279 hx (hb hby d_jdk_52m4_32) (q := 33) rfl rfl rfl ?_
  refine iL X279 hx (hb hby d_jdk_52m4_33) (q := 34) rfl rfl ?_
  refine g_iinc X279 hx (hb hby d_jdk_52m4_34) (q := 37) rfl rfl (z := (1 : Int32)) (by decide) (Ls' := #[.val (.ref a1), .val (.int (1 : Int32)), .val (.int c0)]) rfl ?_
  refine iL X279 hx (hb hby d_jdk_52m4_37) (q := 38) rfl rfl ?_
  refine g_getS X279 hx hZ0 hown0 (host := "") (Or.inl (wd66 hw)) Via.refl (SH.ext O0.2) e279 (hb hby d_jdk_52m4_38) (q := 41) rfl ?_
  intro T280 X280 e280
  refine g_ishr X280 hx (hb hby d_jdk_52m4_41) (q := 42) rfl (z := c0) (shr_zero _) ?_
  refine g_i2b X280 hx (hb hby d_jdk_52m4_42) (q := 43) rfl (z := (StrChars.lo8 c0)) rfl ?_
  refine g_stB X280 hx hZ0 P1 (i := 0) (by decide) (by decide) (by decide) (Nat.le_of_ble_eq_true rfl) (y := (StrChars.lo8 c0)) (lo8_nar _) e280 (hb hby d_jdk_52m4_43) (q := 44) rfl ?_
  intro T281 h281 X281 e281 W281 V281
  have N281 := Fr.snoc X281 N0 P2
  have Va281 : Arv Z h281 a1 kb .byte (6 : Int32) [(.int (StrChars.lo8 c0)), (.int x1), (.int x2), (.int x3), (.int x4), (.int x5)] (.int 0) := V281
  refine aL X281 hx (hb hby d_jdk_52m4_44) (q := 45) rfl rfl rfl ?_
  refine iL X281 hx (hb hby d_jdk_52m4_45) (q := 46) rfl rfl ?_
  refine iL X281 hx (hb hby d_jdk_52m4_46) (q := 47) rfl rfl ?_
  have f283 : Old Z Z.heap.size h281 := O0.wr W281 P2
  refine g_getS X281 hx hZ0 hown0 (host := "") (Or.inl (wd67 hw)) Via.refl (SL.ext f283.2) e281 (hb hby d_jdk_52m4_47) (q := 50) rfl ?_
  intro T282 X282 e282
  refine g_ishr X282 hx (hb hby d_jdk_52m4_50) (q := 51) rfl rfl ?_
  refine g_i2b X282 hx (hb hby d_jdk_52m4_51) (q := 52) rfl (z := (StrChars.hi8 c0)) rfl ?_
  refine g_stB X282 hx hZ0 Va281 (i := 1) (by decide) (by decide) (by decide) (Nat.le_of_ble_eq_true rfl) (y := (StrChars.hi8 c0)) (lo8_nar _) e282 (hb hby d_jdk_52m4_52) (q := 53) rfl ?_
  intro T284 h284 X284 e284 W284 V284
  have N284 := Fr.snoc X284 N281 P2
  have Va284 : Arv Z h284 a1 kb .byte (6 : Int32) [(.int (StrChars.lo8 c0)), (.int (StrChars.hi8 c0)), (.int x2), (.int x3), (.int x4), (.int x5)] (.int 0) := V284
  have K285 : Keep h0 h281 [a1] := (Keep.refl h0 [a1]).wr W281 (Or.inl (by simp))
  have K286 : Keep h0 h284 [a1] := K285.wr W284 (Or.inl (by simp))
  refine endP X284 hlk (fun _ => rfl) (lastV X284 hx hret (hb hby d_jdk_52m4_53)) ?_ (by decide) (by decide)
  rw [e284]
  exact ⟨rfl, N284, K286, Va284⟩
def Q_get3_0 (Z : State) (zC : Int32) (vF : Value) (a1 : Addr) (kb : ClassId) (c0 : Int32) (x2 : Int32) (x3 : Int32) (x4 : Int32) (x5 : Int32) (h0 : Heap) (v : Option Value) (h : Heap) (L : List Loc) : Prop := v = some (.int c0) ∧ Fr Z.heap.size L ∧ h = h0
set_option maxRecDepth 65536 in
set_option maxHeartbeats 40000000 in
theorem rm_get3_0 (l : Launch) (Z : State) (a0 : Array Value) (hw : ∀ d ∈ tables_1, d.before a0 Z = true) (zC : Int32) (SC : Sta Z Z.heap "java/lang/String" "COMPACT_STRINGS" "Z" (.int zC)) (PC : ¬ zC = (0 : Int32)) (vF : Value) (rF : vF = .null ∨ ∃ a, vF = .ref a) (SF : Sta Z Z.heap "jdk/internal/util/Preconditions" "SIOOBE_FORMATTER" "Ljava/util/function/BiFunction;" vF) (SA : Sta Z Z.heap "java/lang/StringUTF16" "$assertionsDisabled" "Z" (.int (1 : Int32))) (SH : Sta Z Z.heap "java/lang/StringUTF16" "HI_BYTE_SHIFT" "I" (.int (0 : Int32))) (SL : Sta Z Z.heap "java/lang/StringUTF16" "LO_BYTE_SHIFT" "I" (.int (8 : Int32))) (a1 : Addr) (kb : ClassId) (c0 : Int32) (x2 : Int32) (x3 : Int32) (x4 : Int32) (x5 : Int32) (h0 : Heap) (O0 : Old Z Z.heap.size h0) (P1 : Arv Z h0 a1 kb .byte (6 : Int32) [(.int (StrChars.lo8 c0)), (.int (StrChars.hi8 c0)), (.int x2), (.int x3), (.int x4), (.int x5)] (.int 0)) (H0 : (¬ (c0 < (0 : Int32)))) (J0 : (¬ ((65535 : Int32) < c0))) :
    Con l Z (⟨"java/lang/StringUTF16", "getChar", "([BI)C"⟩ : MethodName) jdk_52_method_5_code 2 (some .char) ({ frames := 0, cells := 0, slots := 0, locals := 0 } : Room) #[(.ref a1), (.int (0 : Int32))] h0 (Q_get3_0 Z zC vF a1 kb c0 x2 x3 x4 x5 h0) := by
  refine Con.intro pn2 ?_
  intro p e s m below meth c T0 X0 hx hby hml hown0 hnm hret hlk hZ0 e0
  have N0 := Fr.nil Z.heap.size
  refine castGo (g' := mkF m 0 #[.val (.ref a1), .val (.int (0 : Int32))] []) (by first | rfl | (simp [entryFrame, mkF, argsToLocals, Value.category]; done)) ?_
  show Go _ _ _ _ (T0.setTop (mkF m 0 #[.val (.ref a1), .val (.int (0 : Int32))] []))
  refine g_getS X0 hx hZ0 hown0 (host := "") (Or.inl (wd65 hw)) Via.refl (SA.ext O0.2) e0 (hb hby d_jdk_52m5_0) (q := 3) rfl ?_
  intro T287 X287 e287
  refine ifY X287 hx (hb hby d_jdk_52m5_3) (q := 28) (by decide) (by decide) (by decide) ?_
  refine iL X287 hx (hb hby d_jdk_52m5_28) (q := 29) rfl rfl ?_
  refine cI X287 hx (hb hby d_jdk_52m5_29) (q := 30) rfl (z := (1 : Int32)) rfl ?_
  refine g_ishl X287 hx (hb hby d_jdk_52m5_30) (q := 31) rfl (z := (0 : Int32)) (by decide) ?_
  refine sI X287 hx (hb hby d_jdk_52m5_31) (q := 32) rfl (Ls' := #[.val (.ref a1), .val (.int (0 : Int32))]) rfl ?_
  refine aL X287 hx (hb hby d_jdk_52m5_32) (q := 33) rfl rfl rfl ?_
  refine iL X287 hx (hb hby d_jdk_52m5_33) (q := 34) rfl rfl ?_
  refine g_iinc X287 hx (hb hby d_jdk_52m5_34) (q := 37) rfl rfl (z := (1 : Int32)) (by decide) (Ls' := #[.val (.ref a1), .val (.int (1 : Int32))]) rfl ?_
  refine g_ldB X287 hx hZ0 P1 (i := 0) (by decide) (by decide) (by decide) (v := (.int (StrChars.lo8 c0))) rfl e287 (hb hby d_jdk_52m5_37) (q := 38) rfl ?_
  refine pI X287 hx (hb hby d_jdk_52m5_38) (q := 41) rfl (z := (255 : Int32)) rfl ?_
  refine g_iand X287 hx (hb hby d_jdk_52m5_41) (q := 42) rfl rfl ?_
  refine g_getS X287 hx hZ0 hown0 (host := "") (Or.inl (wd66 hw)) Via.refl (SH.ext O0.2) e287 (hb hby d_jdk_52m5_42) (q := 45) rfl ?_
  intro T288 X288 e288
  refine g_ishl X288 hx (hb hby d_jdk_52m5_45) (q := 46) rfl rfl ?_
  refine aL X288 hx (hb hby d_jdk_52m5_46) (q := 47) rfl rfl rfl ?_
  refine iL X288 hx (hb hby d_jdk_52m5_47) (q := 48) rfl rfl ?_
  refine g_ldB X288 hx hZ0 P1 (i := 1) (by decide) (by decide) (by decide) (v := (.int (StrChars.hi8 c0))) rfl e288 (hb hby d_jdk_52m5_48) (q := 49) rfl ?_
  refine pI X288 hx (hb hby d_jdk_52m5_49) (q := 52) rfl (z := (255 : Int32)) rfl ?_
  refine g_iand X288 hx (hb hby d_jdk_52m5_52) (q := 53) rfl rfl ?_
  refine g_getS X288 hx hZ0 hown0 (host := "") (Or.inl (wd67 hw)) Via.refl (SL.ext O0.2) e288 (hb hby d_jdk_52m5_53) (q := 56) rfl ?_
  intro T289 X289 e289
  refine g_ishl X289 hx (hb hby d_jdk_52m5_56) (q := 57) rfl rfl ?_
  refine g_ior X289 hx (hb hby d_jdk_52m5_57) (q := 58) rfl rfl ?_
  refine g_i2c X289 hx (hb hby d_jdk_52m5_58) (q := 59) rfl (z := c0) (StrChars.pair_says H0 J0) ?_
  refine endP X289 hlk (fun h => by rw [hret] at h; cases h) (lastN X289 hx (t := .char) (z' := c0) hret (by simp) (nar_of H0 J0) (hb hby d_jdk_52m5_59)) ?_ (by decide) (by decide)
  rw [e289]
  exact ⟨rfl, N0, rfl⟩
def Q_put3_1 (Z : State) (zC : Int32) (vF : Value) (a1 : Addr) (kb : ClassId) (c0 : Int32) (x0 : Int32) (x1 : Int32) (x2 : Int32) (x3 : Int32) (x4 : Int32) (x5 : Int32) (h0 : Heap) (v : Option Value) (h : Heap) (L : List Loc) : Prop := v = none ∧ Fr Z.heap.size L ∧ Keep h0 h [a1] ∧ Arv Z h a1 kb .byte (6 : Int32) [(.int x0), (.int x1), (.int (StrChars.lo8 c0)), (.int (StrChars.hi8 c0)), (.int x4), (.int x5)] (.int 0)
set_option maxRecDepth 65536 in
set_option maxHeartbeats 40000000 in
theorem rm_put3_1 (l : Launch) (Z : State) (a0 : Array Value) (hw : ∀ d ∈ tables_1, d.before a0 Z = true) (zC : Int32) (SC : Sta Z Z.heap "java/lang/String" "COMPACT_STRINGS" "Z" (.int zC)) (PC : ¬ zC = (0 : Int32)) (vF : Value) (rF : vF = .null ∨ ∃ a, vF = .ref a) (SF : Sta Z Z.heap "jdk/internal/util/Preconditions" "SIOOBE_FORMATTER" "Ljava/util/function/BiFunction;" vF) (SA : Sta Z Z.heap "java/lang/StringUTF16" "$assertionsDisabled" "Z" (.int (1 : Int32))) (SH : Sta Z Z.heap "java/lang/StringUTF16" "HI_BYTE_SHIFT" "I" (.int (0 : Int32))) (SL : Sta Z Z.heap "java/lang/StringUTF16" "LO_BYTE_SHIFT" "I" (.int (8 : Int32))) (a1 : Addr) (kb : ClassId) (c0 : Int32) (x0 : Int32) (x1 : Int32) (x2 : Int32) (x3 : Int32) (x4 : Int32) (x5 : Int32) (h0 : Heap) (O0 : Old Z Z.heap.size h0) (P1 : Arv Z h0 a1 kb .byte (6 : Int32) [(.int x0), (.int x1), (.int x2), (.int x3), (.int x4), (.int x5)] (.int 0)) (P2 : Z.heap.size ≤ a1) :
    Con l Z (⟨"java/lang/StringUTF16", "putChar", "([BII)V"⟩ : MethodName) jdk_52_method_4_code 3 none ({ frames := 0, cells := 0, slots := 0, locals := 0 } : Room) #[(.ref a1), (.int (1 : Int32)), (.int c0)] h0 (Q_put3_1 Z zC vF a1 kb c0 x0 x1 x2 x3 x4 x5 h0) := by
  refine Con.intro pn2 ?_
  intro p e s m below meth c T0 X0 hx hby hml hown0 hnm hret hlk hZ0 e0
  have N0 := Fr.nil Z.heap.size
  refine castGo (g' := mkF m 0 #[.val (.ref a1), .val (.int (1 : Int32)), .val (.int c0)] []) (by first | rfl | (simp [entryFrame, mkF, argsToLocals, Value.category]; done)) ?_
  show Go _ _ _ _ (T0.setTop (mkF m 0 #[.val (.ref a1), .val (.int (1 : Int32)), .val (.int c0)] []))
  refine g_getS X0 hx hZ0 hown0 (host := "") (Or.inl (wd65 hw)) Via.refl (SA.ext O0.2) e0 (hb hby d_jdk_52m4_0) (q := 3) rfl ?_
  intro T290 X290 e290
  refine ifY X290 hx (hb hby d_jdk_52m4_3) (q := 28) (by decide) (by decide) (by decide) ?_
  refine iL X290 hx (hb hby d_jdk_52m4_28) (q := 29) rfl rfl ?_
  refine cI X290 hx (hb hby d_jdk_52m4_29) (q := 30) rfl (z := (1 : Int32)) rfl ?_
  refine g_ishl X290 hx (hb hby d_jdk_52m4_30) (q := 31) rfl (z := (2 : Int32)) (by decide) ?_
  refine sI X290 hx (hb hby d_jdk_52m4_31) (q := 32) rfl (Ls' := #[.val (.ref a1), .val (.int (2 : Int32)), .val (.int c0)]) rfl ?_
  refine aL X290 hx (hb hby d_jdk_52m4_32) (q := 33) rfl rfl rfl ?_
  refine iL X290 hx (hb hby d_jdk_52m4_33) (q := 34) rfl rfl ?_
  refine g_iinc X290 hx (hb hby d_jdk_52m4_34) (q := 37) rfl rfl (z := (3 : Int32)) (by decide) (Ls' := #[.val (.ref a1), .val (.int (3 : Int32)), .val (.int c0)]) rfl ?_
  refine iL X290 hx (hb hby d_jdk_52m4_37) (q := 38) rfl rfl ?_
  refine g_getS X290 hx hZ0 hown0 (host := "") (Or.inl (wd66 hw)) Via.refl (SH.ext O0.2) e290 (hb hby d_jdk_52m4_38) (q := 41) rfl ?_
  intro T291 X291 e291
  refine g_ishr X291 hx (hb hby d_jdk_52m4_41) (q := 42) rfl (z := c0) (shr_zero _) ?_
  refine g_i2b X291 hx (hb hby d_jdk_52m4_42) (q := 43) rfl (z := (StrChars.lo8 c0)) rfl ?_
  refine g_stB X291 hx hZ0 P1 (i := 2) (by decide) (by decide) (by decide) (Nat.le_of_ble_eq_true rfl) (y := (StrChars.lo8 c0)) (lo8_nar _) e291 (hb hby d_jdk_52m4_43) (q := 44) rfl ?_
  intro T292 h292 X292 e292 W292 V292
  have N292 := Fr.snoc X292 N0 P2
  have Va292 : Arv Z h292 a1 kb .byte (6 : Int32) [(.int x0), (.int x1), (.int (StrChars.lo8 c0)), (.int x3), (.int x4), (.int x5)] (.int 0) := V292
  refine aL X292 hx (hb hby d_jdk_52m4_44) (q := 45) rfl rfl rfl ?_
  refine iL X292 hx (hb hby d_jdk_52m4_45) (q := 46) rfl rfl ?_
  refine iL X292 hx (hb hby d_jdk_52m4_46) (q := 47) rfl rfl ?_
  have f294 : Old Z Z.heap.size h292 := O0.wr W292 P2
  refine g_getS X292 hx hZ0 hown0 (host := "") (Or.inl (wd67 hw)) Via.refl (SL.ext f294.2) e292 (hb hby d_jdk_52m4_47) (q := 50) rfl ?_
  intro T293 X293 e293
  refine g_ishr X293 hx (hb hby d_jdk_52m4_50) (q := 51) rfl rfl ?_
  refine g_i2b X293 hx (hb hby d_jdk_52m4_51) (q := 52) rfl (z := (StrChars.hi8 c0)) rfl ?_
  refine g_stB X293 hx hZ0 Va292 (i := 3) (by decide) (by decide) (by decide) (Nat.le_of_ble_eq_true rfl) (y := (StrChars.hi8 c0)) (lo8_nar _) e293 (hb hby d_jdk_52m4_52) (q := 53) rfl ?_
  intro T295 h295 X295 e295 W295 V295
  have N295 := Fr.snoc X295 N292 P2
  have Va295 : Arv Z h295 a1 kb .byte (6 : Int32) [(.int x0), (.int x1), (.int (StrChars.lo8 c0)), (.int (StrChars.hi8 c0)), (.int x4), (.int x5)] (.int 0) := V295
  have K296 : Keep h0 h292 [a1] := (Keep.refl h0 [a1]).wr W292 (Or.inl (by simp))
  have K297 : Keep h0 h295 [a1] := K296.wr W295 (Or.inl (by simp))
  refine endP X295 hlk (fun _ => rfl) (lastV X295 hx hret (hb hby d_jdk_52m4_53)) ?_ (by decide) (by decide)
  rw [e295]
  exact ⟨rfl, N295, K297, Va295⟩
def Q_get3_1 (Z : State) (zC : Int32) (vF : Value) (a1 : Addr) (kb : ClassId) (c0 : Int32) (x0 : Int32) (x1 : Int32) (x4 : Int32) (x5 : Int32) (h0 : Heap) (v : Option Value) (h : Heap) (L : List Loc) : Prop := v = some (.int c0) ∧ Fr Z.heap.size L ∧ h = h0
set_option maxRecDepth 65536 in
set_option maxHeartbeats 40000000 in
theorem rm_get3_1 (l : Launch) (Z : State) (a0 : Array Value) (hw : ∀ d ∈ tables_1, d.before a0 Z = true) (zC : Int32) (SC : Sta Z Z.heap "java/lang/String" "COMPACT_STRINGS" "Z" (.int zC)) (PC : ¬ zC = (0 : Int32)) (vF : Value) (rF : vF = .null ∨ ∃ a, vF = .ref a) (SF : Sta Z Z.heap "jdk/internal/util/Preconditions" "SIOOBE_FORMATTER" "Ljava/util/function/BiFunction;" vF) (SA : Sta Z Z.heap "java/lang/StringUTF16" "$assertionsDisabled" "Z" (.int (1 : Int32))) (SH : Sta Z Z.heap "java/lang/StringUTF16" "HI_BYTE_SHIFT" "I" (.int (0 : Int32))) (SL : Sta Z Z.heap "java/lang/StringUTF16" "LO_BYTE_SHIFT" "I" (.int (8 : Int32))) (a1 : Addr) (kb : ClassId) (c0 : Int32) (x0 : Int32) (x1 : Int32) (x4 : Int32) (x5 : Int32) (h0 : Heap) (O0 : Old Z Z.heap.size h0) (P1 : Arv Z h0 a1 kb .byte (6 : Int32) [(.int x0), (.int x1), (.int (StrChars.lo8 c0)), (.int (StrChars.hi8 c0)), (.int x4), (.int x5)] (.int 0)) (H0 : (¬ (c0 < (0 : Int32)))) (J0 : (¬ ((65535 : Int32) < c0))) :
    Con l Z (⟨"java/lang/StringUTF16", "getChar", "([BI)C"⟩ : MethodName) jdk_52_method_5_code 2 (some .char) ({ frames := 0, cells := 0, slots := 0, locals := 0 } : Room) #[(.ref a1), (.int (1 : Int32))] h0 (Q_get3_1 Z zC vF a1 kb c0 x0 x1 x4 x5 h0) := by
  refine Con.intro pn2 ?_
  intro p e s m below meth c T0 X0 hx hby hml hown0 hnm hret hlk hZ0 e0
  have N0 := Fr.nil Z.heap.size
  refine castGo (g' := mkF m 0 #[.val (.ref a1), .val (.int (1 : Int32))] []) (by first | rfl | (simp [entryFrame, mkF, argsToLocals, Value.category]; done)) ?_
  show Go _ _ _ _ (T0.setTop (mkF m 0 #[.val (.ref a1), .val (.int (1 : Int32))] []))
  refine g_getS X0 hx hZ0 hown0 (host := "") (Or.inl (wd65 hw)) Via.refl (SA.ext O0.2) e0 (hb hby d_jdk_52m5_0) (q := 3) rfl ?_
  intro T298 X298 e298
  refine ifY X298 hx (hb hby d_jdk_52m5_3) (q := 28) (by decide) (by decide) (by decide) ?_
  refine iL X298 hx (hb hby d_jdk_52m5_28) (q := 29) rfl rfl ?_
  refine cI X298 hx (hb hby d_jdk_52m5_29) (q := 30) rfl (z := (1 : Int32)) rfl ?_
  refine g_ishl X298 hx (hb hby d_jdk_52m5_30) (q := 31) rfl (z := (2 : Int32)) (by decide) ?_
  refine sI X298 hx (hb hby d_jdk_52m5_31) (q := 32) rfl (Ls' := #[.val (.ref a1), .val (.int (2 : Int32))]) rfl ?_
  refine aL X298 hx (hb hby d_jdk_52m5_32) (q := 33) rfl rfl rfl ?_
  refine iL X298 hx (hb hby d_jdk_52m5_33) (q := 34) rfl rfl ?_
  refine g_iinc X298 hx (hb hby d_jdk_52m5_34) (q := 37) rfl rfl (z := (3 : Int32)) (by decide) (Ls' := #[.val (.ref a1), .val (.int (3 : Int32))]) rfl ?_
  refine g_ldB X298 hx hZ0 P1 (i := 2) (by decide) (by decide) (by decide) (v := (.int (StrChars.lo8 c0))) rfl e298 (hb hby d_jdk_52m5_37) (q := 38) rfl ?_
  refine pI X298 hx (hb hby d_jdk_52m5_38) (q := 41) rfl (z := (255 : Int32)) rfl ?_
  refine g_iand X298 hx (hb hby d_jdk_52m5_41) (q := 42) rfl rfl ?_
  refine g_getS X298 hx hZ0 hown0 (host := "") (Or.inl (wd66 hw)) Via.refl (SH.ext O0.2) e298 (hb hby d_jdk_52m5_42) (q := 45) rfl ?_
  intro T299 X299 e299
  refine g_ishl X299 hx (hb hby d_jdk_52m5_45) (q := 46) rfl rfl ?_
  refine aL X299 hx (hb hby d_jdk_52m5_46) (q := 47) rfl rfl rfl ?_
  refine iL X299 hx (hb hby d_jdk_52m5_47) (q := 48) rfl rfl ?_
  refine g_ldB X299 hx hZ0 P1 (i := 3) (by decide) (by decide) (by decide) (v := (.int (StrChars.hi8 c0))) rfl e299 (hb hby d_jdk_52m5_48) (q := 49) rfl ?_
  refine pI X299 hx (hb hby d_jdk_52m5_49) (q := 52) rfl (z := (255 : Int32)) rfl ?_
  refine g_iand X299 hx (hb hby d_jdk_52m5_52) (q := 53) rfl rfl ?_
  refine g_getS X299 hx hZ0 hown0 (host := "") (Or.inl (wd67 hw)) Via.refl (SL.ext O0.2) e299 (hb hby d_jdk_52m5_53) (q := 56) rfl ?_
  intro T300 X300 e300
  refine g_ishl X300 hx (hb hby d_jdk_52m5_56) (q := 57) rfl rfl ?_
  refine g_ior X300 hx (hb hby d_jdk_52m5_57) (q := 58) rfl rfl ?_
  refine g_i2c X300 hx (hb hby d_jdk_52m5_58) (q := 59) rfl (z := c0) (StrChars.pair_says H0 J0) ?_
  refine endP X300 hlk (fun h => by rw [hret] at h; cases h) (lastN X300 hx (t := .char) (z' := c0) hret (by simp) (nar_of H0 J0) (hb hby d_jdk_52m5_59)) ?_ (by decide) (by decide)
  rw [e300]
  exact ⟨rfl, N0, rfl⟩
def Q_put3_2 (Z : State) (zC : Int32) (vF : Value) (a1 : Addr) (kb : ClassId) (c0 : Int32) (x0 : Int32) (x1 : Int32) (x2 : Int32) (x3 : Int32) (x4 : Int32) (x5 : Int32) (h0 : Heap) (v : Option Value) (h : Heap) (L : List Loc) : Prop := v = none ∧ Fr Z.heap.size L ∧ Keep h0 h [a1] ∧ Arv Z h a1 kb .byte (6 : Int32) [(.int x0), (.int x1), (.int x2), (.int x3), (.int (StrChars.lo8 c0)), (.int (StrChars.hi8 c0))] (.int 0)
set_option maxRecDepth 65536 in
set_option maxHeartbeats 40000000 in
theorem rm_put3_2 (l : Launch) (Z : State) (a0 : Array Value) (hw : ∀ d ∈ tables_1, d.before a0 Z = true) (zC : Int32) (SC : Sta Z Z.heap "java/lang/String" "COMPACT_STRINGS" "Z" (.int zC)) (PC : ¬ zC = (0 : Int32)) (vF : Value) (rF : vF = .null ∨ ∃ a, vF = .ref a) (SF : Sta Z Z.heap "jdk/internal/util/Preconditions" "SIOOBE_FORMATTER" "Ljava/util/function/BiFunction;" vF) (SA : Sta Z Z.heap "java/lang/StringUTF16" "$assertionsDisabled" "Z" (.int (1 : Int32))) (SH : Sta Z Z.heap "java/lang/StringUTF16" "HI_BYTE_SHIFT" "I" (.int (0 : Int32))) (SL : Sta Z Z.heap "java/lang/StringUTF16" "LO_BYTE_SHIFT" "I" (.int (8 : Int32))) (a1 : Addr) (kb : ClassId) (c0 : Int32) (x0 : Int32) (x1 : Int32) (x2 : Int32) (x3 : Int32) (x4 : Int32) (x5 : Int32) (h0 : Heap) (O0 : Old Z Z.heap.size h0) (P1 : Arv Z h0 a1 kb .byte (6 : Int32) [(.int x0), (.int x1), (.int x2), (.int x3), (.int x4), (.int x5)] (.int 0)) (P2 : Z.heap.size ≤ a1) :
    Con l Z (⟨"java/lang/StringUTF16", "putChar", "([BII)V"⟩ : MethodName) jdk_52_method_4_code 3 none ({ frames := 0, cells := 0, slots := 0, locals := 0 } : Room) #[(.ref a1), (.int (2 : Int32)), (.int c0)] h0 (Q_put3_2 Z zC vF a1 kb c0 x0 x1 x2 x3 x4 x5 h0) := by
  refine Con.intro pn2 ?_
  intro p e s m below meth c T0 X0 hx hby hml hown0 hnm hret hlk hZ0 e0
  have N0 := Fr.nil Z.heap.size
  refine castGo (g' := mkF m 0 #[.val (.ref a1), .val (.int (2 : Int32)), .val (.int c0)] []) (by first | rfl | (simp [entryFrame, mkF, argsToLocals, Value.category]; done)) ?_
  show Go _ _ _ _ (T0.setTop (mkF m 0 #[.val (.ref a1), .val (.int (2 : Int32)), .val (.int c0)] []))
  refine g_getS X0 hx hZ0 hown0 (host := "") (Or.inl (wd65 hw)) Via.refl (SA.ext O0.2) e0 (hb hby d_jdk_52m4_0) (q := 3) rfl ?_
  intro T301 X301 e301
  refine ifY X301 hx (hb hby d_jdk_52m4_3) (q := 28) (by decide) (by decide) (by decide) ?_
  refine iL X301 hx (hb hby d_jdk_52m4_28) (q := 29) rfl rfl ?_
  refine cI X301 hx (hb hby d_jdk_52m4_29) (q := 30) rfl (z := (1 : Int32)) rfl ?_
  refine g_ishl X301 hx (hb hby d_jdk_52m4_30) (q := 31) rfl (z := (4 : Int32)) (by decide) ?_
  refine sI X301 hx (hb hby d_jdk_52m4_31) (q := 32) rfl (Ls' := #[.val (.ref a1), .val (.int (4 : Int32)), .val (.int c0)]) rfl ?_
  refine aL X301 hx (hb hby d_jdk_52m4_32) (q := 33) rfl rfl rfl ?_
  refine iL X301 hx (hb hby d_jdk_52m4_33) (q := 34) rfl rfl ?_
  refine g_iinc X301 hx (hb hby d_jdk_52m4_34) (q := 37) rfl rfl (z := (5 : Int32)) (by decide) (Ls' := #[.val (.ref a1), .val (.int (5 : Int32)), .val (.int c0)]) rfl ?_
  refine iL X301 hx (hb hby d_jdk_52m4_37) (q := 38) rfl rfl ?_
  refine g_getS X301 hx hZ0 hown0 (host := "") (Or.inl (wd66 hw)) Via.refl (SH.ext O0.2) e301 (hb hby d_jdk_52m4_38) (q := 41) rfl ?_
  intro T302 X302 e302
  refine g_ishr X302 hx (hb hby d_jdk_52m4_41) (q := 42) rfl (z := c0) (shr_zero _) ?_
  refine g_i2b X302 hx (hb hby d_jdk_52m4_42) (q := 43) rfl (z := (StrChars.lo8 c0)) rfl ?_
  refine g_stB X302 hx hZ0 P1 (i := 4) (by decide) (by decide) (by decide) (Nat.le_of_ble_eq_true rfl) (y := (StrChars.lo8 c0)) (lo8_nar _) e302 (hb hby d_jdk_52m4_43) (q := 44) rfl ?_
  intro T303 h303 X303 e303 W303 V303
  have N303 := Fr.snoc X303 N0 P2
  have Va303 : Arv Z h303 a1 kb .byte (6 : Int32) [(.int x0), (.int x1), (.int x2), (.int x3), (.int (StrChars.lo8 c0)), (.int x5)] (.int 0) := V303
  refine aL X303 hx (hb hby d_jdk_52m4_44) (q := 45) rfl rfl rfl ?_
  refine iL X303 hx (hb hby d_jdk_52m4_45) (q := 46) rfl rfl ?_
  refine iL X303 hx (hb hby d_jdk_52m4_46) (q := 47) rfl rfl ?_
  have f305 : Old Z Z.heap.size h303 := O0.wr W303 P2
  refine g_getS X303 hx hZ0 hown0 (host := "") (Or.inl (wd67 hw)) Via.refl (SL.ext f305.2) e303 (hb hby d_jdk_52m4_47) (q := 50) rfl ?_
  intro T304 X304 e304
  refine g_ishr X304 hx (hb hby d_jdk_52m4_50) (q := 51) rfl rfl ?_
  refine g_i2b X304 hx (hb hby d_jdk_52m4_51) (q := 52) rfl (z := (StrChars.hi8 c0)) rfl ?_
  refine g_stB X304 hx hZ0 Va303 (i := 5) (by decide) (by decide) (by decide) (Nat.le_of_ble_eq_true rfl) (y := (StrChars.hi8 c0)) (lo8_nar _) e304 (hb hby d_jdk_52m4_52) (q := 53) rfl ?_
  intro T306 h306 X306 e306 W306 V306
  have N306 := Fr.snoc X306 N303 P2
  have Va306 : Arv Z h306 a1 kb .byte (6 : Int32) [(.int x0), (.int x1), (.int x2), (.int x3), (.int (StrChars.lo8 c0)), (.int (StrChars.hi8 c0))] (.int 0) := V306
  have K307 : Keep h0 h303 [a1] := (Keep.refl h0 [a1]).wr W303 (Or.inl (by simp))
  have K308 : Keep h0 h306 [a1] := K307.wr W306 (Or.inl (by simp))
  refine endP X306 hlk (fun _ => rfl) (lastV X306 hx hret (hb hby d_jdk_52m4_53)) ?_ (by decide) (by decide)
  rw [e306]
  exact ⟨rfl, N306, K308, Va306⟩
def Q_get3_2 (Z : State) (zC : Int32) (vF : Value) (a1 : Addr) (kb : ClassId) (c0 : Int32) (x0 : Int32) (x1 : Int32) (x2 : Int32) (x3 : Int32) (h0 : Heap) (v : Option Value) (h : Heap) (L : List Loc) : Prop := v = some (.int c0) ∧ Fr Z.heap.size L ∧ h = h0
set_option maxRecDepth 65536 in
set_option maxHeartbeats 40000000 in
theorem rm_get3_2 (l : Launch) (Z : State) (a0 : Array Value) (hw : ∀ d ∈ tables_1, d.before a0 Z = true) (zC : Int32) (SC : Sta Z Z.heap "java/lang/String" "COMPACT_STRINGS" "Z" (.int zC)) (PC : ¬ zC = (0 : Int32)) (vF : Value) (rF : vF = .null ∨ ∃ a, vF = .ref a) (SF : Sta Z Z.heap "jdk/internal/util/Preconditions" "SIOOBE_FORMATTER" "Ljava/util/function/BiFunction;" vF) (SA : Sta Z Z.heap "java/lang/StringUTF16" "$assertionsDisabled" "Z" (.int (1 : Int32))) (SH : Sta Z Z.heap "java/lang/StringUTF16" "HI_BYTE_SHIFT" "I" (.int (0 : Int32))) (SL : Sta Z Z.heap "java/lang/StringUTF16" "LO_BYTE_SHIFT" "I" (.int (8 : Int32))) (a1 : Addr) (kb : ClassId) (c0 : Int32) (x0 : Int32) (x1 : Int32) (x2 : Int32) (x3 : Int32) (h0 : Heap) (O0 : Old Z Z.heap.size h0) (P1 : Arv Z h0 a1 kb .byte (6 : Int32) [(.int x0), (.int x1), (.int x2), (.int x3), (.int (StrChars.lo8 c0)), (.int (StrChars.hi8 c0))] (.int 0)) (H0 : (¬ (c0 < (0 : Int32)))) (J0 : (¬ ((65535 : Int32) < c0))) :
    Con l Z (⟨"java/lang/StringUTF16", "getChar", "([BI)C"⟩ : MethodName) jdk_52_method_5_code 2 (some .char) ({ frames := 0, cells := 0, slots := 0, locals := 0 } : Room) #[(.ref a1), (.int (2 : Int32))] h0 (Q_get3_2 Z zC vF a1 kb c0 x0 x1 x2 x3 h0) := by
  refine Con.intro pn2 ?_
  intro p e s m below meth c T0 X0 hx hby hml hown0 hnm hret hlk hZ0 e0
  have N0 := Fr.nil Z.heap.size
  refine castGo (g' := mkF m 0 #[.val (.ref a1), .val (.int (2 : Int32))] []) (by first | rfl | (simp [entryFrame, mkF, argsToLocals, Value.category]; done)) ?_
  show Go _ _ _ _ (T0.setTop (mkF m 0 #[.val (.ref a1), .val (.int (2 : Int32))] []))
  refine g_getS X0 hx hZ0 hown0 (host := "") (Or.inl (wd65 hw)) Via.refl (SA.ext O0.2) e0 (hb hby d_jdk_52m5_0) (q := 3) rfl ?_
  intro T309 X309 e309
  refine ifY X309 hx (hb hby d_jdk_52m5_3) (q := 28) (by decide) (by decide) (by decide) ?_
  refine iL X309 hx (hb hby d_jdk_52m5_28) (q := 29) rfl rfl ?_
  refine cI X309 hx (hb hby d_jdk_52m5_29) (q := 30) rfl (z := (1 : Int32)) rfl ?_
  refine g_ishl X309 hx (hb hby d_jdk_52m5_30) (q := 31) rfl (z := (4 : Int32)) (by decide) ?_
  refine sI X309 hx (hb hby d_jdk_52m5_31) (q := 32) rfl (Ls' := #[.val (.ref a1), .val (.int (4 : Int32))]) rfl ?_
  refine aL X309 hx (hb hby d_jdk_52m5_32) (q := 33) rfl rfl rfl ?_
  refine iL X309 hx (hb hby d_jdk_52m5_33) (q := 34) rfl rfl ?_
  refine g_iinc X309 hx (hb hby d_jdk_52m5_34) (q := 37) rfl rfl (z := (5 : Int32)) (by decide) (Ls' := #[.val (.ref a1), .val (.int (5 : Int32))]) rfl ?_
  refine g_ldB X309 hx hZ0 P1 (i := 4) (by decide) (by decide) (by decide) (v := (.int (StrChars.lo8 c0))) rfl e309 (hb hby d_jdk_52m5_37) (q := 38) rfl ?_
  refine pI X309 hx (hb hby d_jdk_52m5_38) (q := 41) rfl (z := (255 : Int32)) rfl ?_
  refine g_iand X309 hx (hb hby d_jdk_52m5_41) (q := 42) rfl rfl ?_
  refine g_getS X309 hx hZ0 hown0 (host := "") (Or.inl (wd66 hw)) Via.refl (SH.ext O0.2) e309 (hb hby d_jdk_52m5_42) (q := 45) rfl ?_
  intro T310 X310 e310
  refine g_ishl X310 hx (hb hby d_jdk_52m5_45) (q := 46) rfl rfl ?_
  refine aL X310 hx (hb hby d_jdk_52m5_46) (q := 47) rfl rfl rfl ?_
  refine iL X310 hx (hb hby d_jdk_52m5_47) (q := 48) rfl rfl ?_
  refine g_ldB X310 hx hZ0 P1 (i := 5) (by decide) (by decide) (by decide) (v := (.int (StrChars.hi8 c0))) rfl e310 (hb hby d_jdk_52m5_48) (q := 49) rfl ?_
  refine pI X310 hx (hb hby d_jdk_52m5_49) (q := 52) rfl (z := (255 : Int32)) rfl ?_
  refine g_iand X310 hx (hb hby d_jdk_52m5_52) (q := 53) rfl rfl ?_
  refine g_getS X310 hx hZ0 hown0 (host := "") (Or.inl (wd67 hw)) Via.refl (SL.ext O0.2) e310 (hb hby d_jdk_52m5_53) (q := 56) rfl ?_
  intro T311 X311 e311
  refine g_ishl X311 hx (hb hby d_jdk_52m5_56) (q := 57) rfl rfl ?_
  refine g_ior X311 hx (hb hby d_jdk_52m5_57) (q := 58) rfl rfl ?_
  refine g_i2c X311 hx (hb hby d_jdk_52m5_58) (q := 59) rfl (z := c0) (StrChars.pair_says H0 J0) ?_
  refine endP X311 hlk (fun h => by rw [hret] at h; cases h) (lastN X311 hx (t := .char) (z' := c0) hret (by simp) (nar_of H0 J0) (hb hby d_jdk_52m5_59)) ?_ (by decide) (by decide)
  rw [e311]
  exact ⟨rfl, N0, rfl⟩
def Q_toB3 (Z : State) (zC : Int32) (vF : Value) (a1 : Addr) (kc : ClassId) (c0 : Int32) (c1 : Int32) (c2 : Int32) (h0 : Heap) (v : Option Value) (h : Heap) (L : List Loc) : Prop := ∃ (a : Addr), ∃ (kb : ClassId), v = some (.ref a) ∧ Fr Z.heap.size L ∧ Keep h0 h [] ∧ h0.size ≤ a ∧ Arv Z h a kb .byte (6 : Int32) [(.int (StrChars.lo8 c0)), (.int (StrChars.hi8 c0)), (.int (StrChars.lo8 c1)), (.int (StrChars.hi8 c1)), (.int (StrChars.lo8 c2)), (.int (StrChars.hi8 c2))] (.int 0)
set_option maxRecDepth 65536 in
set_option maxHeartbeats 40000000 in
theorem rm_toB3 (l : Launch) (Z : State) (a0 : Array Value) (hw : ∀ d ∈ tables_1, d.before a0 Z = true) (zC : Int32) (SC : Sta Z Z.heap "java/lang/String" "COMPACT_STRINGS" "Z" (.int zC)) (PC : ¬ zC = (0 : Int32)) (vF : Value) (rF : vF = .null ∨ ∃ a, vF = .ref a) (SF : Sta Z Z.heap "jdk/internal/util/Preconditions" "SIOOBE_FORMATTER" "Ljava/util/function/BiFunction;" vF) (SA : Sta Z Z.heap "java/lang/StringUTF16" "$assertionsDisabled" "Z" (.int (1 : Int32))) (SH : Sta Z Z.heap "java/lang/StringUTF16" "HI_BYTE_SHIFT" "I" (.int (0 : Int32))) (SL : Sta Z Z.heap "java/lang/StringUTF16" "LO_BYTE_SHIFT" "I" (.int (8 : Int32))) (a1 : Addr) (kc : ClassId) (c0 : Int32) (c1 : Int32) (c2 : Int32) (h0 : Heap) (O0 : Old Z Z.heap.size h0) (P1 : Arv Z h0 a1 kc .char (3 : Int32) [(.int c0), (.int c1), (.int c2)] (.int 0)) :
    Con l Z (⟨"java/lang/StringUTF16", "toBytes", "([CII)[B"⟩ : MethodName) jdk_52_method_14_code 5 (some (.array .byte)) ({ frames := 2, cells := 1, slots := 6, locals := 24 } : Room) #[(.ref a1), (.int (0 : Int32)), (.int (3 : Int32))] h0 (Q_toB3 Z zC vF a1 kc c0 c1 c2 h0) := by
  refine Con.intro pn2 ?_
  intro p e s m below meth c T0 X0 hx hby hml hown0 hnm hret hlk hZ0 e0
  have N0 := Fr.nil Z.heap.size
  refine castGo (g' := mkF m 0 #[.val (.ref a1), .val (.int (0 : Int32)), .val (.int (3 : Int32)), .unset, .unset] []) (by first | rfl | (simp [entryFrame, mkF, argsToLocals, Value.category]; done)) ?_
  show Go _ _ _ _ (T0.setTop (mkF m 0 #[.val (.ref a1), .val (.int (0 : Int32)), .val (.int (3 : Int32)), .unset, .unset] []))
  refine iL X0 hx (hb hby d_jdk_52m14_0) (q := 1) rfl rfl ?_
  refine g_st X0 hx hZ0 hown0 (wd55 hw) (wd56 hw) (wd44 hw) (wd57 hw) (by decide) e0 (Con.back (W := 0) (rm_nbf3 l Z a0 hw zC SC PC vF rF SF SA SH SL  h0 O0 ) hZ0 (wd57 hw) (wd44 hw) (by decide) (by decide)) (by rw [hml]; rfl) (lenOf pd2 rfl) rfl (Nat.le_of_eq rfl) (hb hby d_jdk_52m14_1) (q := 4) rfl (by decide) (by decide) ?_
  intro v312 T312 L312 X312 Q312
  obtain ⟨a_312, kb_312, rfl, Nq312, K312q, q312_0, q312_1⟩ := Q312
  have N312 := Fr.app N0 Nq312
  show Go _ _ _ _ (T312.setTop (mkF m 4 #[.val (.ref a1), .val (.int (0 : Int32)), .val (.int (3 : Int32)), .unset, .unset] [(.ref a_312)]))
  refine sA X312 hx (hb hby d_jdk_52m14_4) (q := 5) rfl rfl (Ls' := #[.val (.ref a1), .val (.int (0 : Int32)), .val (.int (3 : Int32)), .val (.ref a_312), .unset]) rfl ?_
  refine cI X312 hx (hb hby d_jdk_52m14_5) (q := 6) rfl (z := (0 : Int32)) rfl ?_
  refine sIw X312 hx (hb hby d_jdk_52m14_6) (q := 8) rfl (Ls' := #[.val (.ref a1), .val (.int (0 : Int32)), .val (.int (3 : Int32)), .val (.ref a_312), .val (.int (0 : Int32))]) rfl ?_
  refine iLw X312 hx (hb hby d_jdk_52m14_8) (q := 10) rfl rfl ?_
  refine iL X312 hx (hb hby d_jdk_52m14_10) (q := 11) rfl rfl ?_
  refine icN X312 hx (hb hby d_jdk_52m14_11) (q := 14) rfl (by decide) ?_
  refine aL X312 hx (hb hby d_jdk_52m14_14) (q := 15) rfl rfl rfl ?_
  refine iLw X312 hx (hb hby d_jdk_52m14_15) (q := 17) rfl rfl ?_
  refine aL X312 hx (hb hby d_jdk_52m14_17) (q := 18) rfl rfl rfl ?_
  refine iL X312 hx (hb hby d_jdk_52m14_18) (q := 19) rfl rfl ?_
  have f313 : Arv Z T312.heap a1 kc .char (3 : Int32) [(.int c0), (.int c1), (.int c2)] (.int 0) := P1.keep K312q nin0
  refine g_ldC X312 hx hZ0 f313 (i := 0) (by decide) (by decide) (by decide) (v := (.int c0)) rfl rfl (hb hby d_jdk_52m14_19) (q := 20) rfl ?_
  have gz316 : Z.heap.size ≤ a_312 := Nat.le_trans O0.2.1 q312_0
  have f317 : Old Z Z.heap.size T312.heap := O0.keep K312q all0
  refine g_st X312 hx hZ0 hown0 (wd62 hw) (wd63 hw) (wd44 hw) (wd64 hw) (by decide) rfl (Con.back (W := 0) (rm_put3_0 l Z a0 hw zC SC PC vF rF SF SA SH SL a_312 kb_312 c0 (0 : Int32) (0 : Int32) (0 : Int32) (0 : Int32) (0 : Int32) (0 : Int32) T312.heap f317 q312_1 gz316) hZ0 (wd64 hw) (wd44 hw) (by decide) (by decide)) (by rw [hml]; rfl) (lenOf pd3 rfl) rfl (Nat.le_of_eq rfl) (hb hby d_jdk_52m14_20) (q := 23) rfl (by decide) (by decide) ?_
  intro v315 T315 L315 X315 Q315
  obtain ⟨rfl, Nq315, K315q, q315_0⟩ := Q315
  have N315 := Fr.app N312 Nq315
  show Go _ _ _ _ (T315.setTop (mkF m 23 #[.val (.ref a1), .val (.int (0 : Int32)), .val (.int (3 : Int32)), .val (.ref a_312), .val (.int (0 : Int32))] []))
  refine g_iinc X315 hx (hb hby d_jdk_52m14_23) (q := 26) rfl rfl (z := (1 : Int32)) (by decide) (Ls' := #[.val (.ref a1), .val (.int (1 : Int32)), .val (.int (3 : Int32)), .val (.ref a_312), .val (.int (0 : Int32))]) rfl ?_
  refine g_iinc X315 hx (hb hby d_jdk_52m14_26) (q := 29) rfl rfl (z := (1 : Int32)) (by decide) (Ls' := #[.val (.ref a1), .val (.int (1 : Int32)), .val (.int (3 : Int32)), .val (.ref a_312), .val (.int (1 : Int32))]) rfl ?_
  refine g_goto X315 hx (hb hby d_jdk_52m14_29) (q := 8) (by decide) (by decide) ?_
  refine iLw X315 hx (hb hby d_jdk_52m14_8) (q := 10) rfl rfl ?_
  refine iL X315 hx (hb hby d_jdk_52m14_10) (q := 11) rfl rfl ?_
  refine icN X315 hx (hb hby d_jdk_52m14_11) (q := 14) rfl (by decide) ?_
  refine aL X315 hx (hb hby d_jdk_52m14_14) (q := 15) rfl rfl rfl ?_
  refine iLw X315 hx (hb hby d_jdk_52m14_15) (q := 17) rfl rfl ?_
  refine aL X315 hx (hb hby d_jdk_52m14_17) (q := 18) rfl rfl rfl ?_
  refine iL X315 hx (hb hby d_jdk_52m14_18) (q := 19) rfl rfl ?_
  have ne318 : a1 ≠ a_312 := (Nat.ne_of_lt (Nat.lt_of_lt_of_le (Nat.lt_of_lt_of_le P1.lt (Nat.le_refl _)) q312_0))
  have f319 : Arv Z T315.heap a1 kc .char (3 : Int32) [(.int c0), (.int c1), (.int c2)] (.int 0) := f313.keep K315q (ninS ne318 nin0)
  refine g_ldC X315 hx hZ0 f319 (i := 1) (by decide) (by decide) (by decide) (v := (.int c1)) rfl rfl (hb hby d_jdk_52m14_19) (q := 20) rfl ?_
  have f321 : Old Z Z.heap.size T315.heap := f317.keep K315q (allS gz316 all0)
  refine g_st X315 hx hZ0 hown0 (wd62 hw) (wd63 hw) (wd44 hw) (wd64 hw) (by decide) rfl (Con.back (W := 0) (rm_put3_1 l Z a0 hw zC SC PC vF rF SF SA SH SL a_312 kb_312 c1 (StrChars.lo8 c0) (StrChars.hi8 c0) (0 : Int32) (0 : Int32) (0 : Int32) (0 : Int32) T315.heap f321 q315_0 gz316) hZ0 (wd64 hw) (wd44 hw) (by decide) (by decide)) (by rw [hml]; rfl) (lenOf pd3 rfl) rfl (Nat.le_of_eq rfl) (hb hby d_jdk_52m14_20) (q := 23) rfl (by decide) (by decide) ?_
  intro v320 T320 L320 X320 Q320
  obtain ⟨rfl, Nq320, K320q, q320_0⟩ := Q320
  have N320 := Fr.app N315 Nq320
  show Go _ _ _ _ (T320.setTop (mkF m 23 #[.val (.ref a1), .val (.int (1 : Int32)), .val (.int (3 : Int32)), .val (.ref a_312), .val (.int (1 : Int32))] []))
  refine g_iinc X320 hx (hb hby d_jdk_52m14_23) (q := 26) rfl rfl (z := (2 : Int32)) (by decide) (Ls' := #[.val (.ref a1), .val (.int (2 : Int32)), .val (.int (3 : Int32)), .val (.ref a_312), .val (.int (1 : Int32))]) rfl ?_
  refine g_iinc X320 hx (hb hby d_jdk_52m14_26) (q := 29) rfl rfl (z := (2 : Int32)) (by decide) (Ls' := #[.val (.ref a1), .val (.int (2 : Int32)), .val (.int (3 : Int32)), .val (.ref a_312), .val (.int (2 : Int32))]) rfl ?_
  refine g_goto X320 hx (hb hby d_jdk_52m14_29) (q := 8) (by decide) (by decide) ?_
  refine iLw X320 hx (hb hby d_jdk_52m14_8) (q := 10) rfl rfl ?_
  refine iL X320 hx (hb hby d_jdk_52m14_10) (q := 11) rfl rfl ?_
  refine icN X320 hx (hb hby d_jdk_52m14_11) (q := 14) rfl (by decide) ?_
  refine aL X320 hx (hb hby d_jdk_52m14_14) (q := 15) rfl rfl rfl ?_
  refine iLw X320 hx (hb hby d_jdk_52m14_15) (q := 17) rfl rfl ?_
  refine aL X320 hx (hb hby d_jdk_52m14_17) (q := 18) rfl rfl rfl ?_
  refine iL X320 hx (hb hby d_jdk_52m14_18) (q := 19) rfl rfl ?_
  have f322 : Arv Z T320.heap a1 kc .char (3 : Int32) [(.int c0), (.int c1), (.int c2)] (.int 0) := f319.keep K320q (ninS ne318 nin0)
  refine g_ldC X320 hx hZ0 f322 (i := 2) (by decide) (by decide) (by decide) (v := (.int c2)) rfl rfl (hb hby d_jdk_52m14_19) (q := 20) rfl ?_
  have f324 : Old Z Z.heap.size T320.heap := f321.keep K320q (allS gz316 all0)
  refine g_st X320 hx hZ0 hown0 (wd62 hw) (wd63 hw) (wd44 hw) (wd64 hw) (by decide) rfl (Con.back (W := 0) (rm_put3_2 l Z a0 hw zC SC PC vF rF SF SA SH SL a_312 kb_312 c2 (StrChars.lo8 c0) (StrChars.hi8 c0) (StrChars.lo8 c1) (StrChars.hi8 c1) (0 : Int32) (0 : Int32) T320.heap f324 q320_0 gz316) hZ0 (wd64 hw) (wd44 hw) (by decide) (by decide)) (by rw [hml]; rfl) (lenOf pd3 rfl) rfl (Nat.le_of_eq rfl) (hb hby d_jdk_52m14_20) (q := 23) rfl (by decide) (by decide) ?_
  intro v323 T323 L323 X323 Q323
  obtain ⟨rfl, Nq323, K323q, q323_0⟩ := Q323
  have N323 := Fr.app N320 Nq323
  show Go _ _ _ _ (T323.setTop (mkF m 23 #[.val (.ref a1), .val (.int (2 : Int32)), .val (.int (3 : Int32)), .val (.ref a_312), .val (.int (2 : Int32))] []))
  refine g_iinc X323 hx (hb hby d_jdk_52m14_23) (q := 26) rfl rfl (z := (3 : Int32)) (by decide) (Ls' := #[.val (.ref a1), .val (.int (3 : Int32)), .val (.int (3 : Int32)), .val (.ref a_312), .val (.int (2 : Int32))]) rfl ?_
  refine g_iinc X323 hx (hb hby d_jdk_52m14_26) (q := 29) rfl rfl (z := (3 : Int32)) (by decide) (Ls' := #[.val (.ref a1), .val (.int (3 : Int32)), .val (.int (3 : Int32)), .val (.ref a_312), .val (.int (3 : Int32))]) rfl ?_
  refine g_goto X323 hx (hb hby d_jdk_52m14_29) (q := 8) (by decide) (by decide) ?_
  refine iLw X323 hx (hb hby d_jdk_52m14_8) (q := 10) rfl rfl ?_
  refine iL X323 hx (hb hby d_jdk_52m14_10) (q := 11) rfl rfl ?_
  refine icY X323 hx (hb hby d_jdk_52m14_11) (q := 32) (by decide) (by decide) (by decide) ?_
  refine aL X323 hx (hb hby d_jdk_52m14_32) (q := 33) rfl rfl rfl ?_
  have K325 : Keep h0 T312.heap [] := (Keep.refl h0 []).trans K312q all0
  have gh326 : h0.size ≤ a_312 := Nat.le_trans (Nat.le_refl _) q312_0
  have K327 : Keep h0 T315.heap [] := K325.trans K315q (allS (Or.inr gh326) all0)
  have K328 : Keep h0 T320.heap [] := K327.trans K320q (allS (Or.inr gh326) all0)
  have K329 : Keep h0 T323.heap [] := K328.trans K323q (allS (Or.inr gh326) all0)
  refine endP X323 hlk (fun h => by rw [hret] at h; cases h) (lastA X323 hx hret rfl rfl rfl (hb hby d_jdk_52m14_33)) ?_ (by decide) (by decide)
  exact ⟨a_312, kb_312, rfl, N323, K329, gh326, q323_0⟩
def Q_cmp5_3_0 (Z : State) (zC : Int32) (vF : Value) (a1 : Addr) (a2 : Addr) (kc : ClassId) (kb : ClassId) (c0 : Int32) (c1 : Int32) (c2 : Int32) (h0 : Heap) (v : Option Value) (h : Heap) (L : List Loc) : Prop := v = some (.int (0 : Int32)) ∧ Fr Z.heap.size L ∧ Keep h0 h [a2]
set_option maxRecDepth 65536 in
set_option maxHeartbeats 40000000 in
theorem rm_cmp5_3_0 (l : Launch) (Z : State) (a0 : Array Value) (hw : ∀ d ∈ tables_1, d.before a0 Z = true) (zC : Int32) (SC : Sta Z Z.heap "java/lang/String" "COMPACT_STRINGS" "Z" (.int zC)) (PC : ¬ zC = (0 : Int32)) (vF : Value) (rF : vF = .null ∨ ∃ a, vF = .ref a) (SF : Sta Z Z.heap "jdk/internal/util/Preconditions" "SIOOBE_FORMATTER" "Ljava/util/function/BiFunction;" vF) (SA : Sta Z Z.heap "java/lang/StringUTF16" "$assertionsDisabled" "Z" (.int (1 : Int32))) (SH : Sta Z Z.heap "java/lang/StringUTF16" "HI_BYTE_SHIFT" "I" (.int (0 : Int32))) (SL : Sta Z Z.heap "java/lang/StringUTF16" "LO_BYTE_SHIFT" "I" (.int (8 : Int32))) (a1 : Addr) (a2 : Addr) (kc : ClassId) (kb : ClassId) (c0 : Int32) (c1 : Int32) (c2 : Int32) (h0 : Heap) (O0 : Old Z Z.heap.size h0) (P1 : Arv Z h0 a1 kc .char (3 : Int32) [(.int c0), (.int c1), (.int c2)] (.int 0)) (P2 : Arv Z h0 a2 kb .byte (3 : Int32) [(.int (0 : Int32)), (.int (0 : Int32)), (.int (0 : Int32))] (.int 0)) (P3 : Z.heap.size ≤ a2) (P4 : a1 ≠ a2) (W0 : ((255 : Int32) < c0)) :
    Con l Z (⟨"java/lang/StringUTF16", "compress", "([CI[BII)I"⟩ : MethodName) jdk_52_method_21_code 7 (some .int) ({ frames := 0, cells := 0, slots := 0, locals := 0 } : Room) #[(.ref a1), (.int (0 : Int32)), (.ref a2), (.int (0 : Int32)), (.int (3 : Int32))] h0 (Q_cmp5_3_0 Z zC vF a1 a2 kc kb c0 c1 c2 h0) := by
  refine Con.intro pn2 ?_
  intro p e s m below meth c T0 X0 hx hby hml hown0 hnm hret hlk hZ0 e0
  have N0 := Fr.nil Z.heap.size
  refine castGo (g' := mkF m 0 #[.val (.ref a1), .val (.int (0 : Int32)), .val (.ref a2), .val (.int (0 : Int32)), .val (.int (3 : Int32)), .unset, .unset] []) (by first | rfl | (simp [entryFrame, mkF, argsToLocals, Value.category]; done)) ?_
  show Go _ _ _ _ (T0.setTop (mkF m 0 #[.val (.ref a1), .val (.int (0 : Int32)), .val (.ref a2), .val (.int (0 : Int32)), .val (.int (3 : Int32)), .unset, .unset] []))
  refine cI X0 hx (hb hby d_jdk_52m21_0) (q := 1) rfl (z := (0 : Int32)) rfl ?_
  refine sIw X0 hx (hb hby d_jdk_52m21_1) (q := 3) rfl (Ls' := #[.val (.ref a1), .val (.int (0 : Int32)), .val (.ref a2), .val (.int (0 : Int32)), .val (.int (3 : Int32)), .val (.int (0 : Int32)), .unset]) rfl ?_
  refine iLw X0 hx (hb hby d_jdk_52m21_3) (q := 5) rfl rfl ?_
  refine iLw X0 hx (hb hby d_jdk_52m21_5) (q := 7) rfl rfl ?_
  refine icN X0 hx (hb hby d_jdk_52m21_7) (q := 10) rfl (by decide) ?_
  refine aL X0 hx (hb hby d_jdk_52m21_10) (q := 11) rfl rfl rfl ?_
  refine iL X0 hx (hb hby d_jdk_52m21_11) (q := 12) rfl rfl ?_
  refine g_ldC X0 hx hZ0 P1 (i := 0) (by decide) (by decide) (by decide) (v := (.int c0)) rfl e0 (hb hby d_jdk_52m21_12) (q := 13) rfl ?_
  refine sIw X0 hx (hb hby d_jdk_52m21_13) (q := 15) rfl (Ls' := #[.val (.ref a1), .val (.int (0 : Int32)), .val (.ref a2), .val (.int (0 : Int32)), .val (.int (3 : Int32)), .val (.int (0 : Int32)), .val (.int c0)]) rfl ?_
  refine iLw X0 hx (hb hby d_jdk_52m21_15) (q := 17) rfl rfl ?_
  refine pI X0 hx (hb hby d_jdk_52m21_17) (q := 20) rfl (z := (255 : Int32)) rfl ?_
  refine icN X0 hx (hb hby d_jdk_52m21_20) (q := 23) rfl (tlt W0).2.2.2 ?_
  refine iLw X0 hx (hb hby d_jdk_52m21_23) (q := 25) rfl rfl ?_
  refine endP X0 hlk (fun h => by rw [hret] at h; cases h) (lastI X0 hx hret (hb hby d_jdk_52m21_25)) ?_ (by decide) (by decide)
  rw [e0]
  exact ⟨rfl, N0, (Keep.refl h0 [a2])⟩
def Q_cmp3_3_0 (Z : State) (zC : Int32) (vF : Value) (a1 : Addr) (kc : ClassId) (c0 : Int32) (c1 : Int32) (c2 : Int32) (h0 : Heap) (v : Option Value) (h : Heap) (L : List Loc) : Prop := ∃ (a : Addr), ∃ (kb : ClassId), v = some (.ref a) ∧ Fr Z.heap.size L ∧ Keep h0 h [] ∧ h0.size ≤ a ∧ Arv Z h a kb .byte (6 : Int32) [(.int (StrChars.lo8 c0)), (.int (StrChars.hi8 c0)), (.int (StrChars.lo8 c1)), (.int (StrChars.hi8 c1)), (.int (StrChars.lo8 c2)), (.int (StrChars.hi8 c2))] (.int 0)
set_option maxRecDepth 65536 in
set_option maxHeartbeats 40000000 in
theorem rm_cmp3_3_0 (l : Launch) (Z : State) (a0 : Array Value) (hw : ∀ d ∈ tables_1, d.before a0 Z = true) (zC : Int32) (SC : Sta Z Z.heap "java/lang/String" "COMPACT_STRINGS" "Z" (.int zC)) (PC : ¬ zC = (0 : Int32)) (vF : Value) (rF : vF = .null ∨ ∃ a, vF = .ref a) (SF : Sta Z Z.heap "jdk/internal/util/Preconditions" "SIOOBE_FORMATTER" "Ljava/util/function/BiFunction;" vF) (SA : Sta Z Z.heap "java/lang/StringUTF16" "$assertionsDisabled" "Z" (.int (1 : Int32))) (SH : Sta Z Z.heap "java/lang/StringUTF16" "HI_BYTE_SHIFT" "I" (.int (0 : Int32))) (SL : Sta Z Z.heap "java/lang/StringUTF16" "LO_BYTE_SHIFT" "I" (.int (8 : Int32))) (a1 : Addr) (kc : ClassId) (c0 : Int32) (c1 : Int32) (c2 : Int32) (h0 : Heap) (O0 : Old Z Z.heap.size h0) (P1 : Arv Z h0 a1 kc .char (3 : Int32) [(.int c0), (.int c1), (.int c2)] (.int 0)) (H0 : (¬ (c0 < (0 : Int32)))) (J0 : (¬ ((65535 : Int32) < c0))) (H1 : (¬ (c1 < (0 : Int32)))) (J1 : (¬ ((65535 : Int32) < c1))) (H2 : (¬ (c2 < (0 : Int32)))) (J2 : (¬ ((65535 : Int32) < c2))) (W0 : ((255 : Int32) < c0)) :
    Con l Z (⟨"java/lang/StringUTF16", "compress", "([CII)[B"⟩ : MethodName) jdk_52_method_16_code 6 (some (.array .byte)) ({ frames := 3, cells := 2, slots := 9, locals := 40 } : Room) #[(.ref a1), (.int (0 : Int32)), (.int (3 : Int32))] h0 (Q_cmp3_3_0 Z zC vF a1 kc c0 c1 c2 h0) := by
  refine Con.intro pn2 ?_
  intro p e s m below meth c T0 X0 hx hby hml hown0 hnm hret hlk hZ0 e0
  have N0 := Fr.nil Z.heap.size
  refine castGo (g' := mkF m 0 #[.val (.ref a1), .val (.int (0 : Int32)), .val (.int (3 : Int32)), .unset, .unset, .unset] []) (by first | rfl | (simp [entryFrame, mkF, argsToLocals, Value.category]; done)) ?_
  show Go _ _ _ _ (T0.setTop (mkF m 0 #[.val (.ref a1), .val (.int (0 : Int32)), .val (.int (3 : Int32)), .unset, .unset, .unset] []))
  refine iL X0 hx (hb hby d_jdk_52m16_0) (q := 1) rfl rfl ?_
  refine g_newA X0 hx hZ0 (aty := .byte) (wd20 hw) (by decide) (n := 3) (by decide) (by decide) (by decide) (by decide) e0 (hb hby d_jdk_52m16_1) (q := 3) rfl ?_
  intro T330 h330 k330 b330 g330 X330 e330 E330 V330
  have Va330 : Arv Z h330 b330 k330 .byte (3 : Int32) [(.int (0 : Int32)), (.int (0 : Int32)), (.int (0 : Int32))] (.int 0) := V330
  refine sA X330 hx (hb hby d_jdk_52m16_3) (q := 4) rfl rfl (Ls' := #[.val (.ref a1), .val (.int (0 : Int32)), .val (.int (3 : Int32)), .val (.ref b330), .unset, .unset]) rfl ?_
  refine aL X330 hx (hb hby d_jdk_52m16_4) (q := 5) rfl rfl rfl ?_
  refine iL X330 hx (hb hby d_jdk_52m16_5) (q := 6) rfl rfl ?_
  refine aL X330 hx (hb hby d_jdk_52m16_6) (q := 7) rfl rfl rfl ?_
  refine cI X330 hx (hb hby d_jdk_52m16_7) (q := 8) rfl (z := (0 : Int32)) rfl ?_
  refine iL X330 hx (hb hby d_jdk_52m16_8) (q := 9) rfl rfl ?_
  have f335 : Arv Z h330 a1 kc .char (3 : Int32) [(.int c0), (.int c1), (.int c2)] (.int 0) := P1.ext E330
  have gz336 : Z.heap.size ≤ b330 := Nat.le_trans O0.2.1 (Nat.le_of_eq g330.symm)
  have ne337 : a1 ≠ b330 := (Nat.ne_of_lt (Nat.lt_of_lt_of_le (Nat.lt_of_lt_of_le P1.lt (Nat.le_refl _)) (Nat.le_of_eq g330.symm)))
  have f338 : Old Z Z.heap.size h330 := O0.ext E330
  refine g_st X330 hx hZ0 hown0 (wd46 hw) (wd47 hw) (wd44 hw) (wd48 hw) (by decide) e330 (Con.back (W := 0) (rm_cmp5_3_0 l Z a0 hw zC SC PC vF rF SF SA SH SL a1 b330 kc k330 c0 c1 c2 h330 f338 f335 Va330 gz336 ne337 W0) hZ0 (wd48 hw) (wd44 hw) (by decide) (by decide)) (by rw [hml]; rfl) (lenOf pd4 rfl) rfl (Nat.le_of_eq rfl) (hb hby d_jdk_52m16_9) (q := 12) rfl (by decide) (by decide) ?_
  intro v334 T334 L334 X334 Q334
  obtain ⟨rfl, Nq334, K334q⟩ := Q334
  have N334 := Fr.app N0 Nq334
  show Go _ _ _ _ (T334.setTop (mkF m 12 #[.val (.ref a1), .val (.int (0 : Int32)), .val (.int (3 : Int32)), .val (.ref b330), .unset, .unset] [(.int (0 : Int32))]))
  refine sIw X334 hx (hb hby d_jdk_52m16_12) (q := 14) rfl (Ls' := #[.val (.ref a1), .val (.int (0 : Int32)), .val (.int (3 : Int32)), .val (.ref b330), .val (.int (0 : Int32)), .unset]) rfl ?_
  refine iLw X334 hx (hb hby d_jdk_52m16_14) (q := 16) rfl rfl ?_
  refine iL X334 hx (hb hby d_jdk_52m16_16) (q := 17) rfl rfl ?_
  refine icN X334 hx (hb hby d_jdk_52m16_17) (q := 20) rfl (by decide) ?_
  refine aL X334 hx (hb hby d_jdk_52m16_20) (q := 21) rfl rfl rfl ?_
  refine iL X334 hx (hb hby d_jdk_52m16_21) (q := 22) rfl rfl ?_
  refine iL X334 hx (hb hby d_jdk_52m16_22) (q := 23) rfl rfl ?_
  have f341 : Arv Z T334.heap a1 kc .char (3 : Int32) [(.int c0), (.int c1), (.int c2)] (.int 0) := f335.keep K334q (ninS ne337 nin0)
  have f342 : Old Z Z.heap.size T334.heap := f338.keep K334q (allS gz336 all0)
  refine g_st X334 hx hZ0 hown0 (wd52 hw) (wd53 hw) (wd44 hw) (wd54 hw) (by decide) rfl (Con.back (W := 0) (rm_toB3 l Z a0 hw zC SC PC vF rF SF SA SH SL a1 kc c0 c1 c2 T334.heap f342 f341) hZ0 (wd54 hw) (wd44 hw) (by decide) (by decide)) (by rw [hml]; rfl) (lenOf pd5 rfl) rfl (Nat.le_of_eq rfl) (hb hby d_jdk_52m16_23) (q := 26) rfl (by decide) (by decide) ?_
  intro v340 T340 L340 X340 Q340
  obtain ⟨a_340, kb_340, rfl, Nq340, K340q, q340_0, q340_1⟩ := Q340
  have N340 := Fr.app N334 Nq340
  show Go _ _ _ _ (T340.setTop (mkF m 26 #[.val (.ref a1), .val (.int (0 : Int32)), .val (.int (3 : Int32)), .val (.ref b330), .val (.int (0 : Int32)), .unset] [(.ref a_340)]))
  refine sAw X340 hx (hb hby d_jdk_52m16_26) (q := 28) rfl rfl (Ls' := #[.val (.ref a1), .val (.int (0 : Int32)), .val (.int (3 : Int32)), .val (.ref b330), .val (.int (0 : Int32)), .val (.ref a_340)]) rfl ?_
  refine aLw X340 hx (hb hby d_jdk_52m16_28) (q := 30) rfl rfl rfl ?_
  refine iLw X340 hx (hb hby d_jdk_52m16_30) (q := 32) rfl rfl ?_
  have f344 : Old Z Z.heap.size T340.heap := f342.keep K340q all0
  refine g_st X340 hx hZ0 hown0 (wd68 hw) (wd69 hw) (wd44 hw) (wd70 hw) (by decide) rfl (Con.back (W := 0) (rm_get3_0 l Z a0 hw zC SC PC vF rF SF SA SH SL a_340 kb_340 c0 (StrChars.lo8 c1) (StrChars.hi8 c1) (StrChars.lo8 c2) (StrChars.hi8 c2) T340.heap f344 q340_1 H0 J0) hZ0 (wd70 hw) (wd44 hw) (by decide) (by decide)) (by rw [hml]; rfl) (lenOf pd6 rfl) rfl (Nat.le_of_eq rfl) (hb hby d_jdk_52m16_32) (q := 35) rfl (by decide) (by decide) ?_
  intro v343 T343 L343 X343 Q343
  obtain ⟨rfl, Nq343, e343⟩ := Q343
  have N343 := Fr.app N340 Nq343
  show Go _ _ _ _ (T343.setTop (mkF m 35 #[.val (.ref a1), .val (.int (0 : Int32)), .val (.int (3 : Int32)), .val (.ref b330), .val (.int (0 : Int32)), .val (.ref a_340)] [(.int c0)]))
  refine pI X343 hx (hb hby d_jdk_52m16_35) (q := 38) rfl (z := (255 : Int32)) rfl ?_
  refine icY X343 hx (hb hby d_jdk_52m16_38) (q := 54) (by decide) (by decide) (tlt W0).2.2.1 ?_
  refine aLw X343 hx (hb hby d_jdk_52m16_54) (q := 56) rfl rfl rfl ?_
  have K345 : Keep h0 h330 [] := (Keep.refl h0 []).ext E330
  have gh346 : h0.size ≤ b330 := Nat.le_trans (Nat.le_refl _) (Nat.le_of_eq g330.symm)
  have K347 : Keep h0 T334.heap [] := K345.trans K334q (allS (Or.inr gh346) all0)
  have K348 : Keep h0 T340.heap [] := K347.trans K340q all0
  have le350 : (h0).size ≤ (h330).size := E330.1
  have le351 : (h0).size ≤ (T334.heap).size := (Nat.le_trans le350 K334q.1)
  have gh349 : h0.size ≤ a_340 := Nat.le_trans le351 q340_0
  refine endP X343 hlk (fun h => by rw [hret] at h; cases h) (lastA X343 hx hret rfl rfl rfl (hb hby d_jdk_52m16_56)) ?_ (by decide) (by decide)
  rw [e343]
  exact ⟨a_340, kb_340, rfl, N343, K348, gh349, q340_1⟩
def Q_cmp5_3_1 (Z : State) (zC : Int32) (vF : Value) (a1 : Addr) (a2 : Addr) (kc : ClassId) (kb : ClassId) (c0 : Int32) (c1 : Int32) (c2 : Int32) (h0 : Heap) (v : Option Value) (h : Heap) (L : List Loc) : Prop := v = some (.int (1 : Int32)) ∧ Fr Z.heap.size L ∧ Keep h0 h [a2]
set_option maxRecDepth 65536 in
set_option maxHeartbeats 40000000 in
theorem rm_cmp5_3_1 (l : Launch) (Z : State) (a0 : Array Value) (hw : ∀ d ∈ tables_1, d.before a0 Z = true) (zC : Int32) (SC : Sta Z Z.heap "java/lang/String" "COMPACT_STRINGS" "Z" (.int zC)) (PC : ¬ zC = (0 : Int32)) (vF : Value) (rF : vF = .null ∨ ∃ a, vF = .ref a) (SF : Sta Z Z.heap "jdk/internal/util/Preconditions" "SIOOBE_FORMATTER" "Ljava/util/function/BiFunction;" vF) (SA : Sta Z Z.heap "java/lang/StringUTF16" "$assertionsDisabled" "Z" (.int (1 : Int32))) (SH : Sta Z Z.heap "java/lang/StringUTF16" "HI_BYTE_SHIFT" "I" (.int (0 : Int32))) (SL : Sta Z Z.heap "java/lang/StringUTF16" "LO_BYTE_SHIFT" "I" (.int (8 : Int32))) (a1 : Addr) (a2 : Addr) (kc : ClassId) (kb : ClassId) (c0 : Int32) (c1 : Int32) (c2 : Int32) (h0 : Heap) (O0 : Old Z Z.heap.size h0) (P1 : Arv Z h0 a1 kc .char (3 : Int32) [(.int c0), (.int c1), (.int c2)] (.int 0)) (P2 : Arv Z h0 a2 kb .byte (3 : Int32) [(.int (0 : Int32)), (.int (0 : Int32)), (.int (0 : Int32))] (.int 0)) (P3 : Z.heap.size ≤ a2) (P4 : a1 ≠ a2) (W0 : (¬ ((255 : Int32) < c0))) (W1 : ((255 : Int32) < c1)) :
    Con l Z (⟨"java/lang/StringUTF16", "compress", "([CI[BII)I"⟩ : MethodName) jdk_52_method_21_code 7 (some .int) ({ frames := 0, cells := 0, slots := 0, locals := 0 } : Room) #[(.ref a1), (.int (0 : Int32)), (.ref a2), (.int (0 : Int32)), (.int (3 : Int32))] h0 (Q_cmp5_3_1 Z zC vF a1 a2 kc kb c0 c1 c2 h0) := by
  refine Con.intro pn2 ?_
  intro p e s m below meth c T0 X0 hx hby hml hown0 hnm hret hlk hZ0 e0
  have N0 := Fr.nil Z.heap.size
  refine castGo (g' := mkF m 0 #[.val (.ref a1), .val (.int (0 : Int32)), .val (.ref a2), .val (.int (0 : Int32)), .val (.int (3 : Int32)), .unset, .unset] []) (by first | rfl | (simp [entryFrame, mkF, argsToLocals, Value.category]; done)) ?_
  show Go _ _ _ _ (T0.setTop (mkF m 0 #[.val (.ref a1), .val (.int (0 : Int32)), .val (.ref a2), .val (.int (0 : Int32)), .val (.int (3 : Int32)), .unset, .unset] []))
  refine cI X0 hx (hb hby d_jdk_52m21_0) (q := 1) rfl (z := (0 : Int32)) rfl ?_
  refine sIw X0 hx (hb hby d_jdk_52m21_1) (q := 3) rfl (Ls' := #[.val (.ref a1), .val (.int (0 : Int32)), .val (.ref a2), .val (.int (0 : Int32)), .val (.int (3 : Int32)), .val (.int (0 : Int32)), .unset]) rfl ?_
  refine iLw X0 hx (hb hby d_jdk_52m21_3) (q := 5) rfl rfl ?_
  refine iLw X0 hx (hb hby d_jdk_52m21_5) (q := 7) rfl rfl ?_
  refine icN X0 hx (hb hby d_jdk_52m21_7) (q := 10) rfl (by decide) ?_
  refine aL X0 hx (hb hby d_jdk_52m21_10) (q := 11) rfl rfl rfl ?_
  refine iL X0 hx (hb hby d_jdk_52m21_11) (q := 12) rfl rfl ?_
  refine g_ldC X0 hx hZ0 P1 (i := 0) (by decide) (by decide) (by decide) (v := (.int c0)) rfl e0 (hb hby d_jdk_52m21_12) (q := 13) rfl ?_
  refine sIw X0 hx (hb hby d_jdk_52m21_13) (q := 15) rfl (Ls' := #[.val (.ref a1), .val (.int (0 : Int32)), .val (.ref a2), .val (.int (0 : Int32)), .val (.int (3 : Int32)), .val (.int (0 : Int32)), .val (.int c0)]) rfl ?_
  refine iLw X0 hx (hb hby d_jdk_52m21_15) (q := 17) rfl rfl ?_
  refine pI X0 hx (hb hby d_jdk_52m21_17) (q := 20) rfl (z := (255 : Int32)) rfl ?_
  refine icY X0 hx (hb hby d_jdk_52m21_20) (q := 26) (by decide) (by decide) (flt W0).2.2.2 ?_
  refine aL X0 hx (hb hby d_jdk_52m21_26) (q := 27) rfl rfl rfl ?_
  refine iL X0 hx (hb hby d_jdk_52m21_27) (q := 28) rfl rfl ?_
  refine iLw X0 hx (hb hby d_jdk_52m21_28) (q := 30) rfl rfl ?_
  refine g_i2b X0 hx (hb hby d_jdk_52m21_30) (q := 31) rfl (z := (StrChars.lo8 c0)) rfl ?_
  refine g_stB X0 hx hZ0 P2 (i := 0) (by decide) (by decide) (by decide) (Nat.le_of_ble_eq_true rfl) (y := (StrChars.lo8 c0)) (lo8_nar _) e0 (hb hby d_jdk_52m21_31) (q := 32) rfl ?_
  intro T352 h352 X352 e352 W352 V352
  have N352 := Fr.snoc X352 N0 P3
  have Va352 : Arv Z h352 a2 kb .byte (3 : Int32) [(.int (StrChars.lo8 c0)), (.int (0 : Int32)), (.int (0 : Int32))] (.int 0) := V352
  refine g_iinc X352 hx (hb hby d_jdk_52m21_32) (q := 35) rfl rfl (z := (1 : Int32)) (by decide) (Ls' := #[.val (.ref a1), .val (.int (1 : Int32)), .val (.ref a2), .val (.int (0 : Int32)), .val (.int (3 : Int32)), .val (.int (0 : Int32)), .val (.int c0)]) rfl ?_
  refine g_iinc X352 hx (hb hby d_jdk_52m21_35) (q := 38) rfl rfl (z := (1 : Int32)) (by decide) (Ls' := #[.val (.ref a1), .val (.int (1 : Int32)), .val (.ref a2), .val (.int (1 : Int32)), .val (.int (3 : Int32)), .val (.int (0 : Int32)), .val (.int c0)]) rfl ?_
  refine g_iinc X352 hx (hb hby d_jdk_52m21_38) (q := 41) rfl rfl (z := (1 : Int32)) (by decide) (Ls' := #[.val (.ref a1), .val (.int (1 : Int32)), .val (.ref a2), .val (.int (1 : Int32)), .val (.int (3 : Int32)), .val (.int (1 : Int32)), .val (.int c0)]) rfl ?_
  refine g_goto X352 hx (hb hby d_jdk_52m21_41) (q := 3) (by decide) (by decide) ?_
  refine iLw X352 hx (hb hby d_jdk_52m21_3) (q := 5) rfl rfl ?_
  refine iLw X352 hx (hb hby d_jdk_52m21_5) (q := 7) rfl rfl ?_
  refine icN X352 hx (hb hby d_jdk_52m21_7) (q := 10) rfl (by decide) ?_
  refine aL X352 hx (hb hby d_jdk_52m21_10) (q := 11) rfl rfl rfl ?_
  refine iL X352 hx (hb hby d_jdk_52m21_11) (q := 12) rfl rfl ?_
  have f353 : Arv Z h352 a1 kc .char (3 : Int32) [(.int c0), (.int c1), (.int c2)] (.int 0) := P1.other W352 P4
  refine g_ldC X352 hx hZ0 f353 (i := 1) (by decide) (by decide) (by decide) (v := (.int c1)) rfl e352 (hb hby d_jdk_52m21_12) (q := 13) rfl ?_
  refine sIw X352 hx (hb hby d_jdk_52m21_13) (q := 15) rfl (Ls' := #[.val (.ref a1), .val (.int (1 : Int32)), .val (.ref a2), .val (.int (1 : Int32)), .val (.int (3 : Int32)), .val (.int (1 : Int32)), .val (.int c1)]) rfl ?_
  refine iLw X352 hx (hb hby d_jdk_52m21_15) (q := 17) rfl rfl ?_
  refine pI X352 hx (hb hby d_jdk_52m21_17) (q := 20) rfl (z := (255 : Int32)) rfl ?_
  refine icN X352 hx (hb hby d_jdk_52m21_20) (q := 23) rfl (tlt W1).2.2.2 ?_
  refine iLw X352 hx (hb hby d_jdk_52m21_23) (q := 25) rfl rfl ?_
  have K354 : Keep h0 h352 [a2] := (Keep.refl h0 [a2]).wr W352 (Or.inl (by simp))
  refine endP X352 hlk (fun h => by rw [hret] at h; cases h) (lastI X352 hx hret (hb hby d_jdk_52m21_25)) ?_ (by decide) (by decide)
  rw [e352]
  exact ⟨rfl, N352, K354⟩
def Q_cmp3_3_1 (Z : State) (zC : Int32) (vF : Value) (a1 : Addr) (kc : ClassId) (c0 : Int32) (c1 : Int32) (c2 : Int32) (h0 : Heap) (v : Option Value) (h : Heap) (L : List Loc) : Prop := ∃ (a : Addr), ∃ (kb : ClassId), v = some (.ref a) ∧ Fr Z.heap.size L ∧ Keep h0 h [] ∧ h0.size ≤ a ∧ Arv Z h a kb .byte (6 : Int32) [(.int (StrChars.lo8 c0)), (.int (StrChars.hi8 c0)), (.int (StrChars.lo8 c1)), (.int (StrChars.hi8 c1)), (.int (StrChars.lo8 c2)), (.int (StrChars.hi8 c2))] (.int 0)
set_option maxRecDepth 65536 in
set_option maxHeartbeats 40000000 in
theorem rm_cmp3_3_1 (l : Launch) (Z : State) (a0 : Array Value) (hw : ∀ d ∈ tables_1, d.before a0 Z = true) (zC : Int32) (SC : Sta Z Z.heap "java/lang/String" "COMPACT_STRINGS" "Z" (.int zC)) (PC : ¬ zC = (0 : Int32)) (vF : Value) (rF : vF = .null ∨ ∃ a, vF = .ref a) (SF : Sta Z Z.heap "jdk/internal/util/Preconditions" "SIOOBE_FORMATTER" "Ljava/util/function/BiFunction;" vF) (SA : Sta Z Z.heap "java/lang/StringUTF16" "$assertionsDisabled" "Z" (.int (1 : Int32))) (SH : Sta Z Z.heap "java/lang/StringUTF16" "HI_BYTE_SHIFT" "I" (.int (0 : Int32))) (SL : Sta Z Z.heap "java/lang/StringUTF16" "LO_BYTE_SHIFT" "I" (.int (8 : Int32))) (a1 : Addr) (kc : ClassId) (c0 : Int32) (c1 : Int32) (c2 : Int32) (h0 : Heap) (O0 : Old Z Z.heap.size h0) (P1 : Arv Z h0 a1 kc .char (3 : Int32) [(.int c0), (.int c1), (.int c2)] (.int 0)) (H0 : (¬ (c0 < (0 : Int32)))) (J0 : (¬ ((65535 : Int32) < c0))) (H1 : (¬ (c1 < (0 : Int32)))) (J1 : (¬ ((65535 : Int32) < c1))) (H2 : (¬ (c2 < (0 : Int32)))) (J2 : (¬ ((65535 : Int32) < c2))) (W0 : (¬ ((255 : Int32) < c0))) (W1 : ((255 : Int32) < c1)) :
    Con l Z (⟨"java/lang/StringUTF16", "compress", "([CII)[B"⟩ : MethodName) jdk_52_method_16_code 6 (some (.array .byte)) ({ frames := 3, cells := 2, slots := 9, locals := 40 } : Room) #[(.ref a1), (.int (0 : Int32)), (.int (3 : Int32))] h0 (Q_cmp3_3_1 Z zC vF a1 kc c0 c1 c2 h0) := by
  refine Con.intro pn2 ?_
  intro p e s m below meth c T0 X0 hx hby hml hown0 hnm hret hlk hZ0 e0
  have N0 := Fr.nil Z.heap.size
  refine castGo (g' := mkF m 0 #[.val (.ref a1), .val (.int (0 : Int32)), .val (.int (3 : Int32)), .unset, .unset, .unset] []) (by first | rfl | (simp [entryFrame, mkF, argsToLocals, Value.category]; done)) ?_
  show Go _ _ _ _ (T0.setTop (mkF m 0 #[.val (.ref a1), .val (.int (0 : Int32)), .val (.int (3 : Int32)), .unset, .unset, .unset] []))
  refine iL X0 hx (hb hby d_jdk_52m16_0) (q := 1) rfl rfl ?_
  refine g_newA X0 hx hZ0 (aty := .byte) (wd20 hw) (by decide) (n := 3) (by decide) (by decide) (by decide) (by decide) e0 (hb hby d_jdk_52m16_1) (q := 3) rfl ?_
  intro T355 h355 k355 b355 g355 X355 e355 E355 V355
  have Va355 : Arv Z h355 b355 k355 .byte (3 : Int32) [(.int (0 : Int32)), (.int (0 : Int32)), (.int (0 : Int32))] (.int 0) := V355
  refine sA X355 hx (hb hby d_jdk_52m16_3) (q := 4) rfl rfl (Ls' := #[.val (.ref a1), .val (.int (0 : Int32)), .val (.int (3 : Int32)), .val (.ref b355), .unset, .unset]) rfl ?_
  refine aL X355 hx (hb hby d_jdk_52m16_4) (q := 5) rfl rfl rfl ?_
  refine iL X355 hx (hb hby d_jdk_52m16_5) (q := 6) rfl rfl ?_
  refine aL X355 hx (hb hby d_jdk_52m16_6) (q := 7) rfl rfl rfl ?_
  refine cI X355 hx (hb hby d_jdk_52m16_7) (q := 8) rfl (z := (0 : Int32)) rfl ?_
  refine iL X355 hx (hb hby d_jdk_52m16_8) (q := 9) rfl rfl ?_
  have f363 : Arv Z h355 a1 kc .char (3 : Int32) [(.int c0), (.int c1), (.int c2)] (.int 0) := P1.ext E355
  have gz364 : Z.heap.size ≤ b355 := Nat.le_trans O0.2.1 (Nat.le_of_eq g355.symm)
  have ne365 : a1 ≠ b355 := (Nat.ne_of_lt (Nat.lt_of_lt_of_le (Nat.lt_of_lt_of_le P1.lt (Nat.le_refl _)) (Nat.le_of_eq g355.symm)))
  have f366 : Old Z Z.heap.size h355 := O0.ext E355
  refine g_st X355 hx hZ0 hown0 (wd46 hw) (wd47 hw) (wd44 hw) (wd48 hw) (by decide) e355 (Con.back (W := 0) (rm_cmp5_3_1 l Z a0 hw zC SC PC vF rF SF SA SH SL a1 b355 kc k355 c0 c1 c2 h355 f366 f363 Va355 gz364 ne365 W0 W1) hZ0 (wd48 hw) (wd44 hw) (by decide) (by decide)) (by rw [hml]; rfl) (lenOf pd4 rfl) rfl (Nat.le_of_eq rfl) (hb hby d_jdk_52m16_9) (q := 12) rfl (by decide) (by decide) ?_
  intro v362 T362 L362 X362 Q362
  obtain ⟨rfl, Nq362, K362q⟩ := Q362
  have N362 := Fr.app N0 Nq362
  show Go _ _ _ _ (T362.setTop (mkF m 12 #[.val (.ref a1), .val (.int (0 : Int32)), .val (.int (3 : Int32)), .val (.ref b355), .unset, .unset] [(.int (1 : Int32))]))
  refine sIw X362 hx (hb hby d_jdk_52m16_12) (q := 14) rfl (Ls' := #[.val (.ref a1), .val (.int (0 : Int32)), .val (.int (3 : Int32)), .val (.ref b355), .val (.int (1 : Int32)), .unset]) rfl ?_
  refine iLw X362 hx (hb hby d_jdk_52m16_14) (q := 16) rfl rfl ?_
  refine iL X362 hx (hb hby d_jdk_52m16_16) (q := 17) rfl rfl ?_
  refine icN X362 hx (hb hby d_jdk_52m16_17) (q := 20) rfl (by decide) ?_
  refine aL X362 hx (hb hby d_jdk_52m16_20) (q := 21) rfl rfl rfl ?_
  refine iL X362 hx (hb hby d_jdk_52m16_21) (q := 22) rfl rfl ?_
  refine iL X362 hx (hb hby d_jdk_52m16_22) (q := 23) rfl rfl ?_
  have f369 : Arv Z T362.heap a1 kc .char (3 : Int32) [(.int c0), (.int c1), (.int c2)] (.int 0) := f363.keep K362q (ninS ne365 nin0)
  have f370 : Old Z Z.heap.size T362.heap := f366.keep K362q (allS gz364 all0)
  refine g_st X362 hx hZ0 hown0 (wd52 hw) (wd53 hw) (wd44 hw) (wd54 hw) (by decide) rfl (Con.back (W := 0) (rm_toB3 l Z a0 hw zC SC PC vF rF SF SA SH SL a1 kc c0 c1 c2 T362.heap f370 f369) hZ0 (wd54 hw) (wd44 hw) (by decide) (by decide)) (by rw [hml]; rfl) (lenOf pd5 rfl) rfl (Nat.le_of_eq rfl) (hb hby d_jdk_52m16_23) (q := 26) rfl (by decide) (by decide) ?_
  intro v368 T368 L368 X368 Q368
  obtain ⟨a_368, kb_368, rfl, Nq368, K368q, q368_0, q368_1⟩ := Q368
  have N368 := Fr.app N362 Nq368
  show Go _ _ _ _ (T368.setTop (mkF m 26 #[.val (.ref a1), .val (.int (0 : Int32)), .val (.int (3 : Int32)), .val (.ref b355), .val (.int (1 : Int32)), .unset] [(.ref a_368)]))
  refine sAw X368 hx (hb hby d_jdk_52m16_26) (q := 28) rfl rfl (Ls' := #[.val (.ref a1), .val (.int (0 : Int32)), .val (.int (3 : Int32)), .val (.ref b355), .val (.int (1 : Int32)), .val (.ref a_368)]) rfl ?_
  refine aLw X368 hx (hb hby d_jdk_52m16_28) (q := 30) rfl rfl rfl ?_
  refine iLw X368 hx (hb hby d_jdk_52m16_30) (q := 32) rfl rfl ?_
  have f372 : Old Z Z.heap.size T368.heap := f370.keep K368q all0
  refine g_st X368 hx hZ0 hown0 (wd68 hw) (wd69 hw) (wd44 hw) (wd70 hw) (by decide) rfl (Con.back (W := 0) (rm_get3_1 l Z a0 hw zC SC PC vF rF SF SA SH SL a_368 kb_368 c1 (StrChars.lo8 c0) (StrChars.hi8 c0) (StrChars.lo8 c2) (StrChars.hi8 c2) T368.heap f372 q368_1 H1 J1) hZ0 (wd70 hw) (wd44 hw) (by decide) (by decide)) (by rw [hml]; rfl) (lenOf pd6 rfl) rfl (Nat.le_of_eq rfl) (hb hby d_jdk_52m16_32) (q := 35) rfl (by decide) (by decide) ?_
  intro v371 T371 L371 X371 Q371
  obtain ⟨rfl, Nq371, e371⟩ := Q371
  have N371 := Fr.app N368 Nq371
  show Go _ _ _ _ (T371.setTop (mkF m 35 #[.val (.ref a1), .val (.int (0 : Int32)), .val (.int (3 : Int32)), .val (.ref b355), .val (.int (1 : Int32)), .val (.ref a_368)] [(.int c1)]))
  refine pI X371 hx (hb hby d_jdk_52m16_35) (q := 38) rfl (z := (255 : Int32)) rfl ?_
  refine icY X371 hx (hb hby d_jdk_52m16_38) (q := 54) (by decide) (by decide) (tlt W1).2.2.1 ?_
  refine aLw X371 hx (hb hby d_jdk_52m16_54) (q := 56) rfl rfl rfl ?_
  have K373 : Keep h0 h355 [] := (Keep.refl h0 []).ext E355
  have gh374 : h0.size ≤ b355 := Nat.le_trans (Nat.le_refl _) (Nat.le_of_eq g355.symm)
  have K375 : Keep h0 T362.heap [] := K373.trans K362q (allS (Or.inr gh374) all0)
  have K376 : Keep h0 T368.heap [] := K375.trans K368q all0
  have le378 : (h0).size ≤ (h355).size := E355.1
  have le379 : (h0).size ≤ (T362.heap).size := (Nat.le_trans le378 K362q.1)
  have gh377 : h0.size ≤ a_368 := Nat.le_trans le379 q368_0
  refine endP X371 hlk (fun h => by rw [hret] at h; cases h) (lastA X371 hx hret rfl rfl rfl (hb hby d_jdk_52m16_56)) ?_ (by decide) (by decide)
  rw [e371]
  exact ⟨a_368, kb_368, rfl, N371, K376, gh377, q368_1⟩
def Q_cmp5_3_2 (Z : State) (zC : Int32) (vF : Value) (a1 : Addr) (a2 : Addr) (kc : ClassId) (kb : ClassId) (c0 : Int32) (c1 : Int32) (c2 : Int32) (h0 : Heap) (v : Option Value) (h : Heap) (L : List Loc) : Prop := v = some (.int (2 : Int32)) ∧ Fr Z.heap.size L ∧ Keep h0 h [a2]
set_option maxRecDepth 65536 in
set_option maxHeartbeats 40000000 in
theorem rm_cmp5_3_2 (l : Launch) (Z : State) (a0 : Array Value) (hw : ∀ d ∈ tables_1, d.before a0 Z = true) (zC : Int32) (SC : Sta Z Z.heap "java/lang/String" "COMPACT_STRINGS" "Z" (.int zC)) (PC : ¬ zC = (0 : Int32)) (vF : Value) (rF : vF = .null ∨ ∃ a, vF = .ref a) (SF : Sta Z Z.heap "jdk/internal/util/Preconditions" "SIOOBE_FORMATTER" "Ljava/util/function/BiFunction;" vF) (SA : Sta Z Z.heap "java/lang/StringUTF16" "$assertionsDisabled" "Z" (.int (1 : Int32))) (SH : Sta Z Z.heap "java/lang/StringUTF16" "HI_BYTE_SHIFT" "I" (.int (0 : Int32))) (SL : Sta Z Z.heap "java/lang/StringUTF16" "LO_BYTE_SHIFT" "I" (.int (8 : Int32))) (a1 : Addr) (a2 : Addr) (kc : ClassId) (kb : ClassId) (c0 : Int32) (c1 : Int32) (c2 : Int32) (h0 : Heap) (O0 : Old Z Z.heap.size h0) (P1 : Arv Z h0 a1 kc .char (3 : Int32) [(.int c0), (.int c1), (.int c2)] (.int 0)) (P2 : Arv Z h0 a2 kb .byte (3 : Int32) [(.int (0 : Int32)), (.int (0 : Int32)), (.int (0 : Int32))] (.int 0)) (P3 : Z.heap.size ≤ a2) (P4 : a1 ≠ a2) (W0 : (¬ ((255 : Int32) < c0))) (W1 : (¬ ((255 : Int32) < c1))) (W2 : ((255 : Int32) < c2)) :
    Con l Z (⟨"java/lang/StringUTF16", "compress", "([CI[BII)I"⟩ : MethodName) jdk_52_method_21_code 7 (some .int) ({ frames := 0, cells := 0, slots := 0, locals := 0 } : Room) #[(.ref a1), (.int (0 : Int32)), (.ref a2), (.int (0 : Int32)), (.int (3 : Int32))] h0 (Q_cmp5_3_2 Z zC vF a1 a2 kc kb c0 c1 c2 h0) := by
  refine Con.intro pn2 ?_
  intro p e s m below meth c T0 X0 hx hby hml hown0 hnm hret hlk hZ0 e0
  have N0 := Fr.nil Z.heap.size
  refine castGo (g' := mkF m 0 #[.val (.ref a1), .val (.int (0 : Int32)), .val (.ref a2), .val (.int (0 : Int32)), .val (.int (3 : Int32)), .unset, .unset] []) (by first | rfl | (simp [entryFrame, mkF, argsToLocals, Value.category]; done)) ?_
  show Go _ _ _ _ (T0.setTop (mkF m 0 #[.val (.ref a1), .val (.int (0 : Int32)), .val (.ref a2), .val (.int (0 : Int32)), .val (.int (3 : Int32)), .unset, .unset] []))
  refine cI X0 hx (hb hby d_jdk_52m21_0) (q := 1) rfl (z := (0 : Int32)) rfl ?_
  refine sIw X0 hx (hb hby d_jdk_52m21_1) (q := 3) rfl (Ls' := #[.val (.ref a1), .val (.int (0 : Int32)), .val (.ref a2), .val (.int (0 : Int32)), .val (.int (3 : Int32)), .val (.int (0 : Int32)), .unset]) rfl ?_
  refine iLw X0 hx (hb hby d_jdk_52m21_3) (q := 5) rfl rfl ?_
  refine iLw X0 hx (hb hby d_jdk_52m21_5) (q := 7) rfl rfl ?_
  refine icN X0 hx (hb hby d_jdk_52m21_7) (q := 10) rfl (by decide) ?_
  refine aL X0 hx (hb hby d_jdk_52m21_10) (q := 11) rfl rfl rfl ?_
  refine iL X0 hx (hb hby d_jdk_52m21_11) (q := 12) rfl rfl ?_
  refine g_ldC X0 hx hZ0 P1 (i := 0) (by decide) (by decide) (by decide) (v := (.int c0)) rfl e0 (hb hby d_jdk_52m21_12) (q := 13) rfl ?_
  refine sIw X0 hx (hb hby d_jdk_52m21_13) (q := 15) rfl (Ls' := #[.val (.ref a1), .val (.int (0 : Int32)), .val (.ref a2), .val (.int (0 : Int32)), .val (.int (3 : Int32)), .val (.int (0 : Int32)), .val (.int c0)]) rfl ?_
  refine iLw X0 hx (hb hby d_jdk_52m21_15) (q := 17) rfl rfl ?_
  refine pI X0 hx (hb hby d_jdk_52m21_17) (q := 20) rfl (z := (255 : Int32)) rfl ?_
  refine icY X0 hx (hb hby d_jdk_52m21_20) (q := 26) (by decide) (by decide) (flt W0).2.2.2 ?_
  refine aL X0 hx (hb hby d_jdk_52m21_26) (q := 27) rfl rfl rfl ?_
  refine iL X0 hx (hb hby d_jdk_52m21_27) (q := 28) rfl rfl ?_
  refine iLw X0 hx (hb hby d_jdk_52m21_28) (q := 30) rfl rfl ?_
  refine g_i2b X0 hx (hb hby d_jdk_52m21_30) (q := 31) rfl (z := (StrChars.lo8 c0)) rfl ?_
  refine g_stB X0 hx hZ0 P2 (i := 0) (by decide) (by decide) (by decide) (Nat.le_of_ble_eq_true rfl) (y := (StrChars.lo8 c0)) (lo8_nar _) e0 (hb hby d_jdk_52m21_31) (q := 32) rfl ?_
  intro T380 h380 X380 e380 W380 V380
  have N380 := Fr.snoc X380 N0 P3
  have Va380 : Arv Z h380 a2 kb .byte (3 : Int32) [(.int (StrChars.lo8 c0)), (.int (0 : Int32)), (.int (0 : Int32))] (.int 0) := V380
  refine g_iinc X380 hx (hb hby d_jdk_52m21_32) (q := 35) rfl rfl (z := (1 : Int32)) (by decide) (Ls' := #[.val (.ref a1), .val (.int (1 : Int32)), .val (.ref a2), .val (.int (0 : Int32)), .val (.int (3 : Int32)), .val (.int (0 : Int32)), .val (.int c0)]) rfl ?_
  refine g_iinc X380 hx (hb hby d_jdk_52m21_35) (q := 38) rfl rfl (z := (1 : Int32)) (by decide) (Ls' := #[.val (.ref a1), .val (.int (1 : Int32)), .val (.ref a2), .val (.int (1 : Int32)), .val (.int (3 : Int32)), .val (.int (0 : Int32)), .val (.int c0)]) rfl ?_
  refine g_iinc X380 hx (hb hby d_jdk_52m21_38) (q := 41) rfl rfl (z := (1 : Int32)) (by decide) (Ls' := #[.val (.ref a1), .val (.int (1 : Int32)), .val (.ref a2), .val (.int (1 : Int32)), .val (.int (3 : Int32)), .val (.int (1 : Int32)), .val (.int c0)]) rfl ?_
  refine g_goto X380 hx (hb hby d_jdk_52m21_41) (q := 3) (by decide) (by decide) ?_
  refine iLw X380 hx (hb hby d_jdk_52m21_3) (q := 5) rfl rfl ?_
  refine iLw X380 hx (hb hby d_jdk_52m21_5) (q := 7) rfl rfl ?_
  refine icN X380 hx (hb hby d_jdk_52m21_7) (q := 10) rfl (by decide) ?_
  refine aL X380 hx (hb hby d_jdk_52m21_10) (q := 11) rfl rfl rfl ?_
  refine iL X380 hx (hb hby d_jdk_52m21_11) (q := 12) rfl rfl ?_
  have f381 : Arv Z h380 a1 kc .char (3 : Int32) [(.int c0), (.int c1), (.int c2)] (.int 0) := P1.other W380 P4
  refine g_ldC X380 hx hZ0 f381 (i := 1) (by decide) (by decide) (by decide) (v := (.int c1)) rfl e380 (hb hby d_jdk_52m21_12) (q := 13) rfl ?_
  refine sIw X380 hx (hb hby d_jdk_52m21_13) (q := 15) rfl (Ls' := #[.val (.ref a1), .val (.int (1 : Int32)), .val (.ref a2), .val (.int (1 : Int32)), .val (.int (3 : Int32)), .val (.int (1 : Int32)), .val (.int c1)]) rfl ?_
  refine iLw X380 hx (hb hby d_jdk_52m21_15) (q := 17) rfl rfl ?_
  refine pI X380 hx (hb hby d_jdk_52m21_17) (q := 20) rfl (z := (255 : Int32)) rfl ?_
  refine icY X380 hx (hb hby d_jdk_52m21_20) (q := 26) (by decide) (by decide) (flt W1).2.2.2 ?_
  refine aL X380 hx (hb hby d_jdk_52m21_26) (q := 27) rfl rfl rfl ?_
  refine iL X380 hx (hb hby d_jdk_52m21_27) (q := 28) rfl rfl ?_
  refine iLw X380 hx (hb hby d_jdk_52m21_28) (q := 30) rfl rfl ?_
  refine g_i2b X380 hx (hb hby d_jdk_52m21_30) (q := 31) rfl (z := (StrChars.lo8 c1)) rfl ?_
  refine g_stB X380 hx hZ0 Va380 (i := 1) (by decide) (by decide) (by decide) (Nat.le_of_ble_eq_true rfl) (y := (StrChars.lo8 c1)) (lo8_nar _) e380 (hb hby d_jdk_52m21_31) (q := 32) rfl ?_
  intro T382 h382 X382 e382 W382 V382
  have N382 := Fr.snoc X382 N380 P3
  have Va382 : Arv Z h382 a2 kb .byte (3 : Int32) [(.int (StrChars.lo8 c0)), (.int (StrChars.lo8 c1)), (.int (0 : Int32))] (.int 0) := V382
  refine g_iinc X382 hx (hb hby d_jdk_52m21_32) (q := 35) rfl rfl (z := (2 : Int32)) (by decide) (Ls' := #[.val (.ref a1), .val (.int (2 : Int32)), .val (.ref a2), .val (.int (1 : Int32)), .val (.int (3 : Int32)), .val (.int (1 : Int32)), .val (.int c1)]) rfl ?_
  refine g_iinc X382 hx (hb hby d_jdk_52m21_35) (q := 38) rfl rfl (z := (2 : Int32)) (by decide) (Ls' := #[.val (.ref a1), .val (.int (2 : Int32)), .val (.ref a2), .val (.int (2 : Int32)), .val (.int (3 : Int32)), .val (.int (1 : Int32)), .val (.int c1)]) rfl ?_
  refine g_iinc X382 hx (hb hby d_jdk_52m21_38) (q := 41) rfl rfl (z := (2 : Int32)) (by decide) (Ls' := #[.val (.ref a1), .val (.int (2 : Int32)), .val (.ref a2), .val (.int (2 : Int32)), .val (.int (3 : Int32)), .val (.int (2 : Int32)), .val (.int c1)]) rfl ?_
  refine g_goto X382 hx (hb hby d_jdk_52m21_41) (q := 3) (by decide) (by decide) ?_
  refine iLw X382 hx (hb hby d_jdk_52m21_3) (q := 5) rfl rfl ?_
  refine iLw X382 hx (hb hby d_jdk_52m21_5) (q := 7) rfl rfl ?_
  refine icN X382 hx (hb hby d_jdk_52m21_7) (q := 10) rfl (by decide) ?_
  refine aL X382 hx (hb hby d_jdk_52m21_10) (q := 11) rfl rfl rfl ?_
  refine iL X382 hx (hb hby d_jdk_52m21_11) (q := 12) rfl rfl ?_
  have f383 : Arv Z h382 a1 kc .char (3 : Int32) [(.int c0), (.int c1), (.int c2)] (.int 0) := f381.other W382 P4
  refine g_ldC X382 hx hZ0 f383 (i := 2) (by decide) (by decide) (by decide) (v := (.int c2)) rfl e382 (hb hby d_jdk_52m21_12) (q := 13) rfl ?_
  refine sIw X382 hx (hb hby d_jdk_52m21_13) (q := 15) rfl (Ls' := #[.val (.ref a1), .val (.int (2 : Int32)), .val (.ref a2), .val (.int (2 : Int32)), .val (.int (3 : Int32)), .val (.int (2 : Int32)), .val (.int c2)]) rfl ?_
  refine iLw X382 hx (hb hby d_jdk_52m21_15) (q := 17) rfl rfl ?_
  refine pI X382 hx (hb hby d_jdk_52m21_17) (q := 20) rfl (z := (255 : Int32)) rfl ?_
  refine icN X382 hx (hb hby d_jdk_52m21_20) (q := 23) rfl (tlt W2).2.2.2 ?_
  refine iLw X382 hx (hb hby d_jdk_52m21_23) (q := 25) rfl rfl ?_
  have K384 : Keep h0 h380 [a2] := (Keep.refl h0 [a2]).wr W380 (Or.inl (by simp))
  have K385 : Keep h0 h382 [a2] := K384.wr W382 (Or.inl (by simp))
  refine endP X382 hlk (fun h => by rw [hret] at h; cases h) (lastI X382 hx hret (hb hby d_jdk_52m21_25)) ?_ (by decide) (by decide)
  rw [e382]
  exact ⟨rfl, N382, K385⟩
def Q_cmp3_3_2 (Z : State) (zC : Int32) (vF : Value) (a1 : Addr) (kc : ClassId) (c0 : Int32) (c1 : Int32) (c2 : Int32) (h0 : Heap) (v : Option Value) (h : Heap) (L : List Loc) : Prop := ∃ (a : Addr), ∃ (kb : ClassId), v = some (.ref a) ∧ Fr Z.heap.size L ∧ Keep h0 h [] ∧ h0.size ≤ a ∧ Arv Z h a kb .byte (6 : Int32) [(.int (StrChars.lo8 c0)), (.int (StrChars.hi8 c0)), (.int (StrChars.lo8 c1)), (.int (StrChars.hi8 c1)), (.int (StrChars.lo8 c2)), (.int (StrChars.hi8 c2))] (.int 0)
set_option maxRecDepth 65536 in
set_option maxHeartbeats 40000000 in
theorem rm_cmp3_3_2 (l : Launch) (Z : State) (a0 : Array Value) (hw : ∀ d ∈ tables_1, d.before a0 Z = true) (zC : Int32) (SC : Sta Z Z.heap "java/lang/String" "COMPACT_STRINGS" "Z" (.int zC)) (PC : ¬ zC = (0 : Int32)) (vF : Value) (rF : vF = .null ∨ ∃ a, vF = .ref a) (SF : Sta Z Z.heap "jdk/internal/util/Preconditions" "SIOOBE_FORMATTER" "Ljava/util/function/BiFunction;" vF) (SA : Sta Z Z.heap "java/lang/StringUTF16" "$assertionsDisabled" "Z" (.int (1 : Int32))) (SH : Sta Z Z.heap "java/lang/StringUTF16" "HI_BYTE_SHIFT" "I" (.int (0 : Int32))) (SL : Sta Z Z.heap "java/lang/StringUTF16" "LO_BYTE_SHIFT" "I" (.int (8 : Int32))) (a1 : Addr) (kc : ClassId) (c0 : Int32) (c1 : Int32) (c2 : Int32) (h0 : Heap) (O0 : Old Z Z.heap.size h0) (P1 : Arv Z h0 a1 kc .char (3 : Int32) [(.int c0), (.int c1), (.int c2)] (.int 0)) (H0 : (¬ (c0 < (0 : Int32)))) (J0 : (¬ ((65535 : Int32) < c0))) (H1 : (¬ (c1 < (0 : Int32)))) (J1 : (¬ ((65535 : Int32) < c1))) (H2 : (¬ (c2 < (0 : Int32)))) (J2 : (¬ ((65535 : Int32) < c2))) (W0 : (¬ ((255 : Int32) < c0))) (W1 : (¬ ((255 : Int32) < c1))) (W2 : ((255 : Int32) < c2)) :
    Con l Z (⟨"java/lang/StringUTF16", "compress", "([CII)[B"⟩ : MethodName) jdk_52_method_16_code 6 (some (.array .byte)) ({ frames := 3, cells := 2, slots := 9, locals := 40 } : Room) #[(.ref a1), (.int (0 : Int32)), (.int (3 : Int32))] h0 (Q_cmp3_3_2 Z zC vF a1 kc c0 c1 c2 h0) := by
  refine Con.intro pn2 ?_
  intro p e s m below meth c T0 X0 hx hby hml hown0 hnm hret hlk hZ0 e0
  have N0 := Fr.nil Z.heap.size
  refine castGo (g' := mkF m 0 #[.val (.ref a1), .val (.int (0 : Int32)), .val (.int (3 : Int32)), .unset, .unset, .unset] []) (by first | rfl | (simp [entryFrame, mkF, argsToLocals, Value.category]; done)) ?_
  show Go _ _ _ _ (T0.setTop (mkF m 0 #[.val (.ref a1), .val (.int (0 : Int32)), .val (.int (3 : Int32)), .unset, .unset, .unset] []))
  refine iL X0 hx (hb hby d_jdk_52m16_0) (q := 1) rfl rfl ?_
  refine g_newA X0 hx hZ0 (aty := .byte) (wd20 hw) (by decide) (n := 3) (by decide) (by decide) (by decide) (by decide) e0 (hb hby d_jdk_52m16_1) (q := 3) rfl ?_
  intro T386 h386 k386 b386 g386 X386 e386 E386 V386
  have Va386 : Arv Z h386 b386 k386 .byte (3 : Int32) [(.int (0 : Int32)), (.int (0 : Int32)), (.int (0 : Int32))] (.int 0) := V386
  refine sA X386 hx (hb hby d_jdk_52m16_3) (q := 4) rfl rfl (Ls' := #[.val (.ref a1), .val (.int (0 : Int32)), .val (.int (3 : Int32)), .val (.ref b386), .unset, .unset]) rfl ?_
  refine aL X386 hx (hb hby d_jdk_52m16_4) (q := 5) rfl rfl rfl ?_
  refine iL X386 hx (hb hby d_jdk_52m16_5) (q := 6) rfl rfl ?_
  refine aL X386 hx (hb hby d_jdk_52m16_6) (q := 7) rfl rfl rfl ?_
  refine cI X386 hx (hb hby d_jdk_52m16_7) (q := 8) rfl (z := (0 : Int32)) rfl ?_
  refine iL X386 hx (hb hby d_jdk_52m16_8) (q := 9) rfl rfl ?_
  have f397 : Arv Z h386 a1 kc .char (3 : Int32) [(.int c0), (.int c1), (.int c2)] (.int 0) := P1.ext E386
  have gz398 : Z.heap.size ≤ b386 := Nat.le_trans O0.2.1 (Nat.le_of_eq g386.symm)
  have ne399 : a1 ≠ b386 := (Nat.ne_of_lt (Nat.lt_of_lt_of_le (Nat.lt_of_lt_of_le P1.lt (Nat.le_refl _)) (Nat.le_of_eq g386.symm)))
  have f400 : Old Z Z.heap.size h386 := O0.ext E386
  refine g_st X386 hx hZ0 hown0 (wd46 hw) (wd47 hw) (wd44 hw) (wd48 hw) (by decide) e386 (Con.back (W := 0) (rm_cmp5_3_2 l Z a0 hw zC SC PC vF rF SF SA SH SL a1 b386 kc k386 c0 c1 c2 h386 f400 f397 Va386 gz398 ne399 W0 W1 W2) hZ0 (wd48 hw) (wd44 hw) (by decide) (by decide)) (by rw [hml]; rfl) (lenOf pd4 rfl) rfl (Nat.le_of_eq rfl) (hb hby d_jdk_52m16_9) (q := 12) rfl (by decide) (by decide) ?_
  intro v396 T396 L396 X396 Q396
  obtain ⟨rfl, Nq396, K396q⟩ := Q396
  have N396 := Fr.app N0 Nq396
  show Go _ _ _ _ (T396.setTop (mkF m 12 #[.val (.ref a1), .val (.int (0 : Int32)), .val (.int (3 : Int32)), .val (.ref b386), .unset, .unset] [(.int (2 : Int32))]))
  refine sIw X396 hx (hb hby d_jdk_52m16_12) (q := 14) rfl (Ls' := #[.val (.ref a1), .val (.int (0 : Int32)), .val (.int (3 : Int32)), .val (.ref b386), .val (.int (2 : Int32)), .unset]) rfl ?_
  refine iLw X396 hx (hb hby d_jdk_52m16_14) (q := 16) rfl rfl ?_
  refine iL X396 hx (hb hby d_jdk_52m16_16) (q := 17) rfl rfl ?_
  refine icN X396 hx (hb hby d_jdk_52m16_17) (q := 20) rfl (by decide) ?_
  refine aL X396 hx (hb hby d_jdk_52m16_20) (q := 21) rfl rfl rfl ?_
  refine iL X396 hx (hb hby d_jdk_52m16_21) (q := 22) rfl rfl ?_
  refine iL X396 hx (hb hby d_jdk_52m16_22) (q := 23) rfl rfl ?_
  have f403 : Arv Z T396.heap a1 kc .char (3 : Int32) [(.int c0), (.int c1), (.int c2)] (.int 0) := f397.keep K396q (ninS ne399 nin0)
  have f404 : Old Z Z.heap.size T396.heap := f400.keep K396q (allS gz398 all0)
  refine g_st X396 hx hZ0 hown0 (wd52 hw) (wd53 hw) (wd44 hw) (wd54 hw) (by decide) rfl (Con.back (W := 0) (rm_toB3 l Z a0 hw zC SC PC vF rF SF SA SH SL a1 kc c0 c1 c2 T396.heap f404 f403) hZ0 (wd54 hw) (wd44 hw) (by decide) (by decide)) (by rw [hml]; rfl) (lenOf pd5 rfl) rfl (Nat.le_of_eq rfl) (hb hby d_jdk_52m16_23) (q := 26) rfl (by decide) (by decide) ?_
  intro v402 T402 L402 X402 Q402
  obtain ⟨a_402, kb_402, rfl, Nq402, K402q, q402_0, q402_1⟩ := Q402
  have N402 := Fr.app N396 Nq402
  show Go _ _ _ _ (T402.setTop (mkF m 26 #[.val (.ref a1), .val (.int (0 : Int32)), .val (.int (3 : Int32)), .val (.ref b386), .val (.int (2 : Int32)), .unset] [(.ref a_402)]))
  refine sAw X402 hx (hb hby d_jdk_52m16_26) (q := 28) rfl rfl (Ls' := #[.val (.ref a1), .val (.int (0 : Int32)), .val (.int (3 : Int32)), .val (.ref b386), .val (.int (2 : Int32)), .val (.ref a_402)]) rfl ?_
  refine aLw X402 hx (hb hby d_jdk_52m16_28) (q := 30) rfl rfl rfl ?_
  refine iLw X402 hx (hb hby d_jdk_52m16_30) (q := 32) rfl rfl ?_
  have f406 : Old Z Z.heap.size T402.heap := f404.keep K402q all0
  refine g_st X402 hx hZ0 hown0 (wd68 hw) (wd69 hw) (wd44 hw) (wd70 hw) (by decide) rfl (Con.back (W := 0) (rm_get3_2 l Z a0 hw zC SC PC vF rF SF SA SH SL a_402 kb_402 c2 (StrChars.lo8 c0) (StrChars.hi8 c0) (StrChars.lo8 c1) (StrChars.hi8 c1) T402.heap f406 q402_1 H2 J2) hZ0 (wd70 hw) (wd44 hw) (by decide) (by decide)) (by rw [hml]; rfl) (lenOf pd6 rfl) rfl (Nat.le_of_eq rfl) (hb hby d_jdk_52m16_32) (q := 35) rfl (by decide) (by decide) ?_
  intro v405 T405 L405 X405 Q405
  obtain ⟨rfl, Nq405, e405⟩ := Q405
  have N405 := Fr.app N402 Nq405
  show Go _ _ _ _ (T405.setTop (mkF m 35 #[.val (.ref a1), .val (.int (0 : Int32)), .val (.int (3 : Int32)), .val (.ref b386), .val (.int (2 : Int32)), .val (.ref a_402)] [(.int c2)]))
  refine pI X405 hx (hb hby d_jdk_52m16_35) (q := 38) rfl (z := (255 : Int32)) rfl ?_
  refine icY X405 hx (hb hby d_jdk_52m16_38) (q := 54) (by decide) (by decide) (tlt W2).2.2.1 ?_
  refine aLw X405 hx (hb hby d_jdk_52m16_54) (q := 56) rfl rfl rfl ?_
  have K407 : Keep h0 h386 [] := (Keep.refl h0 []).ext E386
  have gh408 : h0.size ≤ b386 := Nat.le_trans (Nat.le_refl _) (Nat.le_of_eq g386.symm)
  have K409 : Keep h0 T396.heap [] := K407.trans K396q (allS (Or.inr gh408) all0)
  have K410 : Keep h0 T402.heap [] := K409.trans K402q all0
  have le412 : (h0).size ≤ (h386).size := E386.1
  have le413 : (h0).size ≤ (T396.heap).size := (Nat.le_trans le412 K396q.1)
  have gh411 : h0.size ≤ a_402 := Nat.le_trans le413 q402_0
  refine endP X405 hlk (fun h => by rw [hret] at h; cases h) (lastA X405 hx hret rfl rfl rfl (hb hby d_jdk_52m16_56)) ?_ (by decide) (by decide)
  rw [e405]
  exact ⟨a_402, kb_402, rfl, N405, K410, gh411, q402_1⟩
def Q_cfa3 (Z : State) (zC : Int32) (vF : Value) (a1 : Addr) (kb : ClassId) (vs : List Value) (h0 : Heap) (v : Option Value) (h : Heap) (L : List Loc) : Prop := v = some (.int (1 : Int32)) ∧ Fr Z.heap.size L ∧ h = h0
set_option maxRecDepth 65536 in
set_option maxHeartbeats 40000000 in
theorem rm_cfa3 (l : Launch) (Z : State) (a0 : Array Value) (hw : ∀ d ∈ tables_1, d.before a0 Z = true) (zC : Int32) (SC : Sta Z Z.heap "java/lang/String" "COMPACT_STRINGS" "Z" (.int zC)) (PC : ¬ zC = (0 : Int32)) (vF : Value) (rF : vF = .null ∨ ∃ a, vF = .ref a) (SF : Sta Z Z.heap "jdk/internal/util/Preconditions" "SIOOBE_FORMATTER" "Ljava/util/function/BiFunction;" vF) (SA : Sta Z Z.heap "java/lang/StringUTF16" "$assertionsDisabled" "Z" (.int (1 : Int32))) (SH : Sta Z Z.heap "java/lang/StringUTF16" "HI_BYTE_SHIFT" "I" (.int (0 : Int32))) (SL : Sta Z Z.heap "java/lang/StringUTF16" "LO_BYTE_SHIFT" "I" (.int (8 : Int32))) (a1 : Addr) (kb : ClassId) (vs : List Value) (h0 : Heap) (O0 : Old Z Z.heap.size h0) (P1 : Arv Z h0 a1 kb .byte (6 : Int32) vs (.int 0)) :
    Con l Z (⟨"java/lang/StringUTF16", "coderFromArrayLen", "([BI)B"⟩ : MethodName) jdk_52_method_15_code 2 (some .byte) ({ frames := 0, cells := 0, slots := 0, locals := 0 } : Room) #[(.ref a1), (.int (3 : Int32))] h0 (Q_cfa3 Z zC vF a1 kb vs h0) := by
  refine Con.intro pn2 ?_
  intro p e s m below meth c T0 X0 hx hby hml hown0 hnm hret hlk hZ0 e0
  have N0 := Fr.nil Z.heap.size
  refine castGo (g' := mkF m 0 #[.val (.ref a1), .val (.int (3 : Int32))] []) (by first | rfl | (simp [entryFrame, mkF, argsToLocals, Value.category]; done)) ?_
  show Go _ _ _ _ (T0.setTop (mkF m 0 #[.val (.ref a1), .val (.int (3 : Int32))] []))
  refine iL X0 hx (hb hby d_jdk_52m15_0) (q := 1) rfl rfl ?_
  refine aL X0 hx (hb hby d_jdk_52m15_1) (q := 2) rfl rfl rfl ?_
  refine g_len X0 hx hZ0 P1 e0 (hb hby d_jdk_52m15_2) (q := 3) rfl ?_
  refine g_isub X0 hx (hb hby d_jdk_52m15_3) (q := 4) rfl (z := (-3 : Int32)) (by decide) ?_
  refine bI X0 hx (hb hby d_jdk_52m15_4) (q := 6) rfl (z := (31 : Int32)) rfl ?_
  refine g_iushr X0 hx (hb hby d_jdk_52m15_6) (q := 7) rfl (z := (1 : Int32)) (by decide) ?_
  refine g_i2b X0 hx (hb hby d_jdk_52m15_7) (q := 8) rfl (z := (1 : Int32)) (by decide) ?_
  refine endP X0 hlk (fun h => by rw [hret] at h; cases h) (lastN X0 hx (t := .byte) (z' := (1 : Int32)) hret (by simp) (by decide) (hb hby d_jdk_52m15_8)) ?_ (by decide) (by decide)
  rw [e0]
  exact ⟨rfl, N0, rfl⟩
def Q_new4w_3_0 (Z : State) (zC : Int32) (vF : Value) (a1 : Addr) (a2 : Addr) (kc : ClassId) (c0 : Int32) (c1 : Int32) (c2 : Int32) (h0 : Heap) (v : Option Value) (h : Heap) (L : List Loc) : Prop := ∃ (t : Addr), ∃ (kb : ClassId), v = none ∧ Fr Z.heap.size L ∧ Keep h0 h [a1] ∧ h0.size ≤ t ∧ Exa Z h a1 "java/lang/String" ∧ Fld Z h a1 "java/lang/String" "value" "[B" (.ref t) ∧ Fld Z h a1 "java/lang/String" "coder" "B" (.int (1 : Int32)) ∧ Arv Z h t kb .byte (6 : Int32) [(.int (StrChars.lo8 c0)), (.int (StrChars.hi8 c0)), (.int (StrChars.lo8 c1)), (.int (StrChars.hi8 c1)), (.int (StrChars.lo8 c2)), (.int (StrChars.hi8 c2))] (.int 0)
set_option maxRecDepth 65536 in
set_option maxHeartbeats 40000000 in
theorem rm_new4w_3_0 (l : Launch) (Z : State) (a0 : Array Value) (hw : ∀ d ∈ tables_1, d.before a0 Z = true) (zC : Int32) (SC : Sta Z Z.heap "java/lang/String" "COMPACT_STRINGS" "Z" (.int zC)) (PC : ¬ zC = (0 : Int32)) (vF : Value) (rF : vF = .null ∨ ∃ a, vF = .ref a) (SF : Sta Z Z.heap "jdk/internal/util/Preconditions" "SIOOBE_FORMATTER" "Ljava/util/function/BiFunction;" vF) (SA : Sta Z Z.heap "java/lang/StringUTF16" "$assertionsDisabled" "Z" (.int (1 : Int32))) (SH : Sta Z Z.heap "java/lang/StringUTF16" "HI_BYTE_SHIFT" "I" (.int (0 : Int32))) (SL : Sta Z Z.heap "java/lang/StringUTF16" "LO_BYTE_SHIFT" "I" (.int (8 : Int32))) (a1 : Addr) (a2 : Addr) (kc : ClassId) (c0 : Int32) (c1 : Int32) (c2 : Int32) (h0 : Heap) (O0 : Old Z Z.heap.size h0) (P1 : Exa Z h0 a1 "java/lang/String") (P2 : Fld Z h0 a1 "java/lang/String" "value" "[B" .null) (P3 : Fld Z h0 a1 "java/lang/String" "coder" "B" (.int (0 : Int32))) (P4 : Z.heap.size ≤ a1) (P5 : Arv Z h0 a2 kc .char (3 : Int32) [(.int c0), (.int c1), (.int c2)] (.int 0)) (H0 : (¬ (c0 < (0 : Int32)))) (J0 : (¬ ((65535 : Int32) < c0))) (H1 : (¬ (c1 < (0 : Int32)))) (J1 : (¬ ((65535 : Int32) < c1))) (H2 : (¬ (c2 < (0 : Int32)))) (J2 : (¬ ((65535 : Int32) < c2))) (W0 : ((255 : Int32) < c0)) :
    Con l Z (⟨"java/lang/String", "<init>", "([CIILjava/lang/Void;)V"⟩ : MethodName) jdk_42_method_149_code 6 none ({ frames := 4, cells := 2, slots := 9, locals := 57 } : Room) #[(.ref a1), (.ref a2), (.int (0 : Int32)), (.int (3 : Int32)), .null] h0 (Q_new4w_3_0 Z zC vF a1 a2 kc c0 c1 c2 h0) := by
  refine Con.intro pn0 ?_
  intro p e s m below meth c T0 X0 hx hby hml hown0 hnm hret hlk hZ0 e0
  have N0 := Fr.nil Z.heap.size
  refine castGo (g' := mkF m 0 #[.val (.ref a1), .val (.ref a2), .val (.int (0 : Int32)), .val (.int (3 : Int32)), .val .null, .unset] []) (by first | rfl | (simp [entryFrame, mkF, argsToLocals, Value.category]; done)) ?_
  show Go _ _ _ _ (T0.setTop (mkF m 0 #[.val (.ref a1), .val (.ref a2), .val (.int (0 : Int32)), .val (.int (3 : Int32)), .val .null, .unset] []))
  refine aL X0 hx (hb hby d_jdk_42m149_0) (q := 1) rfl rfl rfl ?_
  refine g_init0 X0 hx hZ0 hown0 (wd16 hw) (wd17 hw) (wd18 hw) (by rw [hml]; rfl) (by decide) (W := 0) (Nat.le_of_eq rfl) (by decide) e0 (hb hby d_jdk_42m149_1) (q := 4) rfl ?_
  intro T414 X414 e414
  refine iL X414 hx (hb hby d_jdk_42m149_4) (q := 5) rfl rfl ?_
  refine ifY X414 hx (hb hby d_jdk_42m149_5) (q := 27) (by decide) (by decide) (by decide) ?_
  refine g_getS X414 hx hZ0 hown0 (host := "") (Or.inl (wd41 hw)) Via.refl (SC.ext O0.2) e414 (hb hby d_jdk_42m149_27) (q := 30) rfl ?_
  intro T415 X415 e415
  refine ifN X415 hx (hb hby d_jdk_42m149_30) (q := 33) rfl ((if0 _ _).trans (feq PC).1) ?_
  refine aL X415 hx (hb hby d_jdk_42m149_33) (q := 34) rfl rfl rfl ?_
  refine iL X415 hx (hb hby d_jdk_42m149_34) (q := 35) rfl rfl ?_
  refine iL X415 hx (hb hby d_jdk_42m149_35) (q := 36) rfl rfl ?_
  refine g_st X415 hx hZ0 hown0 (wd42 hw) (wd43 hw) (wd44 hw) (wd45 hw) (by decide) e415 (Con.back (W := 0) (rm_cmp3_3_0 l Z a0 hw zC SC PC vF rF SF SA SH SL a2 kc c0 c1 c2 h0 O0 P5 H0 J0 H1 J1 H2 J2 W0) hZ0 (wd45 hw) (wd44 hw) (by decide) (by decide)) (by rw [hml]; rfl) (lenOf pd5 rfl) rfl (Nat.le_of_eq rfl) (hb hby d_jdk_42m149_36) (q := 39) rfl (by decide) (by decide) ?_
  intro v416 T416 L416 X416 Q416
  obtain ⟨a_416, kb_416, rfl, Nq416, K416q, q416_0, q416_1⟩ := Q416
  have N416 := Fr.app N0 Nq416
  show Go _ _ _ _ (T416.setTop (mkF m 39 #[.val (.ref a1), .val (.ref a2), .val (.int (0 : Int32)), .val (.int (3 : Int32)), .val .null, .unset] [(.ref a_416)]))
  refine sAw X416 hx (hb hby d_jdk_42m149_39) (q := 41) rfl rfl (Ls' := #[.val (.ref a1), .val (.ref a2), .val (.int (0 : Int32)), .val (.int (3 : Int32)), .val .null, .val (.ref a_416)]) rfl ?_
  refine aL X416 hx (hb hby d_jdk_42m149_41) (q := 42) rfl rfl rfl ?_
  refine aLw X416 hx (hb hby d_jdk_42m149_42) (q := 44) rfl rfl rfl ?_
  refine iL X416 hx (hb hby d_jdk_42m149_44) (q := 45) rfl rfl ?_
  have f418 : Old Z Z.heap.size T416.heap := O0.keep K416q all0
  refine g_st X416 hx hZ0 hown0 (wd49 hw) (wd50 hw) (wd44 hw) (wd51 hw) (by decide) rfl (Con.back (W := 1) (rm_cfa3 l Z a0 hw zC SC PC vF rF SF SA SH SL a_416 kb_416 [(.int (StrChars.lo8 c0)), (.int (StrChars.hi8 c0)), (.int (StrChars.lo8 c1)), (.int (StrChars.hi8 c1)), (.int (StrChars.lo8 c2)), (.int (StrChars.hi8 c2))] T416.heap f418 q416_1) hZ0 (wd51 hw) (wd44 hw) (by decide) (by decide)) (by rw [hml]; rfl) (lenOf pd7 rfl) rfl (Nat.le_of_eq rfl) (hb hby d_jdk_42m149_45) (q := 48) rfl (by decide) (by decide) ?_
  intro v417 T417 L417 X417 Q417
  obtain ⟨rfl, Nq417, e417⟩ := Q417
  have N417 := Fr.app N416 Nq417
  show Go _ _ _ _ (T417.setTop (mkF m 48 #[.val (.ref a1), .val (.ref a2), .val (.int (0 : Int32)), .val (.int (3 : Int32)), .val .null, .val (.ref a_416)] [(.int (1 : Int32)), (.ref a1)]))
  have f419 : Fld Z T416.heap a1 "java/lang/String" "coder" "B" (.int (0 : Int32)) := P3.keep K416q nin0
  have f420 : Exa Z T416.heap a1 "java/lang/String" := P1.keep K416q
  refine g_putF X417 hx hZ0 hown0 (host := "") (Or.inl (wd26 hw)) Via.refl f419 f420 (Or.inr ⟨(wd22 hw), rfl, hnm⟩) (wd2 hw) (ty := .byte) (by decide) rfl rfl e417 (hb hby d_jdk_42m149_48) (q := 51) rfl ?_
  intro T421 h421 X421 e421 W421
  have N421 := Fr.snoc X421 N417 P4
  have Fw421 : Fld Z h421 a1 "java/lang/String" "coder" "B" (.int (1 : Int32)) := f419.same W421
  refine aL X421 hx (hb hby d_jdk_42m149_51) (q := 52) rfl rfl rfl ?_
  refine aLw X421 hx (hb hby d_jdk_42m149_52) (q := 54) rfl rfl rfl ?_
  have f422 : Fld Z T416.heap a1 "java/lang/String" "value" "[B" .null := P2.keep K416q nin0
  have f423 : Fld Z h421 a1 "java/lang/String" "value" "[B" .null := f422.other W421 (Or.inr (slot_ne (Or.inr (wd21 hw)) (Or.inr (wd22 hw)) (by decide) (t := (.array .byte)) (t' := .byte) (by decide) (by decide)))
  have f424 : Exa Z h421 a1 "java/lang/String" := f420.wr W421
  refine g_putF X421 hx hZ0 hown0 (host := "") (Or.inl (wd25 hw)) Via.refl f423 f424 (Or.inr ⟨(wd21 hw), rfl, hnm⟩) (wd2 hw) (ty := (.array .byte)) (by decide) rfl rfl e421 (hb hby d_jdk_42m149_54) (q := 57) rfl ?_
  intro T425 h425 X425 e425 W425
  have N425 := Fr.snoc X425 N421 P4
  have Fw425 : Fld Z h425 a1 "java/lang/String" "value" "[B" (.ref a_416) := f423.same W425
  have K426 : Keep h0 T416.heap [a1] := (Keep.refl h0 [a1]).trans K416q all0
  have K427 : Keep h0 h421 [a1] := K426.wr W421 (Or.inl (by simp))
  have K428 : Keep h0 h425 [a1] := K427.wr W425 (Or.inl (by simp))
  have gh429 : h0.size ≤ a_416 := Nat.le_trans (Nat.le_refl _) q416_0
  have f430 : Exa Z h425 a1 "java/lang/String" := f424.wr W425
  have f431 : Fld Z h425 a1 "java/lang/String" "coder" "B" (.int (1 : Int32)) := Fw421.other W425 (Or.inr (slot_ne (Or.inr (wd22 hw)) (Or.inr (wd21 hw)) (by decide) (t := .byte) (t' := (.array .byte)) (by decide) (by decide)))
  have ne432 : a_416 ≠ a1 := (Nat.ne_of_gt (Nat.lt_of_lt_of_le (Nat.lt_of_lt_of_le P1.lt (Nat.le_refl _)) q416_0))
  have f433 : Arv Z h421 a_416 kb_416 .byte (6 : Int32) [(.int (StrChars.lo8 c0)), (.int (StrChars.hi8 c0)), (.int (StrChars.lo8 c1)), (.int (StrChars.hi8 c1)), (.int (StrChars.lo8 c2)), (.int (StrChars.hi8 c2))] (.int 0) := q416_1.other W421 ne432
  have f434 : Arv Z h425 a_416 kb_416 .byte (6 : Int32) [(.int (StrChars.lo8 c0)), (.int (StrChars.hi8 c0)), (.int (StrChars.lo8 c1)), (.int (StrChars.hi8 c1)), (.int (StrChars.lo8 c2)), (.int (StrChars.hi8 c2))] (.int 0) := f433.other W425 ne432
  refine endP X425 hlk (fun _ => rfl) (lastV X425 hx hret (hb hby d_jdk_42m149_57)) ?_ (by decide) (by decide)
  rw [e425]
  exact ⟨a_416, kb_416, rfl, N425, K428, gh429, f430, Fw425, f431, f434⟩
def Q_new1w_3_0 (Z : State) (zC : Int32) (vF : Value) (a1 : Addr) (a2 : Addr) (kc : ClassId) (c0 : Int32) (c1 : Int32) (c2 : Int32) (h0 : Heap) (v : Option Value) (h : Heap) (L : List Loc) : Prop := ∃ (t : Addr), ∃ (kb : ClassId), v = none ∧ Fr Z.heap.size L ∧ Keep h0 h [a1] ∧ h0.size ≤ t ∧ Exa Z h a1 "java/lang/String" ∧ Fld Z h a1 "java/lang/String" "value" "[B" (.ref t) ∧ Fld Z h a1 "java/lang/String" "coder" "B" (.int (1 : Int32)) ∧ Arv Z h t kb .byte (6 : Int32) [(.int (StrChars.lo8 c0)), (.int (StrChars.hi8 c0)), (.int (StrChars.lo8 c1)), (.int (StrChars.hi8 c1)), (.int (StrChars.lo8 c2)), (.int (StrChars.hi8 c2))] (.int 0)
set_option maxRecDepth 65536 in
set_option maxHeartbeats 40000000 in
theorem rm_new1w_3_0 (l : Launch) (Z : State) (a0 : Array Value) (hw : ∀ d ∈ tables_1, d.before a0 Z = true) (zC : Int32) (SC : Sta Z Z.heap "java/lang/String" "COMPACT_STRINGS" "Z" (.int zC)) (PC : ¬ zC = (0 : Int32)) (vF : Value) (rF : vF = .null ∨ ∃ a, vF = .ref a) (SF : Sta Z Z.heap "jdk/internal/util/Preconditions" "SIOOBE_FORMATTER" "Ljava/util/function/BiFunction;" vF) (SA : Sta Z Z.heap "java/lang/StringUTF16" "$assertionsDisabled" "Z" (.int (1 : Int32))) (SH : Sta Z Z.heap "java/lang/StringUTF16" "HI_BYTE_SHIFT" "I" (.int (0 : Int32))) (SL : Sta Z Z.heap "java/lang/StringUTF16" "LO_BYTE_SHIFT" "I" (.int (8 : Int32))) (a1 : Addr) (a2 : Addr) (kc : ClassId) (c0 : Int32) (c1 : Int32) (c2 : Int32) (h0 : Heap) (O0 : Old Z Z.heap.size h0) (P1 : Exa Z h0 a1 "java/lang/String") (P2 : Fld Z h0 a1 "java/lang/String" "value" "[B" .null) (P3 : Fld Z h0 a1 "java/lang/String" "coder" "B" (.int (0 : Int32))) (P4 : Z.heap.size ≤ a1) (P5 : Arv Z h0 a2 kc .char (3 : Int32) [(.int c0), (.int c1), (.int c2)] (.int 0)) (H0 : (¬ (c0 < (0 : Int32)))) (J0 : (¬ ((65535 : Int32) < c0))) (H1 : (¬ (c1 < (0 : Int32)))) (J1 : (¬ ((65535 : Int32) < c1))) (H2 : (¬ (c2 < (0 : Int32)))) (J2 : (¬ ((65535 : Int32) < c2))) (W0 : ((255 : Int32) < c0)) :
    Con l Z (⟨"java/lang/String", "<init>", "([C)V"⟩ : MethodName) jdk_42_method_3_code 2 none ({ frames := 5, cells := 2, slots := 9, locals := 74 } : Room) #[(.ref a1), (.ref a2)] h0 (Q_new1w_3_0 Z zC vF a1 a2 kc c0 c1 c2 h0) := by
  refine Con.intro pn0 ?_
  intro p e s m below meth c T0 X0 hx hby hml hown0 hnm hret hlk hZ0 e0
  have N0 := Fr.nil Z.heap.size
  refine castGo (g' := mkF m 0 #[.val (.ref a1), .val (.ref a2)] []) (by first | rfl | (simp [entryFrame, mkF, argsToLocals, Value.category]; done)) ?_
  show Go _ _ _ _ (T0.setTop (mkF m 0 #[.val (.ref a1), .val (.ref a2)] []))
  refine aL X0 hx (hb hby d_jdk_42m3_0) (q := 1) rfl rfl rfl ?_
  refine aL X0 hx (hb hby d_jdk_42m3_1) (q := 2) rfl rfl rfl ?_
  refine cI X0 hx (hb hby d_jdk_42m3_2) (q := 3) rfl (z := (0 : Int32)) rfl ?_
  refine aL X0 hx (hb hby d_jdk_42m3_3) (q := 4) rfl rfl rfl ?_
  refine g_len X0 hx hZ0 P5 e0 (hb hby d_jdk_42m3_4) (q := 5) rfl ?_
  refine cN X0 hx (hb hby d_jdk_42m3_5) (q := 6) rfl ?_
  refine g_sp X0 hx hZ0 hown0 (wd12 hw) (wd13 hw) (wd15 hw) rfl (by decide) e0 (Con.back (W := 0) (rm_new4w_3_0 l Z a0 hw zC SC PC vF rF SF SA SH SL a1 a2 kc c0 c1 c2 h0 O0 P1 P2 P3 P4 P5 H0 J0 H1 J1 H2 J2 W0) hZ0 (wd15 hw) (wd3 hw) (by decide) (by decide)) (by rw [hml]; rfl) (lenOf pd0 rfl) rfl (Nat.le_of_eq rfl) (hb hby d_jdk_42m3_6) (q := 9) rfl (by decide) (by decide) ?_
  intro v435 T435 L435 X435 Q435
  obtain ⟨t_435, kb_435, rfl, Nq435, K435q, q435_0, q435_1, q435_2, q435_3, q435_4⟩ := Q435
  have N435 := Fr.app N0 Nq435
  show Go _ _ _ _ (T435.setTop (mkF m 9 #[.val (.ref a1), .val (.ref a2)] []))
  have K436 : Keep h0 T435.heap [a1] := (Keep.refl h0 [a1]).trans K435q (allS (Or.inl (by simp)) all0)
  have gh437 : h0.size ≤ t_435 := Nat.le_trans (Nat.le_refl _) q435_0
  refine endP X435 hlk (fun _ => rfl) (lastV X435 hx hret (hb hby d_jdk_42m3_9)) ?_ (by decide) (by decide)
  exact ⟨t_435, kb_435, rfl, N435, K436, gh437, q435_1, q435_2, q435_3, q435_4⟩
def Q_new4w_3_1 (Z : State) (zC : Int32) (vF : Value) (a1 : Addr) (a2 : Addr) (kc : ClassId) (c0 : Int32) (c1 : Int32) (c2 : Int32) (h0 : Heap) (v : Option Value) (h : Heap) (L : List Loc) : Prop := ∃ (t : Addr), ∃ (kb : ClassId), v = none ∧ Fr Z.heap.size L ∧ Keep h0 h [a1] ∧ h0.size ≤ t ∧ Exa Z h a1 "java/lang/String" ∧ Fld Z h a1 "java/lang/String" "value" "[B" (.ref t) ∧ Fld Z h a1 "java/lang/String" "coder" "B" (.int (1 : Int32)) ∧ Arv Z h t kb .byte (6 : Int32) [(.int (StrChars.lo8 c0)), (.int (StrChars.hi8 c0)), (.int (StrChars.lo8 c1)), (.int (StrChars.hi8 c1)), (.int (StrChars.lo8 c2)), (.int (StrChars.hi8 c2))] (.int 0)
set_option maxRecDepth 65536 in
set_option maxHeartbeats 40000000 in
theorem rm_new4w_3_1 (l : Launch) (Z : State) (a0 : Array Value) (hw : ∀ d ∈ tables_1, d.before a0 Z = true) (zC : Int32) (SC : Sta Z Z.heap "java/lang/String" "COMPACT_STRINGS" "Z" (.int zC)) (PC : ¬ zC = (0 : Int32)) (vF : Value) (rF : vF = .null ∨ ∃ a, vF = .ref a) (SF : Sta Z Z.heap "jdk/internal/util/Preconditions" "SIOOBE_FORMATTER" "Ljava/util/function/BiFunction;" vF) (SA : Sta Z Z.heap "java/lang/StringUTF16" "$assertionsDisabled" "Z" (.int (1 : Int32))) (SH : Sta Z Z.heap "java/lang/StringUTF16" "HI_BYTE_SHIFT" "I" (.int (0 : Int32))) (SL : Sta Z Z.heap "java/lang/StringUTF16" "LO_BYTE_SHIFT" "I" (.int (8 : Int32))) (a1 : Addr) (a2 : Addr) (kc : ClassId) (c0 : Int32) (c1 : Int32) (c2 : Int32) (h0 : Heap) (O0 : Old Z Z.heap.size h0) (P1 : Exa Z h0 a1 "java/lang/String") (P2 : Fld Z h0 a1 "java/lang/String" "value" "[B" .null) (P3 : Fld Z h0 a1 "java/lang/String" "coder" "B" (.int (0 : Int32))) (P4 : Z.heap.size ≤ a1) (P5 : Arv Z h0 a2 kc .char (3 : Int32) [(.int c0), (.int c1), (.int c2)] (.int 0)) (H0 : (¬ (c0 < (0 : Int32)))) (J0 : (¬ ((65535 : Int32) < c0))) (H1 : (¬ (c1 < (0 : Int32)))) (J1 : (¬ ((65535 : Int32) < c1))) (H2 : (¬ (c2 < (0 : Int32)))) (J2 : (¬ ((65535 : Int32) < c2))) (W0 : (¬ ((255 : Int32) < c0))) (W1 : ((255 : Int32) < c1)) :
    Con l Z (⟨"java/lang/String", "<init>", "([CIILjava/lang/Void;)V"⟩ : MethodName) jdk_42_method_149_code 6 none ({ frames := 4, cells := 2, slots := 9, locals := 57 } : Room) #[(.ref a1), (.ref a2), (.int (0 : Int32)), (.int (3 : Int32)), .null] h0 (Q_new4w_3_1 Z zC vF a1 a2 kc c0 c1 c2 h0) := by
  refine Con.intro pn0 ?_
  intro p e s m below meth c T0 X0 hx hby hml hown0 hnm hret hlk hZ0 e0
  have N0 := Fr.nil Z.heap.size
  refine castGo (g' := mkF m 0 #[.val (.ref a1), .val (.ref a2), .val (.int (0 : Int32)), .val (.int (3 : Int32)), .val .null, .unset] []) (by first | rfl | (simp [entryFrame, mkF, argsToLocals, Value.category]; done)) ?_
  show Go _ _ _ _ (T0.setTop (mkF m 0 #[.val (.ref a1), .val (.ref a2), .val (.int (0 : Int32)), .val (.int (3 : Int32)), .val .null, .unset] []))
  refine aL X0 hx (hb hby d_jdk_42m149_0) (q := 1) rfl rfl rfl ?_
  refine g_init0 X0 hx hZ0 hown0 (wd16 hw) (wd17 hw) (wd18 hw) (by rw [hml]; rfl) (by decide) (W := 0) (Nat.le_of_eq rfl) (by decide) e0 (hb hby d_jdk_42m149_1) (q := 4) rfl ?_
  intro T438 X438 e438
  refine iL X438 hx (hb hby d_jdk_42m149_4) (q := 5) rfl rfl ?_
  refine ifY X438 hx (hb hby d_jdk_42m149_5) (q := 27) (by decide) (by decide) (by decide) ?_
  refine g_getS X438 hx hZ0 hown0 (host := "") (Or.inl (wd41 hw)) Via.refl (SC.ext O0.2) e438 (hb hby d_jdk_42m149_27) (q := 30) rfl ?_
  intro T439 X439 e439
  refine ifN X439 hx (hb hby d_jdk_42m149_30) (q := 33) rfl ((if0 _ _).trans (feq PC).1) ?_
  refine aL X439 hx (hb hby d_jdk_42m149_33) (q := 34) rfl rfl rfl ?_
  refine iL X439 hx (hb hby d_jdk_42m149_34) (q := 35) rfl rfl ?_
  refine iL X439 hx (hb hby d_jdk_42m149_35) (q := 36) rfl rfl ?_
  refine g_st X439 hx hZ0 hown0 (wd42 hw) (wd43 hw) (wd44 hw) (wd45 hw) (by decide) e439 (Con.back (W := 0) (rm_cmp3_3_1 l Z a0 hw zC SC PC vF rF SF SA SH SL a2 kc c0 c1 c2 h0 O0 P5 H0 J0 H1 J1 H2 J2 W0 W1) hZ0 (wd45 hw) (wd44 hw) (by decide) (by decide)) (by rw [hml]; rfl) (lenOf pd5 rfl) rfl (Nat.le_of_eq rfl) (hb hby d_jdk_42m149_36) (q := 39) rfl (by decide) (by decide) ?_
  intro v440 T440 L440 X440 Q440
  obtain ⟨a_440, kb_440, rfl, Nq440, K440q, q440_0, q440_1⟩ := Q440
  have N440 := Fr.app N0 Nq440
  show Go _ _ _ _ (T440.setTop (mkF m 39 #[.val (.ref a1), .val (.ref a2), .val (.int (0 : Int32)), .val (.int (3 : Int32)), .val .null, .unset] [(.ref a_440)]))
  refine sAw X440 hx (hb hby d_jdk_42m149_39) (q := 41) rfl rfl (Ls' := #[.val (.ref a1), .val (.ref a2), .val (.int (0 : Int32)), .val (.int (3 : Int32)), .val .null, .val (.ref a_440)]) rfl ?_
  refine aL X440 hx (hb hby d_jdk_42m149_41) (q := 42) rfl rfl rfl ?_
  refine aLw X440 hx (hb hby d_jdk_42m149_42) (q := 44) rfl rfl rfl ?_
  refine iL X440 hx (hb hby d_jdk_42m149_44) (q := 45) rfl rfl ?_
  have f442 : Old Z Z.heap.size T440.heap := O0.keep K440q all0
  refine g_st X440 hx hZ0 hown0 (wd49 hw) (wd50 hw) (wd44 hw) (wd51 hw) (by decide) rfl (Con.back (W := 1) (rm_cfa3 l Z a0 hw zC SC PC vF rF SF SA SH SL a_440 kb_440 [(.int (StrChars.lo8 c0)), (.int (StrChars.hi8 c0)), (.int (StrChars.lo8 c1)), (.int (StrChars.hi8 c1)), (.int (StrChars.lo8 c2)), (.int (StrChars.hi8 c2))] T440.heap f442 q440_1) hZ0 (wd51 hw) (wd44 hw) (by decide) (by decide)) (by rw [hml]; rfl) (lenOf pd7 rfl) rfl (Nat.le_of_eq rfl) (hb hby d_jdk_42m149_45) (q := 48) rfl (by decide) (by decide) ?_
  intro v441 T441 L441 X441 Q441
  obtain ⟨rfl, Nq441, e441⟩ := Q441
  have N441 := Fr.app N440 Nq441
  show Go _ _ _ _ (T441.setTop (mkF m 48 #[.val (.ref a1), .val (.ref a2), .val (.int (0 : Int32)), .val (.int (3 : Int32)), .val .null, .val (.ref a_440)] [(.int (1 : Int32)), (.ref a1)]))
  have f443 : Fld Z T440.heap a1 "java/lang/String" "coder" "B" (.int (0 : Int32)) := P3.keep K440q nin0
  have f444 : Exa Z T440.heap a1 "java/lang/String" := P1.keep K440q
  refine g_putF X441 hx hZ0 hown0 (host := "") (Or.inl (wd26 hw)) Via.refl f443 f444 (Or.inr ⟨(wd22 hw), rfl, hnm⟩) (wd2 hw) (ty := .byte) (by decide) rfl rfl e441 (hb hby d_jdk_42m149_48) (q := 51) rfl ?_
  intro T445 h445 X445 e445 W445
  have N445 := Fr.snoc X445 N441 P4
  have Fw445 : Fld Z h445 a1 "java/lang/String" "coder" "B" (.int (1 : Int32)) := f443.same W445
  refine aL X445 hx (hb hby d_jdk_42m149_51) (q := 52) rfl rfl rfl ?_
  refine aLw X445 hx (hb hby d_jdk_42m149_52) (q := 54) rfl rfl rfl ?_
  have f446 : Fld Z T440.heap a1 "java/lang/String" "value" "[B" .null := P2.keep K440q nin0
  have f447 : Fld Z h445 a1 "java/lang/String" "value" "[B" .null := f446.other W445 (Or.inr (slot_ne (Or.inr (wd21 hw)) (Or.inr (wd22 hw)) (by decide) (t := (.array .byte)) (t' := .byte) (by decide) (by decide)))
  have f448 : Exa Z h445 a1 "java/lang/String" := f444.wr W445
  refine g_putF X445 hx hZ0 hown0 (host := "") (Or.inl (wd25 hw)) Via.refl f447 f448 (Or.inr ⟨(wd21 hw), rfl, hnm⟩) (wd2 hw) (ty := (.array .byte)) (by decide) rfl rfl e445 (hb hby d_jdk_42m149_54) (q := 57) rfl ?_
  intro T449 h449 X449 e449 W449
  have N449 := Fr.snoc X449 N445 P4
  have Fw449 : Fld Z h449 a1 "java/lang/String" "value" "[B" (.ref a_440) := f447.same W449
  have K450 : Keep h0 T440.heap [a1] := (Keep.refl h0 [a1]).trans K440q all0
  have K451 : Keep h0 h445 [a1] := K450.wr W445 (Or.inl (by simp))
  have K452 : Keep h0 h449 [a1] := K451.wr W449 (Or.inl (by simp))
  have gh453 : h0.size ≤ a_440 := Nat.le_trans (Nat.le_refl _) q440_0
  have f454 : Exa Z h449 a1 "java/lang/String" := f448.wr W449
  have f455 : Fld Z h449 a1 "java/lang/String" "coder" "B" (.int (1 : Int32)) := Fw445.other W449 (Or.inr (slot_ne (Or.inr (wd22 hw)) (Or.inr (wd21 hw)) (by decide) (t := .byte) (t' := (.array .byte)) (by decide) (by decide)))
  have ne456 : a_440 ≠ a1 := (Nat.ne_of_gt (Nat.lt_of_lt_of_le (Nat.lt_of_lt_of_le P1.lt (Nat.le_refl _)) q440_0))
  have f457 : Arv Z h445 a_440 kb_440 .byte (6 : Int32) [(.int (StrChars.lo8 c0)), (.int (StrChars.hi8 c0)), (.int (StrChars.lo8 c1)), (.int (StrChars.hi8 c1)), (.int (StrChars.lo8 c2)), (.int (StrChars.hi8 c2))] (.int 0) := q440_1.other W445 ne456
  have f458 : Arv Z h449 a_440 kb_440 .byte (6 : Int32) [(.int (StrChars.lo8 c0)), (.int (StrChars.hi8 c0)), (.int (StrChars.lo8 c1)), (.int (StrChars.hi8 c1)), (.int (StrChars.lo8 c2)), (.int (StrChars.hi8 c2))] (.int 0) := f457.other W449 ne456
  refine endP X449 hlk (fun _ => rfl) (lastV X449 hx hret (hb hby d_jdk_42m149_57)) ?_ (by decide) (by decide)
  rw [e449]
  exact ⟨a_440, kb_440, rfl, N449, K452, gh453, f454, Fw449, f455, f458⟩
def Q_new1w_3_1 (Z : State) (zC : Int32) (vF : Value) (a1 : Addr) (a2 : Addr) (kc : ClassId) (c0 : Int32) (c1 : Int32) (c2 : Int32) (h0 : Heap) (v : Option Value) (h : Heap) (L : List Loc) : Prop := ∃ (t : Addr), ∃ (kb : ClassId), v = none ∧ Fr Z.heap.size L ∧ Keep h0 h [a1] ∧ h0.size ≤ t ∧ Exa Z h a1 "java/lang/String" ∧ Fld Z h a1 "java/lang/String" "value" "[B" (.ref t) ∧ Fld Z h a1 "java/lang/String" "coder" "B" (.int (1 : Int32)) ∧ Arv Z h t kb .byte (6 : Int32) [(.int (StrChars.lo8 c0)), (.int (StrChars.hi8 c0)), (.int (StrChars.lo8 c1)), (.int (StrChars.hi8 c1)), (.int (StrChars.lo8 c2)), (.int (StrChars.hi8 c2))] (.int 0)
set_option maxRecDepth 65536 in
set_option maxHeartbeats 40000000 in
theorem rm_new1w_3_1 (l : Launch) (Z : State) (a0 : Array Value) (hw : ∀ d ∈ tables_1, d.before a0 Z = true) (zC : Int32) (SC : Sta Z Z.heap "java/lang/String" "COMPACT_STRINGS" "Z" (.int zC)) (PC : ¬ zC = (0 : Int32)) (vF : Value) (rF : vF = .null ∨ ∃ a, vF = .ref a) (SF : Sta Z Z.heap "jdk/internal/util/Preconditions" "SIOOBE_FORMATTER" "Ljava/util/function/BiFunction;" vF) (SA : Sta Z Z.heap "java/lang/StringUTF16" "$assertionsDisabled" "Z" (.int (1 : Int32))) (SH : Sta Z Z.heap "java/lang/StringUTF16" "HI_BYTE_SHIFT" "I" (.int (0 : Int32))) (SL : Sta Z Z.heap "java/lang/StringUTF16" "LO_BYTE_SHIFT" "I" (.int (8 : Int32))) (a1 : Addr) (a2 : Addr) (kc : ClassId) (c0 : Int32) (c1 : Int32) (c2 : Int32) (h0 : Heap) (O0 : Old Z Z.heap.size h0) (P1 : Exa Z h0 a1 "java/lang/String") (P2 : Fld Z h0 a1 "java/lang/String" "value" "[B" .null) (P3 : Fld Z h0 a1 "java/lang/String" "coder" "B" (.int (0 : Int32))) (P4 : Z.heap.size ≤ a1) (P5 : Arv Z h0 a2 kc .char (3 : Int32) [(.int c0), (.int c1), (.int c2)] (.int 0)) (H0 : (¬ (c0 < (0 : Int32)))) (J0 : (¬ ((65535 : Int32) < c0))) (H1 : (¬ (c1 < (0 : Int32)))) (J1 : (¬ ((65535 : Int32) < c1))) (H2 : (¬ (c2 < (0 : Int32)))) (J2 : (¬ ((65535 : Int32) < c2))) (W0 : (¬ ((255 : Int32) < c0))) (W1 : ((255 : Int32) < c1)) :
    Con l Z (⟨"java/lang/String", "<init>", "([C)V"⟩ : MethodName) jdk_42_method_3_code 2 none ({ frames := 5, cells := 2, slots := 9, locals := 74 } : Room) #[(.ref a1), (.ref a2)] h0 (Q_new1w_3_1 Z zC vF a1 a2 kc c0 c1 c2 h0) := by
  refine Con.intro pn0 ?_
  intro p e s m below meth c T0 X0 hx hby hml hown0 hnm hret hlk hZ0 e0
  have N0 := Fr.nil Z.heap.size
  refine castGo (g' := mkF m 0 #[.val (.ref a1), .val (.ref a2)] []) (by first | rfl | (simp [entryFrame, mkF, argsToLocals, Value.category]; done)) ?_
  show Go _ _ _ _ (T0.setTop (mkF m 0 #[.val (.ref a1), .val (.ref a2)] []))
  refine aL X0 hx (hb hby d_jdk_42m3_0) (q := 1) rfl rfl rfl ?_
  refine aL X0 hx (hb hby d_jdk_42m3_1) (q := 2) rfl rfl rfl ?_
  refine cI X0 hx (hb hby d_jdk_42m3_2) (q := 3) rfl (z := (0 : Int32)) rfl ?_
  refine aL X0 hx (hb hby d_jdk_42m3_3) (q := 4) rfl rfl rfl ?_
  refine g_len X0 hx hZ0 P5 e0 (hb hby d_jdk_42m3_4) (q := 5) rfl ?_
  refine cN X0 hx (hb hby d_jdk_42m3_5) (q := 6) rfl ?_
  refine g_sp X0 hx hZ0 hown0 (wd12 hw) (wd13 hw) (wd15 hw) rfl (by decide) e0 (Con.back (W := 0) (rm_new4w_3_1 l Z a0 hw zC SC PC vF rF SF SA SH SL a1 a2 kc c0 c1 c2 h0 O0 P1 P2 P3 P4 P5 H0 J0 H1 J1 H2 J2 W0 W1) hZ0 (wd15 hw) (wd3 hw) (by decide) (by decide)) (by rw [hml]; rfl) (lenOf pd0 rfl) rfl (Nat.le_of_eq rfl) (hb hby d_jdk_42m3_6) (q := 9) rfl (by decide) (by decide) ?_
  intro v459 T459 L459 X459 Q459
  obtain ⟨t_459, kb_459, rfl, Nq459, K459q, q459_0, q459_1, q459_2, q459_3, q459_4⟩ := Q459
  have N459 := Fr.app N0 Nq459
  show Go _ _ _ _ (T459.setTop (mkF m 9 #[.val (.ref a1), .val (.ref a2)] []))
  have K460 : Keep h0 T459.heap [a1] := (Keep.refl h0 [a1]).trans K459q (allS (Or.inl (by simp)) all0)
  have gh461 : h0.size ≤ t_459 := Nat.le_trans (Nat.le_refl _) q459_0
  refine endP X459 hlk (fun _ => rfl) (lastV X459 hx hret (hb hby d_jdk_42m3_9)) ?_ (by decide) (by decide)
  exact ⟨t_459, kb_459, rfl, N459, K460, gh461, q459_1, q459_2, q459_3, q459_4⟩
def Q_new4w_3_2 (Z : State) (zC : Int32) (vF : Value) (a1 : Addr) (a2 : Addr) (kc : ClassId) (c0 : Int32) (c1 : Int32) (c2 : Int32) (h0 : Heap) (v : Option Value) (h : Heap) (L : List Loc) : Prop := ∃ (t : Addr), ∃ (kb : ClassId), v = none ∧ Fr Z.heap.size L ∧ Keep h0 h [a1] ∧ h0.size ≤ t ∧ Exa Z h a1 "java/lang/String" ∧ Fld Z h a1 "java/lang/String" "value" "[B" (.ref t) ∧ Fld Z h a1 "java/lang/String" "coder" "B" (.int (1 : Int32)) ∧ Arv Z h t kb .byte (6 : Int32) [(.int (StrChars.lo8 c0)), (.int (StrChars.hi8 c0)), (.int (StrChars.lo8 c1)), (.int (StrChars.hi8 c1)), (.int (StrChars.lo8 c2)), (.int (StrChars.hi8 c2))] (.int 0)
set_option maxRecDepth 65536 in
set_option maxHeartbeats 40000000 in
theorem rm_new4w_3_2 (l : Launch) (Z : State) (a0 : Array Value) (hw : ∀ d ∈ tables_1, d.before a0 Z = true) (zC : Int32) (SC : Sta Z Z.heap "java/lang/String" "COMPACT_STRINGS" "Z" (.int zC)) (PC : ¬ zC = (0 : Int32)) (vF : Value) (rF : vF = .null ∨ ∃ a, vF = .ref a) (SF : Sta Z Z.heap "jdk/internal/util/Preconditions" "SIOOBE_FORMATTER" "Ljava/util/function/BiFunction;" vF) (SA : Sta Z Z.heap "java/lang/StringUTF16" "$assertionsDisabled" "Z" (.int (1 : Int32))) (SH : Sta Z Z.heap "java/lang/StringUTF16" "HI_BYTE_SHIFT" "I" (.int (0 : Int32))) (SL : Sta Z Z.heap "java/lang/StringUTF16" "LO_BYTE_SHIFT" "I" (.int (8 : Int32))) (a1 : Addr) (a2 : Addr) (kc : ClassId) (c0 : Int32) (c1 : Int32) (c2 : Int32) (h0 : Heap) (O0 : Old Z Z.heap.size h0) (P1 : Exa Z h0 a1 "java/lang/String") (P2 : Fld Z h0 a1 "java/lang/String" "value" "[B" .null) (P3 : Fld Z h0 a1 "java/lang/String" "coder" "B" (.int (0 : Int32))) (P4 : Z.heap.size ≤ a1) (P5 : Arv Z h0 a2 kc .char (3 : Int32) [(.int c0), (.int c1), (.int c2)] (.int 0)) (H0 : (¬ (c0 < (0 : Int32)))) (J0 : (¬ ((65535 : Int32) < c0))) (H1 : (¬ (c1 < (0 : Int32)))) (J1 : (¬ ((65535 : Int32) < c1))) (H2 : (¬ (c2 < (0 : Int32)))) (J2 : (¬ ((65535 : Int32) < c2))) (W0 : (¬ ((255 : Int32) < c0))) (W1 : (¬ ((255 : Int32) < c1))) (W2 : ((255 : Int32) < c2)) :
    Con l Z (⟨"java/lang/String", "<init>", "([CIILjava/lang/Void;)V"⟩ : MethodName) jdk_42_method_149_code 6 none ({ frames := 4, cells := 2, slots := 9, locals := 57 } : Room) #[(.ref a1), (.ref a2), (.int (0 : Int32)), (.int (3 : Int32)), .null] h0 (Q_new4w_3_2 Z zC vF a1 a2 kc c0 c1 c2 h0) := by
  refine Con.intro pn0 ?_
  intro p e s m below meth c T0 X0 hx hby hml hown0 hnm hret hlk hZ0 e0
  have N0 := Fr.nil Z.heap.size
  refine castGo (g' := mkF m 0 #[.val (.ref a1), .val (.ref a2), .val (.int (0 : Int32)), .val (.int (3 : Int32)), .val .null, .unset] []) (by first | rfl | (simp [entryFrame, mkF, argsToLocals, Value.category]; done)) ?_
  show Go _ _ _ _ (T0.setTop (mkF m 0 #[.val (.ref a1), .val (.ref a2), .val (.int (0 : Int32)), .val (.int (3 : Int32)), .val .null, .unset] []))
  refine aL X0 hx (hb hby d_jdk_42m149_0) (q := 1) rfl rfl rfl ?_
  refine g_init0 X0 hx hZ0 hown0 (wd16 hw) (wd17 hw) (wd18 hw) (by rw [hml]; rfl) (by decide) (W := 0) (Nat.le_of_eq rfl) (by decide) e0 (hb hby d_jdk_42m149_1) (q := 4) rfl ?_
  intro T462 X462 e462
  refine iL X462 hx (hb hby d_jdk_42m149_4) (q := 5) rfl rfl ?_
  refine ifY X462 hx (hb hby d_jdk_42m149_5) (q := 27) (by decide) (by decide) (by decide) ?_
  refine g_getS X462 hx hZ0 hown0 (host := "") (Or.inl (wd41 hw)) Via.refl (SC.ext O0.2) e462 (hb hby d_jdk_42m149_27) (q := 30) rfl ?_
  intro T463 X463 e463
  refine ifN X463 hx (hb hby d_jdk_42m149_30) (q := 33) rfl ((if0 _ _).trans (feq PC).1) ?_
  refine aL X463 hx (hb hby d_jdk_42m149_33) (q := 34) rfl rfl rfl ?_
  refine iL X463 hx (hb hby d_jdk_42m149_34) (q := 35) rfl rfl ?_
  refine iL X463 hx (hb hby d_jdk_42m149_35) (q := 36) rfl rfl ?_
  refine g_st X463 hx hZ0 hown0 (wd42 hw) (wd43 hw) (wd44 hw) (wd45 hw) (by decide) e463 (Con.back (W := 0) (rm_cmp3_3_2 l Z a0 hw zC SC PC vF rF SF SA SH SL a2 kc c0 c1 c2 h0 O0 P5 H0 J0 H1 J1 H2 J2 W0 W1 W2) hZ0 (wd45 hw) (wd44 hw) (by decide) (by decide)) (by rw [hml]; rfl) (lenOf pd5 rfl) rfl (Nat.le_of_eq rfl) (hb hby d_jdk_42m149_36) (q := 39) rfl (by decide) (by decide) ?_
  intro v464 T464 L464 X464 Q464
  obtain ⟨a_464, kb_464, rfl, Nq464, K464q, q464_0, q464_1⟩ := Q464
  have N464 := Fr.app N0 Nq464
  show Go _ _ _ _ (T464.setTop (mkF m 39 #[.val (.ref a1), .val (.ref a2), .val (.int (0 : Int32)), .val (.int (3 : Int32)), .val .null, .unset] [(.ref a_464)]))
  refine sAw X464 hx (hb hby d_jdk_42m149_39) (q := 41) rfl rfl (Ls' := #[.val (.ref a1), .val (.ref a2), .val (.int (0 : Int32)), .val (.int (3 : Int32)), .val .null, .val (.ref a_464)]) rfl ?_
  refine aL X464 hx (hb hby d_jdk_42m149_41) (q := 42) rfl rfl rfl ?_
  refine aLw X464 hx (hb hby d_jdk_42m149_42) (q := 44) rfl rfl rfl ?_
  refine iL X464 hx (hb hby d_jdk_42m149_44) (q := 45) rfl rfl ?_
  have f466 : Old Z Z.heap.size T464.heap := O0.keep K464q all0
  refine g_st X464 hx hZ0 hown0 (wd49 hw) (wd50 hw) (wd44 hw) (wd51 hw) (by decide) rfl (Con.back (W := 1) (rm_cfa3 l Z a0 hw zC SC PC vF rF SF SA SH SL a_464 kb_464 [(.int (StrChars.lo8 c0)), (.int (StrChars.hi8 c0)), (.int (StrChars.lo8 c1)), (.int (StrChars.hi8 c1)), (.int (StrChars.lo8 c2)), (.int (StrChars.hi8 c2))] T464.heap f466 q464_1) hZ0 (wd51 hw) (wd44 hw) (by decide) (by decide)) (by rw [hml]; rfl) (lenOf pd7 rfl) rfl (Nat.le_of_eq rfl) (hb hby d_jdk_42m149_45) (q := 48) rfl (by decide) (by decide) ?_
  intro v465 T465 L465 X465 Q465
  obtain ⟨rfl, Nq465, e465⟩ := Q465
  have N465 := Fr.app N464 Nq465
  show Go _ _ _ _ (T465.setTop (mkF m 48 #[.val (.ref a1), .val (.ref a2), .val (.int (0 : Int32)), .val (.int (3 : Int32)), .val .null, .val (.ref a_464)] [(.int (1 : Int32)), (.ref a1)]))
  have f467 : Fld Z T464.heap a1 "java/lang/String" "coder" "B" (.int (0 : Int32)) := P3.keep K464q nin0
  have f468 : Exa Z T464.heap a1 "java/lang/String" := P1.keep K464q
  refine g_putF X465 hx hZ0 hown0 (host := "") (Or.inl (wd26 hw)) Via.refl f467 f468 (Or.inr ⟨(wd22 hw), rfl, hnm⟩) (wd2 hw) (ty := .byte) (by decide) rfl rfl e465 (hb hby d_jdk_42m149_48) (q := 51) rfl ?_
  intro T469 h469 X469 e469 W469
  have N469 := Fr.snoc X469 N465 P4
  have Fw469 : Fld Z h469 a1 "java/lang/String" "coder" "B" (.int (1 : Int32)) := f467.same W469
  refine aL X469 hx (hb hby d_jdk_42m149_51) (q := 52) rfl rfl rfl ?_
  refine aLw X469 hx (hb hby d_jdk_42m149_52) (q := 54) rfl rfl rfl ?_
  have f470 : Fld Z T464.heap a1 "java/lang/String" "value" "[B" .null := P2.keep K464q nin0
  have f471 : Fld Z h469 a1 "java/lang/String" "value" "[B" .null := f470.other W469 (Or.inr (slot_ne (Or.inr (wd21 hw)) (Or.inr (wd22 hw)) (by decide) (t := (.array .byte)) (t' := .byte) (by decide) (by decide)))
  have f472 : Exa Z h469 a1 "java/lang/String" := f468.wr W469
  refine g_putF X469 hx hZ0 hown0 (host := "") (Or.inl (wd25 hw)) Via.refl f471 f472 (Or.inr ⟨(wd21 hw), rfl, hnm⟩) (wd2 hw) (ty := (.array .byte)) (by decide) rfl rfl e469 (hb hby d_jdk_42m149_54) (q := 57) rfl ?_
  intro T473 h473 X473 e473 W473
  have N473 := Fr.snoc X473 N469 P4
  have Fw473 : Fld Z h473 a1 "java/lang/String" "value" "[B" (.ref a_464) := f471.same W473
  have K474 : Keep h0 T464.heap [a1] := (Keep.refl h0 [a1]).trans K464q all0
  have K475 : Keep h0 h469 [a1] := K474.wr W469 (Or.inl (by simp))
  have K476 : Keep h0 h473 [a1] := K475.wr W473 (Or.inl (by simp))
  have gh477 : h0.size ≤ a_464 := Nat.le_trans (Nat.le_refl _) q464_0
  have f478 : Exa Z h473 a1 "java/lang/String" := f472.wr W473
  have f479 : Fld Z h473 a1 "java/lang/String" "coder" "B" (.int (1 : Int32)) := Fw469.other W473 (Or.inr (slot_ne (Or.inr (wd22 hw)) (Or.inr (wd21 hw)) (by decide) (t := .byte) (t' := (.array .byte)) (by decide) (by decide)))
  have ne480 : a_464 ≠ a1 := (Nat.ne_of_gt (Nat.lt_of_lt_of_le (Nat.lt_of_lt_of_le P1.lt (Nat.le_refl _)) q464_0))
  have f481 : Arv Z h469 a_464 kb_464 .byte (6 : Int32) [(.int (StrChars.lo8 c0)), (.int (StrChars.hi8 c0)), (.int (StrChars.lo8 c1)), (.int (StrChars.hi8 c1)), (.int (StrChars.lo8 c2)), (.int (StrChars.hi8 c2))] (.int 0) := q464_1.other W469 ne480
  have f482 : Arv Z h473 a_464 kb_464 .byte (6 : Int32) [(.int (StrChars.lo8 c0)), (.int (StrChars.hi8 c0)), (.int (StrChars.lo8 c1)), (.int (StrChars.hi8 c1)), (.int (StrChars.lo8 c2)), (.int (StrChars.hi8 c2))] (.int 0) := f481.other W473 ne480
  refine endP X473 hlk (fun _ => rfl) (lastV X473 hx hret (hb hby d_jdk_42m149_57)) ?_ (by decide) (by decide)
  rw [e473]
  exact ⟨a_464, kb_464, rfl, N473, K476, gh477, f478, Fw473, f479, f482⟩
def Q_new1w_3_2 (Z : State) (zC : Int32) (vF : Value) (a1 : Addr) (a2 : Addr) (kc : ClassId) (c0 : Int32) (c1 : Int32) (c2 : Int32) (h0 : Heap) (v : Option Value) (h : Heap) (L : List Loc) : Prop := ∃ (t : Addr), ∃ (kb : ClassId), v = none ∧ Fr Z.heap.size L ∧ Keep h0 h [a1] ∧ h0.size ≤ t ∧ Exa Z h a1 "java/lang/String" ∧ Fld Z h a1 "java/lang/String" "value" "[B" (.ref t) ∧ Fld Z h a1 "java/lang/String" "coder" "B" (.int (1 : Int32)) ∧ Arv Z h t kb .byte (6 : Int32) [(.int (StrChars.lo8 c0)), (.int (StrChars.hi8 c0)), (.int (StrChars.lo8 c1)), (.int (StrChars.hi8 c1)), (.int (StrChars.lo8 c2)), (.int (StrChars.hi8 c2))] (.int 0)
set_option maxRecDepth 65536 in
set_option maxHeartbeats 40000000 in
theorem rm_new1w_3_2 (l : Launch) (Z : State) (a0 : Array Value) (hw : ∀ d ∈ tables_1, d.before a0 Z = true) (zC : Int32) (SC : Sta Z Z.heap "java/lang/String" "COMPACT_STRINGS" "Z" (.int zC)) (PC : ¬ zC = (0 : Int32)) (vF : Value) (rF : vF = .null ∨ ∃ a, vF = .ref a) (SF : Sta Z Z.heap "jdk/internal/util/Preconditions" "SIOOBE_FORMATTER" "Ljava/util/function/BiFunction;" vF) (SA : Sta Z Z.heap "java/lang/StringUTF16" "$assertionsDisabled" "Z" (.int (1 : Int32))) (SH : Sta Z Z.heap "java/lang/StringUTF16" "HI_BYTE_SHIFT" "I" (.int (0 : Int32))) (SL : Sta Z Z.heap "java/lang/StringUTF16" "LO_BYTE_SHIFT" "I" (.int (8 : Int32))) (a1 : Addr) (a2 : Addr) (kc : ClassId) (c0 : Int32) (c1 : Int32) (c2 : Int32) (h0 : Heap) (O0 : Old Z Z.heap.size h0) (P1 : Exa Z h0 a1 "java/lang/String") (P2 : Fld Z h0 a1 "java/lang/String" "value" "[B" .null) (P3 : Fld Z h0 a1 "java/lang/String" "coder" "B" (.int (0 : Int32))) (P4 : Z.heap.size ≤ a1) (P5 : Arv Z h0 a2 kc .char (3 : Int32) [(.int c0), (.int c1), (.int c2)] (.int 0)) (H0 : (¬ (c0 < (0 : Int32)))) (J0 : (¬ ((65535 : Int32) < c0))) (H1 : (¬ (c1 < (0 : Int32)))) (J1 : (¬ ((65535 : Int32) < c1))) (H2 : (¬ (c2 < (0 : Int32)))) (J2 : (¬ ((65535 : Int32) < c2))) (W0 : (¬ ((255 : Int32) < c0))) (W1 : (¬ ((255 : Int32) < c1))) (W2 : ((255 : Int32) < c2)) :
    Con l Z (⟨"java/lang/String", "<init>", "([C)V"⟩ : MethodName) jdk_42_method_3_code 2 none ({ frames := 5, cells := 2, slots := 9, locals := 74 } : Room) #[(.ref a1), (.ref a2)] h0 (Q_new1w_3_2 Z zC vF a1 a2 kc c0 c1 c2 h0) := by
  refine Con.intro pn0 ?_
  intro p e s m below meth c T0 X0 hx hby hml hown0 hnm hret hlk hZ0 e0
  have N0 := Fr.nil Z.heap.size
  refine castGo (g' := mkF m 0 #[.val (.ref a1), .val (.ref a2)] []) (by first | rfl | (simp [entryFrame, mkF, argsToLocals, Value.category]; done)) ?_
  show Go _ _ _ _ (T0.setTop (mkF m 0 #[.val (.ref a1), .val (.ref a2)] []))
  refine aL X0 hx (hb hby d_jdk_42m3_0) (q := 1) rfl rfl rfl ?_
  refine aL X0 hx (hb hby d_jdk_42m3_1) (q := 2) rfl rfl rfl ?_
  refine cI X0 hx (hb hby d_jdk_42m3_2) (q := 3) rfl (z := (0 : Int32)) rfl ?_
  refine aL X0 hx (hb hby d_jdk_42m3_3) (q := 4) rfl rfl rfl ?_
  refine g_len X0 hx hZ0 P5 e0 (hb hby d_jdk_42m3_4) (q := 5) rfl ?_
  refine cN X0 hx (hb hby d_jdk_42m3_5) (q := 6) rfl ?_
  refine g_sp X0 hx hZ0 hown0 (wd12 hw) (wd13 hw) (wd15 hw) rfl (by decide) e0 (Con.back (W := 0) (rm_new4w_3_2 l Z a0 hw zC SC PC vF rF SF SA SH SL a1 a2 kc c0 c1 c2 h0 O0 P1 P2 P3 P4 P5 H0 J0 H1 J1 H2 J2 W0 W1 W2) hZ0 (wd15 hw) (wd3 hw) (by decide) (by decide)) (by rw [hml]; rfl) (lenOf pd0 rfl) rfl (Nat.le_of_eq rfl) (hb hby d_jdk_42m3_6) (q := 9) rfl (by decide) (by decide) ?_
  intro v483 T483 L483 X483 Q483
  obtain ⟨t_483, kb_483, rfl, Nq483, K483q, q483_0, q483_1, q483_2, q483_3, q483_4⟩ := Q483
  have N483 := Fr.app N0 Nq483
  show Go _ _ _ _ (T483.setTop (mkF m 9 #[.val (.ref a1), .val (.ref a2)] []))
  have K484 : Keep h0 T483.heap [a1] := (Keep.refl h0 [a1]).trans K483q (allS (Or.inl (by simp)) all0)
  have gh485 : h0.size ≤ t_483 := Nat.le_trans (Nat.le_refl _) q483_0
  refine endP X483 hlk (fun _ => rfl) (lastV X483 hx hret (hb hby d_jdk_42m3_9)) ?_ (by decide) (by decide)
  exact ⟨t_483, kb_483, rfl, N483, K484, gh485, q483_1, q483_2, q483_3, q483_4⟩
theorem d_jdk_42m152_0 : decode jdk_42_method_152_code 0 = .ok (.getstatic 38, 3) := by decide +kernel
theorem d_jdk_42m152_3 : decode jdk_42_method_152_code 3 = .ok (.ifCond .eq 10, 3) := by decide +kernel
theorem d_jdk_42m152_6 : decode jdk_42_method_152_code 6 = .ok (.aload_n 0, 1) := by decide +kernel
theorem d_jdk_42m152_7 : decode jdk_42_method_152_code 7 = .ok (.getfield 15, 3) := by decide +kernel
theorem d_jdk_42m152_10 : decode jdk_42_method_152_code 10 = .ok (.goto 4, 3) := by decide +kernel
theorem d_jdk_42m152_14 : decode jdk_42_method_152_code 14 = .ok (.ireturn, 1) := by decide +kernel
def Q_coder0 (Z : State) (zC : Int32) (vF : Value) (a1 : Addr) (h0 : Heap) (v : Option Value) (h : Heap) (L : List Loc) : Prop := v = some (.int (0 : Int32)) ∧ Fr Z.heap.size L ∧ h = h0
set_option maxRecDepth 65536 in
set_option maxHeartbeats 40000000 in
theorem rm_coder0 (l : Launch) (Z : State) (a0 : Array Value) (hw : ∀ d ∈ tables_1, d.before a0 Z = true) (zC : Int32) (SC : Sta Z Z.heap "java/lang/String" "COMPACT_STRINGS" "Z" (.int zC)) (PC : ¬ zC = (0 : Int32)) (vF : Value) (rF : vF = .null ∨ ∃ a, vF = .ref a) (SF : Sta Z Z.heap "jdk/internal/util/Preconditions" "SIOOBE_FORMATTER" "Ljava/util/function/BiFunction;" vF) (SA : Sta Z Z.heap "java/lang/StringUTF16" "$assertionsDisabled" "Z" (.int (1 : Int32))) (SH : Sta Z Z.heap "java/lang/StringUTF16" "HI_BYTE_SHIFT" "I" (.int (0 : Int32))) (SL : Sta Z Z.heap "java/lang/StringUTF16" "LO_BYTE_SHIFT" "I" (.int (8 : Int32))) (a1 : Addr) (h0 : Heap) (O0 : Old Z Z.heap.size h0) (P1 : Fld Z h0 a1 "java/lang/String" "coder" "B" (.int (0 : Int32))) :
    Con l Z (⟨"java/lang/String", "coder", "()B"⟩ : MethodName) jdk_42_method_152_code 1 (some .byte) ({ frames := 0, cells := 0, slots := 0, locals := 0 } : Room) #[(.ref a1)] h0 (Q_coder0 Z zC vF a1 h0) := by
  refine Con.intro pn0 ?_
  intro p e s m below meth c T0 X0 hx hby hml hown0 hnm hret hlk hZ0 e0
  have N0 := Fr.nil Z.heap.size
  refine castGo (g' := mkF m 0 #[.val (.ref a1)] []) (by first | rfl | (simp [entryFrame, mkF, argsToLocals, Value.category]; done)) ?_
  show Go _ _ _ _ (T0.setTop (mkF m 0 #[.val (.ref a1)] []))
  refine g_getS X0 hx hZ0 hown0 (host := "") (Or.inl (wd41 hw)) Via.refl (SC.ext O0.2) e0 (hb hby d_jdk_42m152_0) (q := 3) rfl ?_
  intro T486 X486 e486
  refine ifN X486 hx (hb hby d_jdk_42m152_3) (q := 6) rfl ((if0 _ _).trans (feq PC).1) ?_
  refine aL X486 hx (hb hby d_jdk_42m152_6) (q := 7) rfl rfl rfl ?_
  refine g_getF X486 hx hZ0 hown0 (host := "") (Or.inl (wd26 hw)) Via.refl P1 e486 (hb hby d_jdk_42m152_7) (q := 10) rfl ?_
  intro T487 X487 e487
  refine g_goto X487 hx (hb hby d_jdk_42m152_10) (q := 14) (by decide) (by decide) ?_
  refine endP X487 hlk (fun h => by rw [hret] at h; cases h) (lastN X487 hx (t := .byte) (z' := (0 : Int32)) hret (by simp) (by decide) (hb hby d_jdk_42m152_14)) ?_ (by decide) (by decide)
  rw [e487]
  exact ⟨rfl, N0, rfl⟩
def Q_coder1 (Z : State) (zC : Int32) (vF : Value) (a1 : Addr) (h0 : Heap) (v : Option Value) (h : Heap) (L : List Loc) : Prop := v = some (.int (1 : Int32)) ∧ Fr Z.heap.size L ∧ h = h0
set_option maxRecDepth 65536 in
set_option maxHeartbeats 40000000 in
theorem rm_coder1 (l : Launch) (Z : State) (a0 : Array Value) (hw : ∀ d ∈ tables_1, d.before a0 Z = true) (zC : Int32) (SC : Sta Z Z.heap "java/lang/String" "COMPACT_STRINGS" "Z" (.int zC)) (PC : ¬ zC = (0 : Int32)) (vF : Value) (rF : vF = .null ∨ ∃ a, vF = .ref a) (SF : Sta Z Z.heap "jdk/internal/util/Preconditions" "SIOOBE_FORMATTER" "Ljava/util/function/BiFunction;" vF) (SA : Sta Z Z.heap "java/lang/StringUTF16" "$assertionsDisabled" "Z" (.int (1 : Int32))) (SH : Sta Z Z.heap "java/lang/StringUTF16" "HI_BYTE_SHIFT" "I" (.int (0 : Int32))) (SL : Sta Z Z.heap "java/lang/StringUTF16" "LO_BYTE_SHIFT" "I" (.int (8 : Int32))) (a1 : Addr) (h0 : Heap) (O0 : Old Z Z.heap.size h0) (P1 : Fld Z h0 a1 "java/lang/String" "coder" "B" (.int (1 : Int32))) :
    Con l Z (⟨"java/lang/String", "coder", "()B"⟩ : MethodName) jdk_42_method_152_code 1 (some .byte) ({ frames := 0, cells := 0, slots := 0, locals := 0 } : Room) #[(.ref a1)] h0 (Q_coder1 Z zC vF a1 h0) := by
  refine Con.intro pn0 ?_
  intro p e s m below meth c T0 X0 hx hby hml hown0 hnm hret hlk hZ0 e0
  have N0 := Fr.nil Z.heap.size
  refine castGo (g' := mkF m 0 #[.val (.ref a1)] []) (by first | rfl | (simp [entryFrame, mkF, argsToLocals, Value.category]; done)) ?_
  show Go _ _ _ _ (T0.setTop (mkF m 0 #[.val (.ref a1)] []))
  refine g_getS X0 hx hZ0 hown0 (host := "") (Or.inl (wd41 hw)) Via.refl (SC.ext O0.2) e0 (hb hby d_jdk_42m152_0) (q := 3) rfl ?_
  intro T488 X488 e488
  refine ifN X488 hx (hb hby d_jdk_42m152_3) (q := 6) rfl ((if0 _ _).trans (feq PC).1) ?_
  refine aL X488 hx (hb hby d_jdk_42m152_6) (q := 7) rfl rfl rfl ?_
  refine g_getF X488 hx hZ0 hown0 (host := "") (Or.inl (wd26 hw)) Via.refl P1 e488 (hb hby d_jdk_42m152_7) (q := 10) rfl ?_
  intro T489 X489 e489
  refine g_goto X489 hx (hb hby d_jdk_42m152_10) (q := 14) (by decide) (by decide) ?_
  refine endP X489 hlk (fun h => by rw [hret] at h; cases h) (lastN X489 hx (t := .byte) (z' := (1 : Int32)) hret (by simp) (by decide) (hb hby d_jdk_42m152_14)) ?_ (by decide) (by decide)
  rw [e489]
  exact ⟨rfl, N0, rfl⟩
theorem d_jdk_42m54_0 : decode jdk_42_method_54_code 0 = .ok (.aload_n 0, 1) := by decide +kernel
theorem d_jdk_42m54_1 : decode jdk_42_method_54_code 1 = .ok (.getfield 9, 3) := by decide +kernel
theorem d_jdk_42m54_4 : decode jdk_42_method_54_code 4 = .ok (.arraylength, 1) := by decide +kernel
theorem d_jdk_42m54_5 : decode jdk_42_method_54_code 5 = .ok (.aload_n 0, 1) := by decide +kernel
theorem d_jdk_42m54_6 : decode jdk_42_method_54_code 6 = .ok (.invokevirtual 335, 3) := by decide +kernel
theorem wd40 {a0 : Array Value} {Z : State} (hw : ∀ d ∈ tables_1, d.before a0 Z = true) : ((Jvm.Cond.code ({ cls := "java/lang/String", name := "coder", desc := "()B" } : Jvm.MethodName) jdk_42_method_152_code (1 : Nat) (Option.some Jvm.ClassFile.FieldType.byte)) : Jvm.Cond).before a0 Z = true := hw _ (List.mem_of_getElem? (i := 40) rfl)
theorem pd8 : parseMethodDescriptor "()B" = some ⟨[], some .byte⟩ := by decide +kernel
theorem wd39 {a0 : Array Value} {Z : State} (hw : ∀ d ∈ tables_1, d.before a0 Z = true) : ((Jvm.Cond.selects "java/lang/String" ({ cls := "java/lang/String", name := "coder", desc := "()B" } : Jvm.MethodName) ({ cls := "java/lang/String", name := "coder", desc := "()B" } : Jvm.MethodName)) : Jvm.Cond).before a0 Z = true := hw _ (List.mem_of_getElem? (i := 39) rfl)
theorem wd36 {a0 : Array Value} {Z : State} (hw : ∀ d ∈ tables_1, d.before a0 Z = true) : ((Jvm.Cond.methodLink "java/lang/String" (335 : Nat) ({ cls := "java/lang/String", name := "coder", desc := "()B" } : Jvm.MethodName)) : Jvm.Cond).before a0 Z = true := hw _ (List.mem_of_getElem? (i := 36) rfl)
theorem wd37 {a0 : Array Value} {Z : State} (hw : ∀ d ∈ tables_1, d.before a0 Z = true) : ((Jvm.Cond.declares ({ cls := "java/lang/String", name := "coder", desc := "()B" } : Jvm.MethodName)) : Jvm.Cond).before a0 Z = true := hw _ (List.mem_of_getElem? (i := 37) rfl)
theorem wd38 {a0 : Array Value} {Z : State} (hw : ∀ d ∈ tables_1, d.before a0 Z = true) : ((Jvm.Cond.instanceMethod ({ cls := "java/lang/String", name := "coder", desc := "()B" } : Jvm.MethodName)) : Jvm.Cond).before a0 Z = true := hw _ (List.mem_of_getElem? (i := 38) rfl)
theorem d_jdk_42m54_9 : decode jdk_42_method_54_code 9 = .ok (.ishr, 1) := by decide +kernel
theorem d_jdk_42m54_10 : decode jdk_42_method_54_code 10 = .ok (.ireturn, 1) := by decide +kernel
def Q_len0_0 (Z : State) (zC : Int32) (vF : Value) (a1 : Addr) (t : Addr) (kb : ClassId) (vs : List Value) (h0 : Heap) (v : Option Value) (h : Heap) (L : List Loc) : Prop := v = some (.int (0 : Int32)) ∧ Fr Z.heap.size L ∧ h = h0
set_option maxRecDepth 65536 in
set_option maxHeartbeats 40000000 in
theorem rm_len0_0 (l : Launch) (Z : State) (a0 : Array Value) (hw : ∀ d ∈ tables_1, d.before a0 Z = true) (zC : Int32) (SC : Sta Z Z.heap "java/lang/String" "COMPACT_STRINGS" "Z" (.int zC)) (PC : ¬ zC = (0 : Int32)) (vF : Value) (rF : vF = .null ∨ ∃ a, vF = .ref a) (SF : Sta Z Z.heap "jdk/internal/util/Preconditions" "SIOOBE_FORMATTER" "Ljava/util/function/BiFunction;" vF) (SA : Sta Z Z.heap "java/lang/StringUTF16" "$assertionsDisabled" "Z" (.int (1 : Int32))) (SH : Sta Z Z.heap "java/lang/StringUTF16" "HI_BYTE_SHIFT" "I" (.int (0 : Int32))) (SL : Sta Z Z.heap "java/lang/StringUTF16" "LO_BYTE_SHIFT" "I" (.int (8 : Int32))) (a1 : Addr) (t : Addr) (kb : ClassId) (vs : List Value) (h0 : Heap) (O0 : Old Z Z.heap.size h0) (P0 : Exa Z h0 a1 "java/lang/String") (P1 : Fld Z h0 a1 "java/lang/String" "coder" "B" (.int (0 : Int32))) (P2 : Fld Z h0 a1 "java/lang/String" "value" "[B" (.ref t)) (P3 : Arv Z h0 t kb .byte (0 : Int32) vs (.int 0)) :
    Con l Z (⟨"java/lang/String", "length", "()I"⟩ : MethodName) jdk_42_method_54_code 1 (some .int) ({ frames := 1, cells := 0, slots := 0, locals := 13 } : Room) #[(.ref a1)] h0 (Q_len0_0 Z zC vF a1 t kb vs h0) := by
  refine Con.intro pn0 ?_
  intro p e s m below meth c T0 X0 hx hby hml hown0 hnm hret hlk hZ0 e0
  have N0 := Fr.nil Z.heap.size
  refine castGo (g' := mkF m 0 #[.val (.ref a1)] []) (by first | rfl | (simp [entryFrame, mkF, argsToLocals, Value.category]; done)) ?_
  show Go _ _ _ _ (T0.setTop (mkF m 0 #[.val (.ref a1)] []))
  refine aL X0 hx (hb hby d_jdk_42m54_0) (q := 1) rfl rfl rfl ?_
  refine g_getF X0 hx hZ0 hown0 (host := "") (Or.inl (wd25 hw)) Via.refl P2 e0 (hb hby d_jdk_42m54_1) (q := 4) rfl ?_
  intro T490 X490 e490
  refine g_len X490 hx hZ0 P3 e490 (hb hby d_jdk_42m54_4) (q := 5) rfl ?_
  refine aL X490 hx (hb hby d_jdk_42m54_5) (q := 6) rfl rfl rfl ?_
  refine g_vi X490 hx hZ0 hown0 (wd36 hw) (wd37 hw) (notFace_of_selects (args := #[]) (mvT hZ0 (wd39 hw))) (wd39 hw) (wd38 hw) (by decide) P0 e490 (Con.back (W := 1) (rm_coder0 l Z a0 hw zC SC PC vF rF SF SA SH SL a1 h0 O0 P1) hZ0 (wd40 hw) (wd3 hw) (by decide) (by decide)) (by rw [hml]; rfl) (lenOf pd8 rfl) rfl (Nat.le_of_eq rfl) (hb hby d_jdk_42m54_6) (q := 9) rfl (by decide) (by decide) ?_
  intro v491 T491 L491 X491 Q491
  obtain ⟨rfl, Nq491, e491⟩ := Q491
  have N491 := Fr.app N0 Nq491
  show Go _ _ _ _ (T491.setTop (mkF m 9 #[.val (.ref a1)] [(.int (0 : Int32)), (.int (0 : Int32))]))
  refine g_ishr X491 hx (hb hby d_jdk_42m54_9) (q := 10) rfl (z := (0 : Int32)) (by decide) ?_
  refine endP X491 hlk (fun h => by rw [hret] at h; cases h) (lastI X491 hx hret (hb hby d_jdk_42m54_10)) ?_ (by decide) (by decide)
  rw [e491]
  exact ⟨rfl, N491, rfl⟩
def Q_len0_1 (Z : State) (zC : Int32) (vF : Value) (a1 : Addr) (t : Addr) (kb : ClassId) (vs : List Value) (h0 : Heap) (v : Option Value) (h : Heap) (L : List Loc) : Prop := v = some (.int (1 : Int32)) ∧ Fr Z.heap.size L ∧ h = h0
set_option maxRecDepth 65536 in
set_option maxHeartbeats 40000000 in
theorem rm_len0_1 (l : Launch) (Z : State) (a0 : Array Value) (hw : ∀ d ∈ tables_1, d.before a0 Z = true) (zC : Int32) (SC : Sta Z Z.heap "java/lang/String" "COMPACT_STRINGS" "Z" (.int zC)) (PC : ¬ zC = (0 : Int32)) (vF : Value) (rF : vF = .null ∨ ∃ a, vF = .ref a) (SF : Sta Z Z.heap "jdk/internal/util/Preconditions" "SIOOBE_FORMATTER" "Ljava/util/function/BiFunction;" vF) (SA : Sta Z Z.heap "java/lang/StringUTF16" "$assertionsDisabled" "Z" (.int (1 : Int32))) (SH : Sta Z Z.heap "java/lang/StringUTF16" "HI_BYTE_SHIFT" "I" (.int (0 : Int32))) (SL : Sta Z Z.heap "java/lang/StringUTF16" "LO_BYTE_SHIFT" "I" (.int (8 : Int32))) (a1 : Addr) (t : Addr) (kb : ClassId) (vs : List Value) (h0 : Heap) (O0 : Old Z Z.heap.size h0) (P0 : Exa Z h0 a1 "java/lang/String") (P1 : Fld Z h0 a1 "java/lang/String" "coder" "B" (.int (0 : Int32))) (P2 : Fld Z h0 a1 "java/lang/String" "value" "[B" (.ref t)) (P3 : Arv Z h0 t kb .byte (1 : Int32) vs (.int 0)) :
    Con l Z (⟨"java/lang/String", "length", "()I"⟩ : MethodName) jdk_42_method_54_code 1 (some .int) ({ frames := 1, cells := 0, slots := 0, locals := 13 } : Room) #[(.ref a1)] h0 (Q_len0_1 Z zC vF a1 t kb vs h0) := by
  refine Con.intro pn0 ?_
  intro p e s m below meth c T0 X0 hx hby hml hown0 hnm hret hlk hZ0 e0
  have N0 := Fr.nil Z.heap.size
  refine castGo (g' := mkF m 0 #[.val (.ref a1)] []) (by first | rfl | (simp [entryFrame, mkF, argsToLocals, Value.category]; done)) ?_
  show Go _ _ _ _ (T0.setTop (mkF m 0 #[.val (.ref a1)] []))
  refine aL X0 hx (hb hby d_jdk_42m54_0) (q := 1) rfl rfl rfl ?_
  refine g_getF X0 hx hZ0 hown0 (host := "") (Or.inl (wd25 hw)) Via.refl P2 e0 (hb hby d_jdk_42m54_1) (q := 4) rfl ?_
  intro T492 X492 e492
  refine g_len X492 hx hZ0 P3 e492 (hb hby d_jdk_42m54_4) (q := 5) rfl ?_
  refine aL X492 hx (hb hby d_jdk_42m54_5) (q := 6) rfl rfl rfl ?_
  refine g_vi X492 hx hZ0 hown0 (wd36 hw) (wd37 hw) (notFace_of_selects (args := #[]) (mvT hZ0 (wd39 hw))) (wd39 hw) (wd38 hw) (by decide) P0 e492 (Con.back (W := 1) (rm_coder0 l Z a0 hw zC SC PC vF rF SF SA SH SL a1 h0 O0 P1) hZ0 (wd40 hw) (wd3 hw) (by decide) (by decide)) (by rw [hml]; rfl) (lenOf pd8 rfl) rfl (Nat.le_of_eq rfl) (hb hby d_jdk_42m54_6) (q := 9) rfl (by decide) (by decide) ?_
  intro v493 T493 L493 X493 Q493
  obtain ⟨rfl, Nq493, e493⟩ := Q493
  have N493 := Fr.app N0 Nq493
  show Go _ _ _ _ (T493.setTop (mkF m 9 #[.val (.ref a1)] [(.int (0 : Int32)), (.int (1 : Int32))]))
  refine g_ishr X493 hx (hb hby d_jdk_42m54_9) (q := 10) rfl (z := (1 : Int32)) (by decide) ?_
  refine endP X493 hlk (fun h => by rw [hret] at h; cases h) (lastI X493 hx hret (hb hby d_jdk_42m54_10)) ?_ (by decide) (by decide)
  rw [e493]
  exact ⟨rfl, N493, rfl⟩
def Q_len0_2 (Z : State) (zC : Int32) (vF : Value) (a1 : Addr) (t : Addr) (kb : ClassId) (vs : List Value) (h0 : Heap) (v : Option Value) (h : Heap) (L : List Loc) : Prop := v = some (.int (2 : Int32)) ∧ Fr Z.heap.size L ∧ h = h0
set_option maxRecDepth 65536 in
set_option maxHeartbeats 40000000 in
theorem rm_len0_2 (l : Launch) (Z : State) (a0 : Array Value) (hw : ∀ d ∈ tables_1, d.before a0 Z = true) (zC : Int32) (SC : Sta Z Z.heap "java/lang/String" "COMPACT_STRINGS" "Z" (.int zC)) (PC : ¬ zC = (0 : Int32)) (vF : Value) (rF : vF = .null ∨ ∃ a, vF = .ref a) (SF : Sta Z Z.heap "jdk/internal/util/Preconditions" "SIOOBE_FORMATTER" "Ljava/util/function/BiFunction;" vF) (SA : Sta Z Z.heap "java/lang/StringUTF16" "$assertionsDisabled" "Z" (.int (1 : Int32))) (SH : Sta Z Z.heap "java/lang/StringUTF16" "HI_BYTE_SHIFT" "I" (.int (0 : Int32))) (SL : Sta Z Z.heap "java/lang/StringUTF16" "LO_BYTE_SHIFT" "I" (.int (8 : Int32))) (a1 : Addr) (t : Addr) (kb : ClassId) (vs : List Value) (h0 : Heap) (O0 : Old Z Z.heap.size h0) (P0 : Exa Z h0 a1 "java/lang/String") (P1 : Fld Z h0 a1 "java/lang/String" "coder" "B" (.int (0 : Int32))) (P2 : Fld Z h0 a1 "java/lang/String" "value" "[B" (.ref t)) (P3 : Arv Z h0 t kb .byte (2 : Int32) vs (.int 0)) :
    Con l Z (⟨"java/lang/String", "length", "()I"⟩ : MethodName) jdk_42_method_54_code 1 (some .int) ({ frames := 1, cells := 0, slots := 0, locals := 13 } : Room) #[(.ref a1)] h0 (Q_len0_2 Z zC vF a1 t kb vs h0) := by
  refine Con.intro pn0 ?_
  intro p e s m below meth c T0 X0 hx hby hml hown0 hnm hret hlk hZ0 e0
  have N0 := Fr.nil Z.heap.size
  refine castGo (g' := mkF m 0 #[.val (.ref a1)] []) (by first | rfl | (simp [entryFrame, mkF, argsToLocals, Value.category]; done)) ?_
  show Go _ _ _ _ (T0.setTop (mkF m 0 #[.val (.ref a1)] []))
  refine aL X0 hx (hb hby d_jdk_42m54_0) (q := 1) rfl rfl rfl ?_
  refine g_getF X0 hx hZ0 hown0 (host := "") (Or.inl (wd25 hw)) Via.refl P2 e0 (hb hby d_jdk_42m54_1) (q := 4) rfl ?_
  intro T494 X494 e494
  refine g_len X494 hx hZ0 P3 e494 (hb hby d_jdk_42m54_4) (q := 5) rfl ?_
  refine aL X494 hx (hb hby d_jdk_42m54_5) (q := 6) rfl rfl rfl ?_
  refine g_vi X494 hx hZ0 hown0 (wd36 hw) (wd37 hw) (notFace_of_selects (args := #[]) (mvT hZ0 (wd39 hw))) (wd39 hw) (wd38 hw) (by decide) P0 e494 (Con.back (W := 1) (rm_coder0 l Z a0 hw zC SC PC vF rF SF SA SH SL a1 h0 O0 P1) hZ0 (wd40 hw) (wd3 hw) (by decide) (by decide)) (by rw [hml]; rfl) (lenOf pd8 rfl) rfl (Nat.le_of_eq rfl) (hb hby d_jdk_42m54_6) (q := 9) rfl (by decide) (by decide) ?_
  intro v495 T495 L495 X495 Q495
  obtain ⟨rfl, Nq495, e495⟩ := Q495
  have N495 := Fr.app N0 Nq495
  show Go _ _ _ _ (T495.setTop (mkF m 9 #[.val (.ref a1)] [(.int (0 : Int32)), (.int (2 : Int32))]))
  refine g_ishr X495 hx (hb hby d_jdk_42m54_9) (q := 10) rfl (z := (2 : Int32)) (by decide) ?_
  refine endP X495 hlk (fun h => by rw [hret] at h; cases h) (lastI X495 hx hret (hb hby d_jdk_42m54_10)) ?_ (by decide) (by decide)
  rw [e495]
  exact ⟨rfl, N495, rfl⟩
def Q_len0_3 (Z : State) (zC : Int32) (vF : Value) (a1 : Addr) (t : Addr) (kb : ClassId) (vs : List Value) (h0 : Heap) (v : Option Value) (h : Heap) (L : List Loc) : Prop := v = some (.int (3 : Int32)) ∧ Fr Z.heap.size L ∧ h = h0
set_option maxRecDepth 65536 in
set_option maxHeartbeats 40000000 in
theorem rm_len0_3 (l : Launch) (Z : State) (a0 : Array Value) (hw : ∀ d ∈ tables_1, d.before a0 Z = true) (zC : Int32) (SC : Sta Z Z.heap "java/lang/String" "COMPACT_STRINGS" "Z" (.int zC)) (PC : ¬ zC = (0 : Int32)) (vF : Value) (rF : vF = .null ∨ ∃ a, vF = .ref a) (SF : Sta Z Z.heap "jdk/internal/util/Preconditions" "SIOOBE_FORMATTER" "Ljava/util/function/BiFunction;" vF) (SA : Sta Z Z.heap "java/lang/StringUTF16" "$assertionsDisabled" "Z" (.int (1 : Int32))) (SH : Sta Z Z.heap "java/lang/StringUTF16" "HI_BYTE_SHIFT" "I" (.int (0 : Int32))) (SL : Sta Z Z.heap "java/lang/StringUTF16" "LO_BYTE_SHIFT" "I" (.int (8 : Int32))) (a1 : Addr) (t : Addr) (kb : ClassId) (vs : List Value) (h0 : Heap) (O0 : Old Z Z.heap.size h0) (P0 : Exa Z h0 a1 "java/lang/String") (P1 : Fld Z h0 a1 "java/lang/String" "coder" "B" (.int (0 : Int32))) (P2 : Fld Z h0 a1 "java/lang/String" "value" "[B" (.ref t)) (P3 : Arv Z h0 t kb .byte (3 : Int32) vs (.int 0)) :
    Con l Z (⟨"java/lang/String", "length", "()I"⟩ : MethodName) jdk_42_method_54_code 1 (some .int) ({ frames := 1, cells := 0, slots := 0, locals := 13 } : Room) #[(.ref a1)] h0 (Q_len0_3 Z zC vF a1 t kb vs h0) := by
  refine Con.intro pn0 ?_
  intro p e s m below meth c T0 X0 hx hby hml hown0 hnm hret hlk hZ0 e0
  have N0 := Fr.nil Z.heap.size
  refine castGo (g' := mkF m 0 #[.val (.ref a1)] []) (by first | rfl | (simp [entryFrame, mkF, argsToLocals, Value.category]; done)) ?_
  show Go _ _ _ _ (T0.setTop (mkF m 0 #[.val (.ref a1)] []))
  refine aL X0 hx (hb hby d_jdk_42m54_0) (q := 1) rfl rfl rfl ?_
  refine g_getF X0 hx hZ0 hown0 (host := "") (Or.inl (wd25 hw)) Via.refl P2 e0 (hb hby d_jdk_42m54_1) (q := 4) rfl ?_
  intro T496 X496 e496
  refine g_len X496 hx hZ0 P3 e496 (hb hby d_jdk_42m54_4) (q := 5) rfl ?_
  refine aL X496 hx (hb hby d_jdk_42m54_5) (q := 6) rfl rfl rfl ?_
  refine g_vi X496 hx hZ0 hown0 (wd36 hw) (wd37 hw) (notFace_of_selects (args := #[]) (mvT hZ0 (wd39 hw))) (wd39 hw) (wd38 hw) (by decide) P0 e496 (Con.back (W := 1) (rm_coder0 l Z a0 hw zC SC PC vF rF SF SA SH SL a1 h0 O0 P1) hZ0 (wd40 hw) (wd3 hw) (by decide) (by decide)) (by rw [hml]; rfl) (lenOf pd8 rfl) rfl (Nat.le_of_eq rfl) (hb hby d_jdk_42m54_6) (q := 9) rfl (by decide) (by decide) ?_
  intro v497 T497 L497 X497 Q497
  obtain ⟨rfl, Nq497, e497⟩ := Q497
  have N497 := Fr.app N0 Nq497
  show Go _ _ _ _ (T497.setTop (mkF m 9 #[.val (.ref a1)] [(.int (0 : Int32)), (.int (3 : Int32))]))
  refine g_ishr X497 hx (hb hby d_jdk_42m54_9) (q := 10) rfl (z := (3 : Int32)) (by decide) ?_
  refine endP X497 hlk (fun h => by rw [hret] at h; cases h) (lastI X497 hx hret (hb hby d_jdk_42m54_10)) ?_ (by decide) (by decide)
  rw [e497]
  exact ⟨rfl, N497, rfl⟩
def Q_len1_2 (Z : State) (zC : Int32) (vF : Value) (a1 : Addr) (t : Addr) (kb : ClassId) (vs : List Value) (h0 : Heap) (v : Option Value) (h : Heap) (L : List Loc) : Prop := v = some (.int (1 : Int32)) ∧ Fr Z.heap.size L ∧ h = h0
set_option maxRecDepth 65536 in
set_option maxHeartbeats 40000000 in
theorem rm_len1_2 (l : Launch) (Z : State) (a0 : Array Value) (hw : ∀ d ∈ tables_1, d.before a0 Z = true) (zC : Int32) (SC : Sta Z Z.heap "java/lang/String" "COMPACT_STRINGS" "Z" (.int zC)) (PC : ¬ zC = (0 : Int32)) (vF : Value) (rF : vF = .null ∨ ∃ a, vF = .ref a) (SF : Sta Z Z.heap "jdk/internal/util/Preconditions" "SIOOBE_FORMATTER" "Ljava/util/function/BiFunction;" vF) (SA : Sta Z Z.heap "java/lang/StringUTF16" "$assertionsDisabled" "Z" (.int (1 : Int32))) (SH : Sta Z Z.heap "java/lang/StringUTF16" "HI_BYTE_SHIFT" "I" (.int (0 : Int32))) (SL : Sta Z Z.heap "java/lang/StringUTF16" "LO_BYTE_SHIFT" "I" (.int (8 : Int32))) (a1 : Addr) (t : Addr) (kb : ClassId) (vs : List Value) (h0 : Heap) (O0 : Old Z Z.heap.size h0) (P0 : Exa Z h0 a1 "java/lang/String") (P1 : Fld Z h0 a1 "java/lang/String" "coder" "B" (.int (1 : Int32))) (P2 : Fld Z h0 a1 "java/lang/String" "value" "[B" (.ref t)) (P3 : Arv Z h0 t kb .byte (2 : Int32) vs (.int 0)) :
    Con l Z (⟨"java/lang/String", "length", "()I"⟩ : MethodName) jdk_42_method_54_code 1 (some .int) ({ frames := 1, cells := 0, slots := 0, locals := 13 } : Room) #[(.ref a1)] h0 (Q_len1_2 Z zC vF a1 t kb vs h0) := by
  refine Con.intro pn0 ?_
  intro p e s m below meth c T0 X0 hx hby hml hown0 hnm hret hlk hZ0 e0
  have N0 := Fr.nil Z.heap.size
  refine castGo (g' := mkF m 0 #[.val (.ref a1)] []) (by first | rfl | (simp [entryFrame, mkF, argsToLocals, Value.category]; done)) ?_
  show Go _ _ _ _ (T0.setTop (mkF m 0 #[.val (.ref a1)] []))
  refine aL X0 hx (hb hby d_jdk_42m54_0) (q := 1) rfl rfl rfl ?_
  refine g_getF X0 hx hZ0 hown0 (host := "") (Or.inl (wd25 hw)) Via.refl P2 e0 (hb hby d_jdk_42m54_1) (q := 4) rfl ?_
  intro T498 X498 e498
  refine g_len X498 hx hZ0 P3 e498 (hb hby d_jdk_42m54_4) (q := 5) rfl ?_
  refine aL X498 hx (hb hby d_jdk_42m54_5) (q := 6) rfl rfl rfl ?_
  refine g_vi X498 hx hZ0 hown0 (wd36 hw) (wd37 hw) (notFace_of_selects (args := #[]) (mvT hZ0 (wd39 hw))) (wd39 hw) (wd38 hw) (by decide) P0 e498 (Con.back (W := 1) (rm_coder1 l Z a0 hw zC SC PC vF rF SF SA SH SL a1 h0 O0 P1) hZ0 (wd40 hw) (wd3 hw) (by decide) (by decide)) (by rw [hml]; rfl) (lenOf pd8 rfl) rfl (Nat.le_of_eq rfl) (hb hby d_jdk_42m54_6) (q := 9) rfl (by decide) (by decide) ?_
  intro v499 T499 L499 X499 Q499
  obtain ⟨rfl, Nq499, e499⟩ := Q499
  have N499 := Fr.app N0 Nq499
  show Go _ _ _ _ (T499.setTop (mkF m 9 #[.val (.ref a1)] [(.int (1 : Int32)), (.int (2 : Int32))]))
  refine g_ishr X499 hx (hb hby d_jdk_42m54_9) (q := 10) rfl (z := (1 : Int32)) (by decide) ?_
  refine endP X499 hlk (fun h => by rw [hret] at h; cases h) (lastI X499 hx hret (hb hby d_jdk_42m54_10)) ?_ (by decide) (by decide)
  rw [e499]
  exact ⟨rfl, N499, rfl⟩
def Q_len1_4 (Z : State) (zC : Int32) (vF : Value) (a1 : Addr) (t : Addr) (kb : ClassId) (vs : List Value) (h0 : Heap) (v : Option Value) (h : Heap) (L : List Loc) : Prop := v = some (.int (2 : Int32)) ∧ Fr Z.heap.size L ∧ h = h0
set_option maxRecDepth 65536 in
set_option maxHeartbeats 40000000 in
theorem rm_len1_4 (l : Launch) (Z : State) (a0 : Array Value) (hw : ∀ d ∈ tables_1, d.before a0 Z = true) (zC : Int32) (SC : Sta Z Z.heap "java/lang/String" "COMPACT_STRINGS" "Z" (.int zC)) (PC : ¬ zC = (0 : Int32)) (vF : Value) (rF : vF = .null ∨ ∃ a, vF = .ref a) (SF : Sta Z Z.heap "jdk/internal/util/Preconditions" "SIOOBE_FORMATTER" "Ljava/util/function/BiFunction;" vF) (SA : Sta Z Z.heap "java/lang/StringUTF16" "$assertionsDisabled" "Z" (.int (1 : Int32))) (SH : Sta Z Z.heap "java/lang/StringUTF16" "HI_BYTE_SHIFT" "I" (.int (0 : Int32))) (SL : Sta Z Z.heap "java/lang/StringUTF16" "LO_BYTE_SHIFT" "I" (.int (8 : Int32))) (a1 : Addr) (t : Addr) (kb : ClassId) (vs : List Value) (h0 : Heap) (O0 : Old Z Z.heap.size h0) (P0 : Exa Z h0 a1 "java/lang/String") (P1 : Fld Z h0 a1 "java/lang/String" "coder" "B" (.int (1 : Int32))) (P2 : Fld Z h0 a1 "java/lang/String" "value" "[B" (.ref t)) (P3 : Arv Z h0 t kb .byte (4 : Int32) vs (.int 0)) :
    Con l Z (⟨"java/lang/String", "length", "()I"⟩ : MethodName) jdk_42_method_54_code 1 (some .int) ({ frames := 1, cells := 0, slots := 0, locals := 13 } : Room) #[(.ref a1)] h0 (Q_len1_4 Z zC vF a1 t kb vs h0) := by
  refine Con.intro pn0 ?_
  intro p e s m below meth c T0 X0 hx hby hml hown0 hnm hret hlk hZ0 e0
  have N0 := Fr.nil Z.heap.size
  refine castGo (g' := mkF m 0 #[.val (.ref a1)] []) (by first | rfl | (simp [entryFrame, mkF, argsToLocals, Value.category]; done)) ?_
  show Go _ _ _ _ (T0.setTop (mkF m 0 #[.val (.ref a1)] []))
  refine aL X0 hx (hb hby d_jdk_42m54_0) (q := 1) rfl rfl rfl ?_
  refine g_getF X0 hx hZ0 hown0 (host := "") (Or.inl (wd25 hw)) Via.refl P2 e0 (hb hby d_jdk_42m54_1) (q := 4) rfl ?_
  intro T500 X500 e500
  refine g_len X500 hx hZ0 P3 e500 (hb hby d_jdk_42m54_4) (q := 5) rfl ?_
  refine aL X500 hx (hb hby d_jdk_42m54_5) (q := 6) rfl rfl rfl ?_
  refine g_vi X500 hx hZ0 hown0 (wd36 hw) (wd37 hw) (notFace_of_selects (args := #[]) (mvT hZ0 (wd39 hw))) (wd39 hw) (wd38 hw) (by decide) P0 e500 (Con.back (W := 1) (rm_coder1 l Z a0 hw zC SC PC vF rF SF SA SH SL a1 h0 O0 P1) hZ0 (wd40 hw) (wd3 hw) (by decide) (by decide)) (by rw [hml]; rfl) (lenOf pd8 rfl) rfl (Nat.le_of_eq rfl) (hb hby d_jdk_42m54_6) (q := 9) rfl (by decide) (by decide) ?_
  intro v501 T501 L501 X501 Q501
  obtain ⟨rfl, Nq501, e501⟩ := Q501
  have N501 := Fr.app N0 Nq501
  show Go _ _ _ _ (T501.setTop (mkF m 9 #[.val (.ref a1)] [(.int (1 : Int32)), (.int (4 : Int32))]))
  refine g_ishr X501 hx (hb hby d_jdk_42m54_9) (q := 10) rfl (z := (2 : Int32)) (by decide) ?_
  refine endP X501 hlk (fun h => by rw [hret] at h; cases h) (lastI X501 hx hret (hb hby d_jdk_42m54_10)) ?_ (by decide) (by decide)
  rw [e501]
  exact ⟨rfl, N501, rfl⟩
def Q_len1_6 (Z : State) (zC : Int32) (vF : Value) (a1 : Addr) (t : Addr) (kb : ClassId) (vs : List Value) (h0 : Heap) (v : Option Value) (h : Heap) (L : List Loc) : Prop := v = some (.int (3 : Int32)) ∧ Fr Z.heap.size L ∧ h = h0
set_option maxRecDepth 65536 in
set_option maxHeartbeats 40000000 in
theorem rm_len1_6 (l : Launch) (Z : State) (a0 : Array Value) (hw : ∀ d ∈ tables_1, d.before a0 Z = true) (zC : Int32) (SC : Sta Z Z.heap "java/lang/String" "COMPACT_STRINGS" "Z" (.int zC)) (PC : ¬ zC = (0 : Int32)) (vF : Value) (rF : vF = .null ∨ ∃ a, vF = .ref a) (SF : Sta Z Z.heap "jdk/internal/util/Preconditions" "SIOOBE_FORMATTER" "Ljava/util/function/BiFunction;" vF) (SA : Sta Z Z.heap "java/lang/StringUTF16" "$assertionsDisabled" "Z" (.int (1 : Int32))) (SH : Sta Z Z.heap "java/lang/StringUTF16" "HI_BYTE_SHIFT" "I" (.int (0 : Int32))) (SL : Sta Z Z.heap "java/lang/StringUTF16" "LO_BYTE_SHIFT" "I" (.int (8 : Int32))) (a1 : Addr) (t : Addr) (kb : ClassId) (vs : List Value) (h0 : Heap) (O0 : Old Z Z.heap.size h0) (P0 : Exa Z h0 a1 "java/lang/String") (P1 : Fld Z h0 a1 "java/lang/String" "coder" "B" (.int (1 : Int32))) (P2 : Fld Z h0 a1 "java/lang/String" "value" "[B" (.ref t)) (P3 : Arv Z h0 t kb .byte (6 : Int32) vs (.int 0)) :
    Con l Z (⟨"java/lang/String", "length", "()I"⟩ : MethodName) jdk_42_method_54_code 1 (some .int) ({ frames := 1, cells := 0, slots := 0, locals := 13 } : Room) #[(.ref a1)] h0 (Q_len1_6 Z zC vF a1 t kb vs h0) := by
  refine Con.intro pn0 ?_
  intro p e s m below meth c T0 X0 hx hby hml hown0 hnm hret hlk hZ0 e0
  have N0 := Fr.nil Z.heap.size
  refine castGo (g' := mkF m 0 #[.val (.ref a1)] []) (by first | rfl | (simp [entryFrame, mkF, argsToLocals, Value.category]; done)) ?_
  show Go _ _ _ _ (T0.setTop (mkF m 0 #[.val (.ref a1)] []))
  refine aL X0 hx (hb hby d_jdk_42m54_0) (q := 1) rfl rfl rfl ?_
  refine g_getF X0 hx hZ0 hown0 (host := "") (Or.inl (wd25 hw)) Via.refl P2 e0 (hb hby d_jdk_42m54_1) (q := 4) rfl ?_
  intro T502 X502 e502
  refine g_len X502 hx hZ0 P3 e502 (hb hby d_jdk_42m54_4) (q := 5) rfl ?_
  refine aL X502 hx (hb hby d_jdk_42m54_5) (q := 6) rfl rfl rfl ?_
  refine g_vi X502 hx hZ0 hown0 (wd36 hw) (wd37 hw) (notFace_of_selects (args := #[]) (mvT hZ0 (wd39 hw))) (wd39 hw) (wd38 hw) (by decide) P0 e502 (Con.back (W := 1) (rm_coder1 l Z a0 hw zC SC PC vF rF SF SA SH SL a1 h0 O0 P1) hZ0 (wd40 hw) (wd3 hw) (by decide) (by decide)) (by rw [hml]; rfl) (lenOf pd8 rfl) rfl (Nat.le_of_eq rfl) (hb hby d_jdk_42m54_6) (q := 9) rfl (by decide) (by decide) ?_
  intro v503 T503 L503 X503 Q503
  obtain ⟨rfl, Nq503, e503⟩ := Q503
  have N503 := Fr.app N0 Nq503
  show Go _ _ _ _ (T503.setTop (mkF m 9 #[.val (.ref a1)] [(.int (1 : Int32)), (.int (6 : Int32))]))
  refine g_ishr X503 hx (hb hby d_jdk_42m54_9) (q := 10) rfl (z := (3 : Int32)) (by decide) ?_
  refine endP X503 hlk (fun h => by rw [hret] at h; cases h) (lastI X503 hx hret (hb hby d_jdk_42m54_10)) ?_ (by decide) (by decide)
  rw [e503]
  exact ⟨rfl, N503, rfl⟩
theorem d_jdk_41m11_0 : decode jdk_41_method_11_code 0 = .ok (.iload_n 0, 1) := by decide +kernel
theorem d_jdk_41m11_1 : decode jdk_41_method_11_code 1 = .ok (.ifCond .lt 8, 3) := by decide +kernel
theorem d_jdk_41m11_4 : decode jdk_41_method_11_code 4 = .ok (.iload_n 0, 1) := by decide +kernel
theorem d_jdk_41m11_5 : decode jdk_41_method_11_code 5 = .ok (.iload_n 1, 1) := by decide +kernel
theorem d_jdk_41m11_6 : decode jdk_41_method_11_code 6 = .ok (.if_icmp .lt 10, 3) := by decide +kernel
theorem d_jdk_41m11_16 : decode jdk_41_method_11_code 16 = .ok (.iload_n 0, 1) := by decide +kernel
theorem d_jdk_41m11_17 : decode jdk_41_method_11_code 17 = .ok (.ireturn, 1) := by decide +kernel
def Q_pcin (Z : State) (zC : Int32) (vF : Value) (p0 : Int32) (p1 : Int32) (h0 : Heap) (v : Option Value) (h : Heap) (L : List Loc) : Prop := v = some (.int p0) ∧ Fr Z.heap.size L ∧ h = h0
theorem pn3 : plainName "jdk/internal/util/Preconditions" = true := by first | (simp [plainName, overriddenIn]; done) | decide +kernel
set_option maxRecDepth 65536 in
set_option maxHeartbeats 40000000 in
theorem rm_pcin (l : Launch) (Z : State) (a0 : Array Value) (hw : ∀ d ∈ tables_1, d.before a0 Z = true) (zC : Int32) (SC : Sta Z Z.heap "java/lang/String" "COMPACT_STRINGS" "Z" (.int zC)) (PC : ¬ zC = (0 : Int32)) (vF : Value) (rF : vF = .null ∨ ∃ a, vF = .ref a) (SF : Sta Z Z.heap "jdk/internal/util/Preconditions" "SIOOBE_FORMATTER" "Ljava/util/function/BiFunction;" vF) (SA : Sta Z Z.heap "java/lang/StringUTF16" "$assertionsDisabled" "Z" (.int (1 : Int32))) (SH : Sta Z Z.heap "java/lang/StringUTF16" "HI_BYTE_SHIFT" "I" (.int (0 : Int32))) (SL : Sta Z Z.heap "java/lang/StringUTF16" "LO_BYTE_SHIFT" "I" (.int (8 : Int32))) (p0 : Int32) (p1 : Int32) (h0 : Heap) (O0 : Old Z Z.heap.size h0) (P1 : (¬ (p0 < (0 : Int32)))) (P2 : (p0 < p1)) :
    Con l Z (⟨"jdk/internal/util/Preconditions", "checkIndex", "(IILjava/util/function/BiFunction;)I"⟩ : MethodName) jdk_41_method_11_code 3 (some .int) ({ frames := 0, cells := 0, slots := 0, locals := 0 } : Room) #[(.int p0), (.int p1), .null] h0 (Q_pcin Z zC vF p0 p1 h0) := by
  refine Con.intro pn3 ?_
  intro p e s m below meth c T0 X0 hx hby hml hown0 hnm hret hlk hZ0 e0
  have N0 := Fr.nil Z.heap.size
  refine castGo (g' := mkF m 0 #[.val (.int p0), .val (.int p1), .val .null] []) (by first | rfl | (simp [entryFrame, mkF, argsToLocals, Value.category]; done)) ?_
  show Go _ _ _ _ (T0.setTop (mkF m 0 #[.val (.int p0), .val (.int p1), .val .null] []))
  refine iL X0 hx (hb hby d_jdk_41m11_0) (q := 1) rfl rfl ?_
  refine ifN X0 hx (hb hby d_jdk_41m11_1) (q := 4) rfl ((if0 _ _).trans (flt P1).1) ?_
  refine iL X0 hx (hb hby d_jdk_41m11_4) (q := 5) rfl rfl ?_
  refine iL X0 hx (hb hby d_jdk_41m11_5) (q := 6) rfl rfl ?_
  refine icY X0 hx (hb hby d_jdk_41m11_6) (q := 16) (by decide) (by decide) (tlt P2).1 ?_
  refine iL X0 hx (hb hby d_jdk_41m11_16) (q := 17) rfl rfl ?_
  refine endP X0 hlk (fun h => by rw [hret] at h; cases h) (lastI X0 hx hret (hb hby d_jdk_41m11_17)) ?_ (by decide) (by decide)
  rw [e0]
  exact ⟨rfl, N0, rfl⟩
def Q_pcir (Z : State) (zC : Int32) (vF : Value) (p0 : Int32) (p1 : Int32) (a1 : Addr) (h0 : Heap) (v : Option Value) (h : Heap) (L : List Loc) : Prop := v = some (.int p0) ∧ Fr Z.heap.size L ∧ h = h0
set_option maxRecDepth 65536 in
set_option maxHeartbeats 40000000 in
theorem rm_pcir (l : Launch) (Z : State) (a0 : Array Value) (hw : ∀ d ∈ tables_1, d.before a0 Z = true) (zC : Int32) (SC : Sta Z Z.heap "java/lang/String" "COMPACT_STRINGS" "Z" (.int zC)) (PC : ¬ zC = (0 : Int32)) (vF : Value) (rF : vF = .null ∨ ∃ a, vF = .ref a) (SF : Sta Z Z.heap "jdk/internal/util/Preconditions" "SIOOBE_FORMATTER" "Ljava/util/function/BiFunction;" vF) (SA : Sta Z Z.heap "java/lang/StringUTF16" "$assertionsDisabled" "Z" (.int (1 : Int32))) (SH : Sta Z Z.heap "java/lang/StringUTF16" "HI_BYTE_SHIFT" "I" (.int (0 : Int32))) (SL : Sta Z Z.heap "java/lang/StringUTF16" "LO_BYTE_SHIFT" "I" (.int (8 : Int32))) (p0 : Int32) (p1 : Int32) (a1 : Addr) (h0 : Heap) (O0 : Old Z Z.heap.size h0) (P1 : (¬ (p0 < (0 : Int32)))) (P2 : (p0 < p1)) :
    Con l Z (⟨"jdk/internal/util/Preconditions", "checkIndex", "(IILjava/util/function/BiFunction;)I"⟩ : MethodName) jdk_41_method_11_code 3 (some .int) ({ frames := 0, cells := 0, slots := 0, locals := 0 } : Room) #[(.int p0), (.int p1), (.ref a1)] h0 (Q_pcir Z zC vF p0 p1 a1 h0) := by
  refine Con.intro pn3 ?_
  intro p e s m below meth c T0 X0 hx hby hml hown0 hnm hret hlk hZ0 e0
  have N0 := Fr.nil Z.heap.size
  refine castGo (g' := mkF m 0 #[.val (.int p0), .val (.int p1), .val (.ref a1)] []) (by first | rfl | (simp [entryFrame, mkF, argsToLocals, Value.category]; done)) ?_
  show Go _ _ _ _ (T0.setTop (mkF m 0 #[.val (.int p0), .val (.int p1), .val (.ref a1)] []))
  refine iL X0 hx (hb hby d_jdk_41m11_0) (q := 1) rfl rfl ?_
  refine ifN X0 hx (hb hby d_jdk_41m11_1) (q := 4) rfl ((if0 _ _).trans (flt P1).1) ?_
  refine iL X0 hx (hb hby d_jdk_41m11_4) (q := 5) rfl rfl ?_
  refine iL X0 hx (hb hby d_jdk_41m11_5) (q := 6) rfl rfl ?_
  refine icY X0 hx (hb hby d_jdk_41m11_6) (q := 16) (by decide) (by decide) (tlt P2).1 ?_
  refine iL X0 hx (hb hby d_jdk_41m11_16) (q := 17) rfl rfl ?_
  refine endP X0 hlk (fun h => by rw [hret] at h; cases h) (lastI X0 hx hret (hb hby d_jdk_41m11_17)) ?_ (by decide) (by decide)
  rw [e0]
  exact ⟨rfl, N0, rfl⟩
theorem d_jdk_42m155_0 : decode jdk_42_method_155_code 0 = .ok (.iload_n 0, 1) := by decide +kernel
theorem d_jdk_42m155_1 : decode jdk_42_method_155_code 1 = .ok (.iload_n 1, 1) := by decide +kernel
theorem d_jdk_42m155_2 : decode jdk_42_method_155_code 2 = .ok (.getstatic 1053, 3) := by decide +kernel
theorem wd96 {a0 : Array Value} {Z : State} (hw : ∀ d ∈ tables_1, d.before a0 Z = true) : ((Jvm.Cond.fieldLink "java/lang/String" (1053 : Nat) "jdk/internal/util/Preconditions" "SIOOBE_FORMATTER" "Ljava/util/function/BiFunction;") : Jvm.Cond).before a0 Z = true := hw _ (List.mem_of_getElem? (i := 96) rfl)
theorem d_jdk_42m155_5 : decode jdk_42_method_155_code 5 = .ok (.invokestatic 1059, 3) := by decide +kernel
theorem wd100 {a0 : Array Value} {Z : State} (hw : ∀ d ∈ tables_1, d.before a0 Z = true) : ((Jvm.Cond.code ({ cls := "jdk/internal/util/Preconditions", name := "checkIndex", desc := "(IILjava/util/function/BiFunction;)I" } : Jvm.MethodName) jdk_41_method_11_code (3 : Nat) (Option.some Jvm.ClassFile.FieldType.int)) : Jvm.Cond).before a0 Z = true := hw _ (List.mem_of_getElem? (i := 100) rfl)
theorem wd97 {a0 : Array Value} {Z : State} (hw : ∀ d ∈ tables_1, d.before a0 Z = true) : ((Jvm.Cond.initialized "jdk/internal/util/Preconditions") : Jvm.Cond).before a0 Z = true := hw _ (List.mem_of_getElem? (i := 97) rfl)
theorem pd9 : parseMethodDescriptor "(IILjava/util/function/BiFunction;)I" = some ⟨[.int, .int, (.object "java/util/function/BiFunction")], some .int⟩ := by decide +kernel
theorem wd98 {a0 : Array Value} {Z : State} (hw : ∀ d ∈ tables_1, d.before a0 Z = true) : ((Jvm.Cond.methodLink "java/lang/String" (1059 : Nat) ({ cls := "jdk/internal/util/Preconditions", name := "checkIndex", desc := "(IILjava/util/function/BiFunction;)I" } : Jvm.MethodName)) : Jvm.Cond).before a0 Z = true := hw _ (List.mem_of_getElem? (i := 98) rfl)
theorem wd99 {a0 : Array Value} {Z : State} (hw : ∀ d ∈ tables_1, d.before a0 Z = true) : ((Jvm.Cond.static ({ cls := "jdk/internal/util/Preconditions", name := "checkIndex", desc := "(IILjava/util/function/BiFunction;)I" } : Jvm.MethodName)) : Jvm.Cond).before a0 Z = true := hw _ (List.mem_of_getElem? (i := 99) rfl)
theorem d_jdk_42m155_8 : decode jdk_42_method_155_code 8 = .ok (.pop, 1) := by decide +kernel
theorem d_jdk_42m155_9 : decode jdk_42_method_155_code 9 = .ok (.return_, 1) := by decide +kernel
def Q_sci (Z : State) (zC : Int32) (vF : Value) (p0 : Int32) (p1 : Int32) (h0 : Heap) (v : Option Value) (h : Heap) (L : List Loc) : Prop := v = none ∧ Fr Z.heap.size L ∧ h = h0
set_option maxRecDepth 65536 in
set_option maxHeartbeats 40000000 in
theorem rm_sci (l : Launch) (Z : State) (a0 : Array Value) (hw : ∀ d ∈ tables_1, d.before a0 Z = true) (zC : Int32) (SC : Sta Z Z.heap "java/lang/String" "COMPACT_STRINGS" "Z" (.int zC)) (PC : ¬ zC = (0 : Int32)) (vF : Value) (rF : vF = .null ∨ ∃ a, vF = .ref a) (SF : Sta Z Z.heap "jdk/internal/util/Preconditions" "SIOOBE_FORMATTER" "Ljava/util/function/BiFunction;" vF) (SA : Sta Z Z.heap "java/lang/StringUTF16" "$assertionsDisabled" "Z" (.int (1 : Int32))) (SH : Sta Z Z.heap "java/lang/StringUTF16" "HI_BYTE_SHIFT" "I" (.int (0 : Int32))) (SL : Sta Z Z.heap "java/lang/StringUTF16" "LO_BYTE_SHIFT" "I" (.int (8 : Int32))) (p0 : Int32) (p1 : Int32) (h0 : Heap) (O0 : Old Z Z.heap.size h0) (P1 : (¬ (p0 < (0 : Int32)))) (P2 : (p0 < p1)) :
    Con l Z (⟨"java/lang/String", "checkIndex", "(II)V"⟩ : MethodName) jdk_42_method_155_code 2 none ({ frames := 1, cells := 0, slots := 0, locals := 14 } : Room) #[(.int p0), (.int p1)] h0 (Q_sci Z zC vF p0 p1 h0) := by
  refine Con.intro pn0 ?_
  intro p e s m below meth c T0 X0 hx hby hml hown0 hnm hret hlk hZ0 e0
  have N0 := Fr.nil Z.heap.size
  refine castGo (g' := mkF m 0 #[.val (.int p0), .val (.int p1)] []) (by first | rfl | (simp [entryFrame, mkF, argsToLocals, Value.category]; done)) ?_
  show Go _ _ _ _ (T0.setTop (mkF m 0 #[.val (.int p0), .val (.int p1)] []))
  rcases id rF with hF | ⟨aF, hF⟩
  · have SF1 : Sta Z Z.heap "jdk/internal/util/Preconditions" "SIOOBE_FORMATTER" "Ljava/util/function/BiFunction;" .null := by rw [← hF]; exact SF
    show Go _ _ _ _ (T0.setTop (mkF m 0 #[.val (.int p0), .val (.int p1)] []))
    refine iL X0 hx (hb hby d_jdk_42m155_0) (q := 1) rfl rfl ?_
    refine iL X0 hx (hb hby d_jdk_42m155_1) (q := 2) rfl rfl ?_
    refine g_getS X0 hx hZ0 hown0 (host := "") (Or.inl (wd96 hw)) Via.refl (SF1.ext O0.2) e0 (hb hby d_jdk_42m155_2) (q := 5) rfl ?_
    intro T504 X504 e504
    refine g_st X504 hx hZ0 hown0 (wd98 hw) (wd99 hw) (wd97 hw) (wd100 hw) (by decide) e504 (Con.back (W := 0) (rm_pcin l Z a0 hw zC SC PC vF rF SF SA SH SL p0 p1 h0 O0 P1 P2) hZ0 (wd100 hw) (wd97 hw) (by decide) (by decide)) (by rw [hml]; rfl) (lenOf pd9 rfl) rfl (Nat.le_of_eq rfl) (hb hby d_jdk_42m155_5) (q := 8) rfl (by decide) (by decide) ?_
    intro v505 T505 L505 X505 Q505
    obtain ⟨rfl, Nq505, e505⟩ := Q505
    have N505 := Fr.app N0 Nq505
    show Go _ _ _ _ (T505.setTop (mkF m 8 #[.val (.int p0), .val (.int p1)] [(.int p0)]))
    refine g_pop X505 hx (hb hby d_jdk_42m155_8) (q := 9) rfl rfl ?_
    refine endP X505 hlk (fun _ => rfl) (lastV X505 hx hret (hb hby d_jdk_42m155_9)) ?_ (by decide) (by decide)
    rw [e505]
    exact ⟨rfl, N505, rfl⟩
  · have SF1 : Sta Z Z.heap "jdk/internal/util/Preconditions" "SIOOBE_FORMATTER" "Ljava/util/function/BiFunction;" (.ref aF) := by rw [← hF]; exact SF
    show Go _ _ _ _ (T0.setTop (mkF m 0 #[.val (.int p0), .val (.int p1)] []))
    refine iL X0 hx (hb hby d_jdk_42m155_0) (q := 1) rfl rfl ?_
    refine iL X0 hx (hb hby d_jdk_42m155_1) (q := 2) rfl rfl ?_
    refine g_getS X0 hx hZ0 hown0 (host := "") (Or.inl (wd96 hw)) Via.refl (SF1.ext O0.2) e0 (hb hby d_jdk_42m155_2) (q := 5) rfl ?_
    intro T506 X506 e506
    refine g_st X506 hx hZ0 hown0 (wd98 hw) (wd99 hw) (wd97 hw) (wd100 hw) (by decide) e506 (Con.back (W := 0) (rm_pcir l Z a0 hw zC SC PC vF rF SF SA SH SL p0 p1 aF h0 O0 P1 P2) hZ0 (wd100 hw) (wd97 hw) (by decide) (by decide)) (by rw [hml]; rfl) (lenOf pd9 rfl) rfl (Nat.le_of_eq rfl) (hb hby d_jdk_42m155_5) (q := 8) rfl (by decide) (by decide) ?_
    intro v507 T507 L507 X507 Q507
    obtain ⟨rfl, Nq507, e507⟩ := Q507
    have N507 := Fr.app N0 Nq507
    show Go _ _ _ _ (T507.setTop (mkF m 8 #[.val (.int p0), .val (.int p1)] [(.int p0)]))
    refine g_pop X507 hx (hb hby d_jdk_42m155_8) (q := 9) rfl rfl ?_
    refine endP X507 hlk (fun _ => rfl) (lastV X507 hx hret (hb hby d_jdk_42m155_9)) ?_ (by decide) (by decide)
    rw [e507]
    exact ⟨rfl, N507, rfl⟩
theorem d_jdk_42m154_0 : decode jdk_42_method_154_code 0 = .ok (.getstatic 38, 3) := by decide +kernel
theorem d_jdk_42m154_3 : decode jdk_42_method_154_code 3 = .ok (.ifCond .eq 14, 3) := by decide +kernel
theorem d_jdk_42m154_6 : decode jdk_42_method_154_code 6 = .ok (.aload_n 0, 1) := by decide +kernel
theorem d_jdk_42m154_7 : decode jdk_42_method_154_code 7 = .ok (.getfield 15, 3) := by decide +kernel
theorem d_jdk_42m154_10 : decode jdk_42_method_154_code 10 = .ok (.ifCond .ne 7, 3) := by decide +kernel
theorem d_jdk_42m154_13 : decode jdk_42_method_154_code 13 = .ok (.iconst 1, 1) := by decide +kernel
theorem d_jdk_42m154_14 : decode jdk_42_method_154_code 14 = .ok (.goto 4, 3) := by decide +kernel
theorem d_jdk_42m154_18 : decode jdk_42_method_154_code 18 = .ok (.ireturn, 1) := by decide +kernel
def Q_isl0 (Z : State) (zC : Int32) (vF : Value) (a1 : Addr) (h0 : Heap) (v : Option Value) (h : Heap) (L : List Loc) : Prop := v = some (.int (1 : Int32)) ∧ Fr Z.heap.size L ∧ h = h0
set_option maxRecDepth 65536 in
set_option maxHeartbeats 40000000 in
theorem rm_isl0 (l : Launch) (Z : State) (a0 : Array Value) (hw : ∀ d ∈ tables_1, d.before a0 Z = true) (zC : Int32) (SC : Sta Z Z.heap "java/lang/String" "COMPACT_STRINGS" "Z" (.int zC)) (PC : ¬ zC = (0 : Int32)) (vF : Value) (rF : vF = .null ∨ ∃ a, vF = .ref a) (SF : Sta Z Z.heap "jdk/internal/util/Preconditions" "SIOOBE_FORMATTER" "Ljava/util/function/BiFunction;" vF) (SA : Sta Z Z.heap "java/lang/StringUTF16" "$assertionsDisabled" "Z" (.int (1 : Int32))) (SH : Sta Z Z.heap "java/lang/StringUTF16" "HI_BYTE_SHIFT" "I" (.int (0 : Int32))) (SL : Sta Z Z.heap "java/lang/StringUTF16" "LO_BYTE_SHIFT" "I" (.int (8 : Int32))) (a1 : Addr) (h0 : Heap) (O0 : Old Z Z.heap.size h0) (P1 : Fld Z h0 a1 "java/lang/String" "coder" "B" (.int (0 : Int32))) :
    Con l Z (⟨"java/lang/String", "isLatin1", "()Z"⟩ : MethodName) jdk_42_method_154_code 1 (some .boolean) ({ frames := 0, cells := 0, slots := 0, locals := 0 } : Room) #[(.ref a1)] h0 (Q_isl0 Z zC vF a1 h0) := by
  refine Con.intro pn0 ?_
  intro p e s m below meth c T0 X0 hx hby hml hown0 hnm hret hlk hZ0 e0
  have N0 := Fr.nil Z.heap.size
  refine castGo (g' := mkF m 0 #[.val (.ref a1)] []) (by first | rfl | (simp [entryFrame, mkF, argsToLocals, Value.category]; done)) ?_
  show Go _ _ _ _ (T0.setTop (mkF m 0 #[.val (.ref a1)] []))
  refine g_getS X0 hx hZ0 hown0 (host := "") (Or.inl (wd41 hw)) Via.refl (SC.ext O0.2) e0 (hb hby d_jdk_42m154_0) (q := 3) rfl ?_
  intro T508 X508 e508
  refine ifN X508 hx (hb hby d_jdk_42m154_3) (q := 6) rfl ((if0 _ _).trans (feq PC).1) ?_
  refine aL X508 hx (hb hby d_jdk_42m154_6) (q := 7) rfl rfl rfl ?_
  refine g_getF X508 hx hZ0 hown0 (host := "") (Or.inl (wd26 hw)) Via.refl P1 e508 (hb hby d_jdk_42m154_7) (q := 10) rfl ?_
  intro T509 X509 e509
  refine ifN X509 hx (hb hby d_jdk_42m154_10) (q := 13) rfl (by decide) ?_
  refine cI X509 hx (hb hby d_jdk_42m154_13) (q := 14) rfl (z := (1 : Int32)) rfl ?_
  refine g_goto X509 hx (hb hby d_jdk_42m154_14) (q := 18) (by decide) (by decide) ?_
  refine endP X509 hlk (fun h => by rw [hret] at h; cases h) (lastN X509 hx (t := .boolean) (z' := (1 : Int32)) hret (by simp) (by decide) (hb hby d_jdk_42m154_18)) ?_ (by decide) (by decide)
  rw [e509]
  exact ⟨rfl, N0, rfl⟩
theorem d_jdk_42m154_17 : decode jdk_42_method_154_code 17 = .ok (.iconst 0, 1) := by decide +kernel
def Q_isl1 (Z : State) (zC : Int32) (vF : Value) (a1 : Addr) (h0 : Heap) (v : Option Value) (h : Heap) (L : List Loc) : Prop := v = some (.int (0 : Int32)) ∧ Fr Z.heap.size L ∧ h = h0
set_option maxRecDepth 65536 in
set_option maxHeartbeats 40000000 in
theorem rm_isl1 (l : Launch) (Z : State) (a0 : Array Value) (hw : ∀ d ∈ tables_1, d.before a0 Z = true) (zC : Int32) (SC : Sta Z Z.heap "java/lang/String" "COMPACT_STRINGS" "Z" (.int zC)) (PC : ¬ zC = (0 : Int32)) (vF : Value) (rF : vF = .null ∨ ∃ a, vF = .ref a) (SF : Sta Z Z.heap "jdk/internal/util/Preconditions" "SIOOBE_FORMATTER" "Ljava/util/function/BiFunction;" vF) (SA : Sta Z Z.heap "java/lang/StringUTF16" "$assertionsDisabled" "Z" (.int (1 : Int32))) (SH : Sta Z Z.heap "java/lang/StringUTF16" "HI_BYTE_SHIFT" "I" (.int (0 : Int32))) (SL : Sta Z Z.heap "java/lang/StringUTF16" "LO_BYTE_SHIFT" "I" (.int (8 : Int32))) (a1 : Addr) (h0 : Heap) (O0 : Old Z Z.heap.size h0) (P1 : Fld Z h0 a1 "java/lang/String" "coder" "B" (.int (1 : Int32))) :
    Con l Z (⟨"java/lang/String", "isLatin1", "()Z"⟩ : MethodName) jdk_42_method_154_code 1 (some .boolean) ({ frames := 0, cells := 0, slots := 0, locals := 0 } : Room) #[(.ref a1)] h0 (Q_isl1 Z zC vF a1 h0) := by
  refine Con.intro pn0 ?_
  intro p e s m below meth c T0 X0 hx hby hml hown0 hnm hret hlk hZ0 e0
  have N0 := Fr.nil Z.heap.size
  refine castGo (g' := mkF m 0 #[.val (.ref a1)] []) (by first | rfl | (simp [entryFrame, mkF, argsToLocals, Value.category]; done)) ?_
  show Go _ _ _ _ (T0.setTop (mkF m 0 #[.val (.ref a1)] []))
  refine g_getS X0 hx hZ0 hown0 (host := "") (Or.inl (wd41 hw)) Via.refl (SC.ext O0.2) e0 (hb hby d_jdk_42m154_0) (q := 3) rfl ?_
  intro T510 X510 e510
  refine ifN X510 hx (hb hby d_jdk_42m154_3) (q := 6) rfl ((if0 _ _).trans (feq PC).1) ?_
  refine aL X510 hx (hb hby d_jdk_42m154_6) (q := 7) rfl rfl rfl ?_
  refine g_getF X510 hx hZ0 hown0 (host := "") (Or.inl (wd26 hw)) Via.refl P1 e510 (hb hby d_jdk_42m154_7) (q := 10) rfl ?_
  intro T511 X511 e511
  refine ifY X511 hx (hb hby d_jdk_42m154_10) (q := 17) (by decide) (by decide) (by decide) ?_
  refine cI X511 hx (hb hby d_jdk_42m154_17) (q := 18) rfl (z := (0 : Int32)) rfl ?_
  refine endP X511 hlk (fun h => by rw [hret] at h; cases h) (lastN X511 hx (t := .boolean) (z' := (0 : Int32)) hret (by simp) (by decide) (hb hby d_jdk_42m154_18)) ?_ (by decide) (by decide)
  rw [e511]
  exact ⟨rfl, N0, rfl⟩
theorem d_jdk_43m2_0 : decode jdk_43_method_2_code 0 = .ok (.iload_n 1, 1) := by decide +kernel
theorem d_jdk_43m2_1 : decode jdk_43_method_2_code 1 = .ok (.aload_n 0, 1) := by decide +kernel
theorem d_jdk_43m2_2 : decode jdk_43_method_2_code 2 = .ok (.arraylength, 1) := by decide +kernel
theorem d_jdk_43m2_3 : decode jdk_43_method_2_code 3 = .ok (.invokestatic 9, 3) := by decide +kernel
theorem wd95 {a0 : Array Value} {Z : State} (hw : ∀ d ∈ tables_1, d.before a0 Z = true) : ((Jvm.Cond.code ({ cls := "java/lang/String", name := "checkIndex", desc := "(II)V" } : Jvm.MethodName) jdk_42_method_155_code (2 : Nat) (Option.none : Option Jvm.ClassFile.FieldType)) : Jvm.Cond).before a0 Z = true := hw _ (List.mem_of_getElem? (i := 95) rfl)
theorem pd10 : parseMethodDescriptor "(II)V" = some ⟨[.int, .int], none⟩ := by decide +kernel
theorem wd105 {a0 : Array Value} {Z : State} (hw : ∀ d ∈ tables_1, d.before a0 Z = true) : ((Jvm.Cond.methodLink "java/lang/StringLatin1" (9 : Nat) ({ cls := "java/lang/String", name := "checkIndex", desc := "(II)V" } : Jvm.MethodName)) : Jvm.Cond).before a0 Z = true := hw _ (List.mem_of_getElem? (i := 105) rfl)
theorem wd94 {a0 : Array Value} {Z : State} (hw : ∀ d ∈ tables_1, d.before a0 Z = true) : ((Jvm.Cond.static ({ cls := "java/lang/String", name := "checkIndex", desc := "(II)V" } : Jvm.MethodName)) : Jvm.Cond).before a0 Z = true := hw _ (List.mem_of_getElem? (i := 94) rfl)
theorem d_jdk_43m2_6 : decode jdk_43_method_2_code 6 = .ok (.aload_n 0, 1) := by decide +kernel
theorem d_jdk_43m2_7 : decode jdk_43_method_2_code 7 = .ok (.iload_n 1, 1) := by decide +kernel
theorem d_jdk_43m2_8 : decode jdk_43_method_2_code 8 = .ok (.baload, 1) := by decide +kernel
theorem d_jdk_43m2_9 : decode jdk_43_method_2_code 9 = .ok (.sipush 255, 3) := by decide +kernel
theorem d_jdk_43m2_12 : decode jdk_43_method_2_code 12 = .ok (.iand, 1) := by decide +kernel
theorem d_jdk_43m2_13 : decode jdk_43_method_2_code 13 = .ok (.i2c, 1) := by decide +kernel
theorem d_jdk_43m2_14 : decode jdk_43_method_2_code 14 = .ok (.ireturn, 1) := by decide +kernel
def Q_lca0 (Z : State) (zC : Int32) (vF : Value) (a1 : Addr) (kb : ClassId) (c0 : Int32) (c1 : Int32) (h0 : Heap) (v : Option Value) (h : Heap) (L : List Loc) : Prop := v = some (.int c0) ∧ Fr Z.heap.size L ∧ h = h0
theorem pn4 : plainName "java/lang/StringLatin1" = true := by first | (simp [plainName, overriddenIn]; done) | decide +kernel
set_option maxRecDepth 65536 in
set_option maxHeartbeats 40000000 in
theorem rm_lca0 (l : Launch) (Z : State) (a0 : Array Value) (hw : ∀ d ∈ tables_1, d.before a0 Z = true) (zC : Int32) (SC : Sta Z Z.heap "java/lang/String" "COMPACT_STRINGS" "Z" (.int zC)) (PC : ¬ zC = (0 : Int32)) (vF : Value) (rF : vF = .null ∨ ∃ a, vF = .ref a) (SF : Sta Z Z.heap "jdk/internal/util/Preconditions" "SIOOBE_FORMATTER" "Ljava/util/function/BiFunction;" vF) (SA : Sta Z Z.heap "java/lang/StringUTF16" "$assertionsDisabled" "Z" (.int (1 : Int32))) (SH : Sta Z Z.heap "java/lang/StringUTF16" "HI_BYTE_SHIFT" "I" (.int (0 : Int32))) (SL : Sta Z Z.heap "java/lang/StringUTF16" "LO_BYTE_SHIFT" "I" (.int (8 : Int32))) (a1 : Addr) (kb : ClassId) (c0 : Int32) (c1 : Int32) (h0 : Heap) (O0 : Old Z Z.heap.size h0) (P1 : Arv Z h0 a1 kb .byte (2 : Int32) [(.int (StrChars.lo8 c0)), (.int (StrChars.lo8 c1))] (.int 0)) (H0 : (¬ (c0 < (0 : Int32)))) (J0 : (¬ ((65535 : Int32) < c0))) (W0 : (¬ ((255 : Int32) < c0))) :
    Con l Z (⟨"java/lang/StringLatin1", "charAt", "([BI)C"⟩ : MethodName) jdk_43_method_2_code 2 (some .char) ({ frames := 2, cells := 0, slots := 0, locals := 27 } : Room) #[(.ref a1), (.int (0 : Int32))] h0 (Q_lca0 Z zC vF a1 kb c0 c1 h0) := by
  refine Con.intro pn4 ?_
  intro p e s m below meth c T0 X0 hx hby hml hown0 hnm hret hlk hZ0 e0
  have N0 := Fr.nil Z.heap.size
  refine castGo (g' := mkF m 0 #[.val (.ref a1), .val (.int (0 : Int32))] []) (by first | rfl | (simp [entryFrame, mkF, argsToLocals, Value.category]; done)) ?_
  show Go _ _ _ _ (T0.setTop (mkF m 0 #[.val (.ref a1), .val (.int (0 : Int32))] []))
  refine iL X0 hx (hb hby d_jdk_43m2_0) (q := 1) rfl rfl ?_
  refine aL X0 hx (hb hby d_jdk_43m2_1) (q := 2) rfl rfl rfl ?_
  refine g_len X0 hx hZ0 P1 e0 (hb hby d_jdk_43m2_2) (q := 3) rfl ?_
  refine g_st X0 hx hZ0 hown0 (wd105 hw) (wd94 hw) (wd3 hw) (wd95 hw) (by decide) e0 (Con.back (W := 0) (rm_sci l Z a0 hw zC SC PC vF rF SF SA SH SL (0 : Int32) (2 : Int32) h0 O0 (by decide : ¬ ((0 : Int32) < (0 : Int32))) (by decide : (0 : Int32) < (2 : Int32))) hZ0 (wd95 hw) (wd3 hw) (by decide) (by decide)) (by rw [hml]; rfl) (lenOf pd10 rfl) rfl (Nat.le_of_eq rfl) (hb hby d_jdk_43m2_3) (q := 6) rfl (by decide) (by decide) ?_
  intro v512 T512 L512 X512 Q512
  obtain ⟨rfl, Nq512, e512⟩ := Q512
  have N512 := Fr.app N0 Nq512
  show Go _ _ _ _ (T512.setTop (mkF m 6 #[.val (.ref a1), .val (.int (0 : Int32))] []))
  refine aL X512 hx (hb hby d_jdk_43m2_6) (q := 7) rfl rfl rfl ?_
  refine iL X512 hx (hb hby d_jdk_43m2_7) (q := 8) rfl rfl ?_
  refine g_ldB X512 hx hZ0 P1 (i := 0) (by decide) (by decide) (by decide) (v := (.int (StrChars.lo8 c0))) rfl e512 (hb hby d_jdk_43m2_8) (q := 9) rfl ?_
  refine pI X512 hx (hb hby d_jdk_43m2_9) (q := 12) rfl (z := (255 : Int32)) rfl ?_
  refine g_iand X512 hx (hb hby d_jdk_43m2_12) (q := 13) rfl rfl ?_
  refine g_i2c X512 hx (hb hby d_jdk_43m2_13) (q := 14) rfl (z := c0) (StrChars.chr8_lo8 H0 W0) ?_
  refine endP X512 hlk (fun h => by rw [hret] at h; cases h) (lastN X512 hx (t := .char) (z' := c0) hret (by simp) (nar_of H0 J0) (hb hby d_jdk_43m2_14)) ?_ (by decide) (by decide)
  rw [e512]
  exact ⟨rfl, N512, rfl⟩
theorem d_jdk_52m6_0 : decode jdk_52_method_6_code 0 = .ok (.aload_n 0, 1) := by decide +kernel
theorem d_jdk_52m6_1 : decode jdk_52_method_6_code 1 = .ok (.arraylength, 1) := by decide +kernel
theorem d_jdk_52m6_2 : decode jdk_52_method_6_code 2 = .ok (.iconst 1, 1) := by decide +kernel
theorem d_jdk_52m6_3 : decode jdk_52_method_6_code 3 = .ok (.ishr, 1) := by decide +kernel
theorem d_jdk_52m6_4 : decode jdk_52_method_6_code 4 = .ok (.ireturn, 1) := by decide +kernel
def Q_ulen (Z : State) (zC : Int32) (vF : Value) (a1 : Addr) (kb : ClassId) (vs : List Value) (h0 : Heap) (v : Option Value) (h : Heap) (L : List Loc) : Prop := v = some (.int (2 : Int32)) ∧ Fr Z.heap.size L ∧ h = h0
set_option maxRecDepth 65536 in
set_option maxHeartbeats 40000000 in
theorem rm_ulen (l : Launch) (Z : State) (a0 : Array Value) (hw : ∀ d ∈ tables_1, d.before a0 Z = true) (zC : Int32) (SC : Sta Z Z.heap "java/lang/String" "COMPACT_STRINGS" "Z" (.int zC)) (PC : ¬ zC = (0 : Int32)) (vF : Value) (rF : vF = .null ∨ ∃ a, vF = .ref a) (SF : Sta Z Z.heap "jdk/internal/util/Preconditions" "SIOOBE_FORMATTER" "Ljava/util/function/BiFunction;" vF) (SA : Sta Z Z.heap "java/lang/StringUTF16" "$assertionsDisabled" "Z" (.int (1 : Int32))) (SH : Sta Z Z.heap "java/lang/StringUTF16" "HI_BYTE_SHIFT" "I" (.int (0 : Int32))) (SL : Sta Z Z.heap "java/lang/StringUTF16" "LO_BYTE_SHIFT" "I" (.int (8 : Int32))) (a1 : Addr) (kb : ClassId) (vs : List Value) (h0 : Heap) (O0 : Old Z Z.heap.size h0) (P1 : Arv Z h0 a1 kb .byte (4 : Int32) vs (.int 0)) :
    Con l Z (⟨"java/lang/StringUTF16", "length", "([B)I"⟩ : MethodName) jdk_52_method_6_code 1 (some .int) ({ frames := 0, cells := 0, slots := 0, locals := 0 } : Room) #[(.ref a1)] h0 (Q_ulen Z zC vF a1 kb vs h0) := by
  refine Con.intro pn2 ?_
  intro p e s m below meth c T0 X0 hx hby hml hown0 hnm hret hlk hZ0 e0
  have N0 := Fr.nil Z.heap.size
  refine castGo (g' := mkF m 0 #[.val (.ref a1)] []) (by first | rfl | (simp [entryFrame, mkF, argsToLocals, Value.category]; done)) ?_
  show Go _ _ _ _ (T0.setTop (mkF m 0 #[.val (.ref a1)] []))
  refine aL X0 hx (hb hby d_jdk_52m6_0) (q := 1) rfl rfl rfl ?_
  refine g_len X0 hx hZ0 P1 e0 (hb hby d_jdk_52m6_1) (q := 2) rfl ?_
  refine cI X0 hx (hb hby d_jdk_52m6_2) (q := 3) rfl (z := (1 : Int32)) rfl ?_
  refine g_ishr X0 hx (hb hby d_jdk_52m6_3) (q := 4) rfl (z := (2 : Int32)) (by decide) ?_
  refine endP X0 hlk (fun h => by rw [hret] at h; cases h) (lastI X0 hx hret (hb hby d_jdk_52m6_4)) ?_ (by decide) (by decide)
  rw [e0]
  exact ⟨rfl, N0, rfl⟩
theorem d_jdk_52m91_0 : decode jdk_52_method_91_code 0 = .ok (.iload_n 0, 1) := by decide +kernel
theorem d_jdk_52m91_1 : decode jdk_52_method_91_code 1 = .ok (.aload_n 1, 1) := by decide +kernel
theorem d_jdk_52m91_2 : decode jdk_52_method_91_code 2 = .ok (.invokestatic 48, 3) := by decide +kernel
theorem wd92 {a0 : Array Value} {Z : State} (hw : ∀ d ∈ tables_1, d.before a0 Z = true) : ((Jvm.Cond.code ({ cls := "java/lang/StringUTF16", name := "length", desc := "([B)I" } : Jvm.MethodName) jdk_52_method_6_code (1 : Nat) (Option.some Jvm.ClassFile.FieldType.int)) : Jvm.Cond).before a0 Z = true := hw _ (List.mem_of_getElem? (i := 92) rfl)
theorem pd11 : parseMethodDescriptor "([B)I" = some ⟨[(.array .byte)], some .int⟩ := by decide +kernel
theorem wd90 {a0 : Array Value} {Z : State} (hw : ∀ d ∈ tables_1, d.before a0 Z = true) : ((Jvm.Cond.methodLink "java/lang/StringUTF16" (48 : Nat) ({ cls := "java/lang/StringUTF16", name := "length", desc := "([B)I" } : Jvm.MethodName)) : Jvm.Cond).before a0 Z = true := hw _ (List.mem_of_getElem? (i := 90) rfl)
theorem wd91 {a0 : Array Value} {Z : State} (hw : ∀ d ∈ tables_1, d.before a0 Z = true) : ((Jvm.Cond.static ({ cls := "java/lang/StringUTF16", name := "length", desc := "([B)I" } : Jvm.MethodName)) : Jvm.Cond).before a0 Z = true := hw _ (List.mem_of_getElem? (i := 91) rfl)
theorem d_jdk_52m91_5 : decode jdk_52_method_91_code 5 = .ok (.invokestatic 414, 3) := by decide +kernel
theorem wd93 {a0 : Array Value} {Z : State} (hw : ∀ d ∈ tables_1, d.before a0 Z = true) : ((Jvm.Cond.methodLink "java/lang/StringUTF16" (414 : Nat) ({ cls := "java/lang/String", name := "checkIndex", desc := "(II)V" } : Jvm.MethodName)) : Jvm.Cond).before a0 Z = true := hw _ (List.mem_of_getElem? (i := 93) rfl)
theorem d_jdk_52m91_8 : decode jdk_52_method_91_code 8 = .ok (.return_, 1) := by decide +kernel
def Q_uci0 (Z : State) (zC : Int32) (vF : Value) (a1 : Addr) (kb : ClassId) (vs : List Value) (h0 : Heap) (v : Option Value) (h : Heap) (L : List Loc) : Prop := v = none ∧ Fr Z.heap.size L ∧ h = h0
set_option maxRecDepth 65536 in
set_option maxHeartbeats 40000000 in
theorem rm_uci0 (l : Launch) (Z : State) (a0 : Array Value) (hw : ∀ d ∈ tables_1, d.before a0 Z = true) (zC : Int32) (SC : Sta Z Z.heap "java/lang/String" "COMPACT_STRINGS" "Z" (.int zC)) (PC : ¬ zC = (0 : Int32)) (vF : Value) (rF : vF = .null ∨ ∃ a, vF = .ref a) (SF : Sta Z Z.heap "jdk/internal/util/Preconditions" "SIOOBE_FORMATTER" "Ljava/util/function/BiFunction;" vF) (SA : Sta Z Z.heap "java/lang/StringUTF16" "$assertionsDisabled" "Z" (.int (1 : Int32))) (SH : Sta Z Z.heap "java/lang/StringUTF16" "HI_BYTE_SHIFT" "I" (.int (0 : Int32))) (SL : Sta Z Z.heap "java/lang/StringUTF16" "LO_BYTE_SHIFT" "I" (.int (8 : Int32))) (a1 : Addr) (kb : ClassId) (vs : List Value) (h0 : Heap) (O0 : Old Z Z.heap.size h0) (P1 : Arv Z h0 a1 kb .byte (4 : Int32) vs (.int 0)) :
    Con l Z (⟨"java/lang/StringUTF16", "checkIndex", "(I[B)V"⟩ : MethodName) jdk_52_method_91_code 2 none ({ frames := 2, cells := 0, slots := 0, locals := 27 } : Room) #[(.int (0 : Int32)), (.ref a1)] h0 (Q_uci0 Z zC vF a1 kb vs h0) := by
  refine Con.intro pn2 ?_
  intro p e s m below meth c T0 X0 hx hby hml hown0 hnm hret hlk hZ0 e0
  have N0 := Fr.nil Z.heap.size
  refine castGo (g' := mkF m 0 #[.val (.int (0 : Int32)), .val (.ref a1)] []) (by first | rfl | (simp [entryFrame, mkF, argsToLocals, Value.category]; done)) ?_
  show Go _ _ _ _ (T0.setTop (mkF m 0 #[.val (.int (0 : Int32)), .val (.ref a1)] []))
  refine iL X0 hx (hb hby d_jdk_52m91_0) (q := 1) rfl rfl ?_
  refine aL X0 hx (hb hby d_jdk_52m91_1) (q := 2) rfl rfl rfl ?_
  refine g_st X0 hx hZ0 hown0 (wd90 hw) (wd91 hw) (wd44 hw) (wd92 hw) (by decide) e0 (Con.back (W := 1) (rm_ulen l Z a0 hw zC SC PC vF rF SF SA SH SL a1 kb vs h0 O0 P1) hZ0 (wd92 hw) (wd44 hw) (by decide) (by decide)) (by rw [hml]; rfl) (lenOf pd11 rfl) rfl (Nat.le_of_eq rfl) (hb hby d_jdk_52m91_2) (q := 5) rfl (by decide) (by decide) ?_
  intro v513 T513 L513 X513 Q513
  obtain ⟨rfl, Nq513, e513⟩ := Q513
  have N513 := Fr.app N0 Nq513
  show Go _ _ _ _ (T513.setTop (mkF m 5 #[.val (.int (0 : Int32)), .val (.ref a1)] [(.int (2 : Int32)), (.int (0 : Int32))]))
  refine g_st X513 hx hZ0 hown0 (wd93 hw) (wd94 hw) (wd3 hw) (wd95 hw) (by decide) e513 (Con.back (W := 0) (rm_sci l Z a0 hw zC SC PC vF rF SF SA SH SL (0 : Int32) (2 : Int32) h0 O0 (by decide : ¬ ((0 : Int32) < (0 : Int32))) (by decide : (0 : Int32) < (2 : Int32))) hZ0 (wd95 hw) (wd3 hw) (by decide) (by decide)) (by rw [hml]; rfl) (lenOf pd10 rfl) rfl (Nat.le_of_eq rfl) (hb hby d_jdk_52m91_5) (q := 8) rfl (by decide) (by decide) ?_
  intro v514 T514 L514 X514 Q514
  obtain ⟨rfl, Nq514, e514⟩ := Q514
  have N514 := Fr.app N513 Nq514
  show Go _ _ _ _ (T514.setTop (mkF m 8 #[.val (.int (0 : Int32)), .val (.ref a1)] []))
  refine endP X514 hlk (fun _ => rfl) (lastV X514 hx hret (hb hby d_jdk_52m91_8)) ?_ (by decide) (by decide)
  rw [e514]
  exact ⟨rfl, N514, rfl⟩
theorem d_jdk_52m83_0 : decode jdk_52_method_83_code 0 = .ok (.iload_n 1, 1) := by decide +kernel
theorem d_jdk_52m83_1 : decode jdk_52_method_83_code 1 = .ok (.aload_n 0, 1) := by decide +kernel
theorem d_jdk_52m83_2 : decode jdk_52_method_83_code 2 = .ok (.invokestatic 67, 3) := by decide +kernel
theorem wd89 {a0 : Array Value} {Z : State} (hw : ∀ d ∈ tables_1, d.before a0 Z = true) : ((Jvm.Cond.code ({ cls := "java/lang/StringUTF16", name := "checkIndex", desc := "(I[B)V" } : Jvm.MethodName) jdk_52_method_91_code (2 : Nat) (Option.none : Option Jvm.ClassFile.FieldType)) : Jvm.Cond).before a0 Z = true := hw _ (List.mem_of_getElem? (i := 89) rfl)
theorem pd12 : parseMethodDescriptor "(I[B)V" = some ⟨[.int, (.array .byte)], none⟩ := by decide +kernel
theorem wd87 {a0 : Array Value} {Z : State} (hw : ∀ d ∈ tables_1, d.before a0 Z = true) : ((Jvm.Cond.methodLink "java/lang/StringUTF16" (67 : Nat) ({ cls := "java/lang/StringUTF16", name := "checkIndex", desc := "(I[B)V" } : Jvm.MethodName)) : Jvm.Cond).before a0 Z = true := hw _ (List.mem_of_getElem? (i := 87) rfl)
theorem wd88 {a0 : Array Value} {Z : State} (hw : ∀ d ∈ tables_1, d.before a0 Z = true) : ((Jvm.Cond.static ({ cls := "java/lang/StringUTF16", name := "checkIndex", desc := "(I[B)V" } : Jvm.MethodName)) : Jvm.Cond).before a0 Z = true := hw _ (List.mem_of_getElem? (i := 88) rfl)
theorem d_jdk_52m83_5 : decode jdk_52_method_83_code 5 = .ok (.aload_n 0, 1) := by decide +kernel
theorem d_jdk_52m83_6 : decode jdk_52_method_83_code 6 = .ok (.iload_n 1, 1) := by decide +kernel
theorem d_jdk_52m83_7 : decode jdk_52_method_83_code 7 = .ok (.invokestatic 71, 3) := by decide +kernel
theorem d_jdk_52m83_10 : decode jdk_52_method_83_code 10 = .ok (.ireturn, 1) := by decide +kernel
def Q_uca0 (Z : State) (zC : Int32) (vF : Value) (a1 : Addr) (kb : ClassId) (c0 : Int32) (c1 : Int32) (h0 : Heap) (v : Option Value) (h : Heap) (L : List Loc) : Prop := v = some (.int c0) ∧ Fr Z.heap.size L ∧ h = h0
set_option maxRecDepth 65536 in
set_option maxHeartbeats 40000000 in
theorem rm_uca0 (l : Launch) (Z : State) (a0 : Array Value) (hw : ∀ d ∈ tables_1, d.before a0 Z = true) (zC : Int32) (SC : Sta Z Z.heap "java/lang/String" "COMPACT_STRINGS" "Z" (.int zC)) (PC : ¬ zC = (0 : Int32)) (vF : Value) (rF : vF = .null ∨ ∃ a, vF = .ref a) (SF : Sta Z Z.heap "jdk/internal/util/Preconditions" "SIOOBE_FORMATTER" "Ljava/util/function/BiFunction;" vF) (SA : Sta Z Z.heap "java/lang/StringUTF16" "$assertionsDisabled" "Z" (.int (1 : Int32))) (SH : Sta Z Z.heap "java/lang/StringUTF16" "HI_BYTE_SHIFT" "I" (.int (0 : Int32))) (SL : Sta Z Z.heap "java/lang/StringUTF16" "LO_BYTE_SHIFT" "I" (.int (8 : Int32))) (a1 : Addr) (kb : ClassId) (c0 : Int32) (c1 : Int32) (h0 : Heap) (O0 : Old Z Z.heap.size h0) (P1 : Arv Z h0 a1 kb .byte (4 : Int32) [(.int (StrChars.lo8 c0)), (.int (StrChars.hi8 c0)), (.int (StrChars.lo8 c1)), (.int (StrChars.hi8 c1))] (.int 0)) (H0 : (¬ (c0 < (0 : Int32)))) (J0 : (¬ ((65535 : Int32) < c0))) :
    Con l Z (⟨"java/lang/StringUTF16", "charAt", "([BI)C"⟩ : MethodName) jdk_52_method_83_code 2 (some .char) ({ frames := 3, cells := 0, slots := 0, locals := 40 } : Room) #[(.ref a1), (.int (0 : Int32))] h0 (Q_uca0 Z zC vF a1 kb c0 c1 h0) := by
  refine Con.intro pn2 ?_
  intro p e s m below meth c T0 X0 hx hby hml hown0 hnm hret hlk hZ0 e0
  have N0 := Fr.nil Z.heap.size
  refine castGo (g' := mkF m 0 #[.val (.ref a1), .val (.int (0 : Int32))] []) (by first | rfl | (simp [entryFrame, mkF, argsToLocals, Value.category]; done)) ?_
  show Go _ _ _ _ (T0.setTop (mkF m 0 #[.val (.ref a1), .val (.int (0 : Int32))] []))
  refine iL X0 hx (hb hby d_jdk_52m83_0) (q := 1) rfl rfl ?_
  refine aL X0 hx (hb hby d_jdk_52m83_1) (q := 2) rfl rfl rfl ?_
  refine g_st X0 hx hZ0 hown0 (wd87 hw) (wd88 hw) (wd44 hw) (wd89 hw) (by decide) e0 (Con.back (W := 0) (rm_uci0 l Z a0 hw zC SC PC vF rF SF SA SH SL a1 kb [(.int (StrChars.lo8 c0)), (.int (StrChars.hi8 c0)), (.int (StrChars.lo8 c1)), (.int (StrChars.hi8 c1))] h0 O0 P1) hZ0 (wd89 hw) (wd44 hw) (by decide) (by decide)) (by rw [hml]; rfl) (lenOf pd12 rfl) rfl (Nat.le_of_eq rfl) (hb hby d_jdk_52m83_2) (q := 5) rfl (by decide) (by decide) ?_
  intro v515 T515 L515 X515 Q515
  obtain ⟨rfl, Nq515, e515⟩ := Q515
  have N515 := Fr.app N0 Nq515
  show Go _ _ _ _ (T515.setTop (mkF m 5 #[.val (.ref a1), .val (.int (0 : Int32))] []))
  refine aL X515 hx (hb hby d_jdk_52m83_5) (q := 6) rfl rfl rfl ?_
  refine iL X515 hx (hb hby d_jdk_52m83_6) (q := 7) rfl rfl ?_
  refine g_st X515 hx hZ0 hown0 (wd68 hw) (wd69 hw) (wd44 hw) (wd70 hw) (by decide) e515 (Con.back (W := 0) (rm_get2_0 l Z a0 hw zC SC PC vF rF SF SA SH SL a1 kb c0 (StrChars.lo8 c1) (StrChars.hi8 c1) h0 O0 P1 H0 J0) hZ0 (wd70 hw) (wd44 hw) (by decide) (by decide)) (by rw [hml]; rfl) (lenOf pd6 rfl) rfl (Nat.le_of_eq rfl) (hb hby d_jdk_52m83_7) (q := 10) rfl (by decide) (by decide) ?_
  intro v516 T516 L516 X516 Q516
  obtain ⟨rfl, Nq516, e516⟩ := Q516
  have N516 := Fr.app N515 Nq516
  show Go _ _ _ _ (T516.setTop (mkF m 10 #[.val (.ref a1), .val (.int (0 : Int32))] [(.int c0)]))
  refine endP X516 hlk (fun h => by rw [hret] at h; cases h) (lastN X516 hx (t := .char) (z' := c0) hret (by simp) (nar_of H0 J0) (hb hby d_jdk_52m83_10)) ?_ (by decide) (by decide)
  rw [e516]
  exact ⟨rfl, N516, rfl⟩
theorem d_jdk_42m56_0 : decode jdk_42_method_56_code 0 = .ok (.aload_n 0, 1) := by decide +kernel
theorem d_jdk_42m56_1 : decode jdk_42_method_56_code 1 = .ok (.invokevirtual 492, 3) := by decide +kernel
theorem wd83 {a0 : Array Value} {Z : State} (hw : ∀ d ∈ tables_1, d.before a0 Z = true) : ((Jvm.Cond.code ({ cls := "java/lang/String", name := "isLatin1", desc := "()Z" } : Jvm.MethodName) jdk_42_method_154_code (1 : Nat) (Option.some Jvm.ClassFile.FieldType.boolean)) : Jvm.Cond).before a0 Z = true := hw _ (List.mem_of_getElem? (i := 83) rfl)
theorem pd13 : parseMethodDescriptor "()Z" = some ⟨[], some .boolean⟩ := by decide +kernel
theorem wd82 {a0 : Array Value} {Z : State} (hw : ∀ d ∈ tables_1, d.before a0 Z = true) : ((Jvm.Cond.selects "java/lang/String" ({ cls := "java/lang/String", name := "isLatin1", desc := "()Z" } : Jvm.MethodName) ({ cls := "java/lang/String", name := "isLatin1", desc := "()Z" } : Jvm.MethodName)) : Jvm.Cond).before a0 Z = true := hw _ (List.mem_of_getElem? (i := 82) rfl)
theorem wd79 {a0 : Array Value} {Z : State} (hw : ∀ d ∈ tables_1, d.before a0 Z = true) : ((Jvm.Cond.methodLink "java/lang/String" (492 : Nat) ({ cls := "java/lang/String", name := "isLatin1", desc := "()Z" } : Jvm.MethodName)) : Jvm.Cond).before a0 Z = true := hw _ (List.mem_of_getElem? (i := 79) rfl)
theorem wd80 {a0 : Array Value} {Z : State} (hw : ∀ d ∈ tables_1, d.before a0 Z = true) : ((Jvm.Cond.declares ({ cls := "java/lang/String", name := "isLatin1", desc := "()Z" } : Jvm.MethodName)) : Jvm.Cond).before a0 Z = true := hw _ (List.mem_of_getElem? (i := 80) rfl)
theorem wd81 {a0 : Array Value} {Z : State} (hw : ∀ d ∈ tables_1, d.before a0 Z = true) : ((Jvm.Cond.instanceMethod ({ cls := "java/lang/String", name := "isLatin1", desc := "()Z" } : Jvm.MethodName)) : Jvm.Cond).before a0 Z = true := hw _ (List.mem_of_getElem? (i := 81) rfl)
theorem d_jdk_42m56_4 : decode jdk_42_method_56_code 4 = .ok (.ifCond .eq 12, 3) := by decide +kernel
theorem d_jdk_42m56_7 : decode jdk_42_method_56_code 7 = .ok (.aload_n 0, 1) := by decide +kernel
theorem d_jdk_42m56_8 : decode jdk_42_method_56_code 8 = .ok (.getfield 9, 3) := by decide +kernel
theorem d_jdk_42m56_11 : decode jdk_42_method_56_code 11 = .ok (.iload_n 1, 1) := by decide +kernel
theorem d_jdk_42m56_12 : decode jdk_42_method_56_code 12 = .ok (.invokestatic 495, 3) := by decide +kernel
theorem wd104 {a0 : Array Value} {Z : State} (hw : ∀ d ∈ tables_1, d.before a0 Z = true) : ((Jvm.Cond.code ({ cls := "java/lang/StringLatin1", name := "charAt", desc := "([BI)C" } : Jvm.MethodName) jdk_43_method_2_code (2 : Nat) (Option.some Jvm.ClassFile.FieldType.char)) : Jvm.Cond).before a0 Z = true := hw _ (List.mem_of_getElem? (i := 104) rfl)
theorem wd103 {a0 : Array Value} {Z : State} (hw : ∀ d ∈ tables_1, d.before a0 Z = true) : ((Jvm.Cond.initialized "java/lang/StringLatin1") : Jvm.Cond).before a0 Z = true := hw _ (List.mem_of_getElem? (i := 103) rfl)
theorem wd101 {a0 : Array Value} {Z : State} (hw : ∀ d ∈ tables_1, d.before a0 Z = true) : ((Jvm.Cond.methodLink "java/lang/String" (495 : Nat) ({ cls := "java/lang/StringLatin1", name := "charAt", desc := "([BI)C" } : Jvm.MethodName)) : Jvm.Cond).before a0 Z = true := hw _ (List.mem_of_getElem? (i := 101) rfl)
theorem wd102 {a0 : Array Value} {Z : State} (hw : ∀ d ∈ tables_1, d.before a0 Z = true) : ((Jvm.Cond.static ({ cls := "java/lang/StringLatin1", name := "charAt", desc := "([BI)C" } : Jvm.MethodName)) : Jvm.Cond).before a0 Z = true := hw _ (List.mem_of_getElem? (i := 102) rfl)
theorem d_jdk_42m56_15 : decode jdk_42_method_56_code 15 = .ok (.ireturn, 1) := by decide +kernel
def Q_ca0_0 (Z : State) (zC : Int32) (vF : Value) (a1 : Addr) (t : Addr) (kb : ClassId) (c0 : Int32) (c1 : Int32) (h0 : Heap) (v : Option Value) (h : Heap) (L : List Loc) : Prop := v = some (.int c0) ∧ Fr Z.heap.size L ∧ h = h0
set_option maxRecDepth 65536 in
set_option maxHeartbeats 40000000 in
theorem rm_ca0_0 (l : Launch) (Z : State) (a0 : Array Value) (hw : ∀ d ∈ tables_1, d.before a0 Z = true) (zC : Int32) (SC : Sta Z Z.heap "java/lang/String" "COMPACT_STRINGS" "Z" (.int zC)) (PC : ¬ zC = (0 : Int32)) (vF : Value) (rF : vF = .null ∨ ∃ a, vF = .ref a) (SF : Sta Z Z.heap "jdk/internal/util/Preconditions" "SIOOBE_FORMATTER" "Ljava/util/function/BiFunction;" vF) (SA : Sta Z Z.heap "java/lang/StringUTF16" "$assertionsDisabled" "Z" (.int (1 : Int32))) (SH : Sta Z Z.heap "java/lang/StringUTF16" "HI_BYTE_SHIFT" "I" (.int (0 : Int32))) (SL : Sta Z Z.heap "java/lang/StringUTF16" "LO_BYTE_SHIFT" "I" (.int (8 : Int32))) (a1 : Addr) (t : Addr) (kb : ClassId) (c0 : Int32) (c1 : Int32) (h0 : Heap) (O0 : Old Z Z.heap.size h0) (P0 : Exa Z h0 a1 "java/lang/String") (P1 : Fld Z h0 a1 "java/lang/String" "coder" "B" (.int (0 : Int32))) (P2 : Fld Z h0 a1 "java/lang/String" "value" "[B" (.ref t)) (P3 : Arv Z h0 t kb .byte (2 : Int32) [(.int (StrChars.lo8 c0)), (.int (StrChars.lo8 c1))] (.int 0)) (H0 : (¬ (c0 < (0 : Int32)))) (J0 : (¬ ((65535 : Int32) < c0))) (W0 : (¬ ((255 : Int32) < c0))) :
    Con l Z (⟨"java/lang/String", "charAt", "(I)C"⟩ : MethodName) jdk_42_method_56_code 2 (some .char) ({ frames := 3, cells := 0, slots := 0, locals := 40 } : Room) #[(.ref a1), (.int (0 : Int32))] h0 (Q_ca0_0 Z zC vF a1 t kb c0 c1 h0) := by
  refine Con.intro pn0 ?_
  intro p e s m below meth c T0 X0 hx hby hml hown0 hnm hret hlk hZ0 e0
  have N0 := Fr.nil Z.heap.size
  refine castGo (g' := mkF m 0 #[.val (.ref a1), .val (.int (0 : Int32))] []) (by first | rfl | (simp [entryFrame, mkF, argsToLocals, Value.category]; done)) ?_
  show Go _ _ _ _ (T0.setTop (mkF m 0 #[.val (.ref a1), .val (.int (0 : Int32))] []))
  refine aL X0 hx (hb hby d_jdk_42m56_0) (q := 1) rfl rfl rfl ?_
  refine g_vi X0 hx hZ0 hown0 (wd79 hw) (wd80 hw) (notFace_of_selects (args := #[]) (mvT hZ0 (wd82 hw))) (wd82 hw) (wd81 hw) (by decide) P0 e0 (Con.back (W := 0) (rm_isl0 l Z a0 hw zC SC PC vF rF SF SA SH SL a1 h0 O0 P1) hZ0 (wd83 hw) (wd3 hw) (by decide) (by decide)) (by rw [hml]; rfl) (lenOf pd13 rfl) rfl (Nat.le_of_eq rfl) (hb hby d_jdk_42m56_1) (q := 4) rfl (by decide) (by decide) ?_
  intro v517 T517 L517 X517 Q517
  obtain ⟨rfl, Nq517, e517⟩ := Q517
  have N517 := Fr.app N0 Nq517
  show Go _ _ _ _ (T517.setTop (mkF m 4 #[.val (.ref a1), .val (.int (0 : Int32))] [(.int (1 : Int32))]))
  refine ifN X517 hx (hb hby d_jdk_42m56_4) (q := 7) rfl (by decide) ?_
  refine aL X517 hx (hb hby d_jdk_42m56_7) (q := 8) rfl rfl rfl ?_
  refine g_getF X517 hx hZ0 hown0 (host := "") (Or.inl (wd25 hw)) Via.refl P2 e517 (hb hby d_jdk_42m56_8) (q := 11) rfl ?_
  intro T518 X518 e518
  refine iL X518 hx (hb hby d_jdk_42m56_11) (q := 12) rfl rfl ?_
  refine g_st X518 hx hZ0 hown0 (wd101 hw) (wd102 hw) (wd103 hw) (wd104 hw) (by decide) e518 (Con.back (W := 0) (rm_lca0 l Z a0 hw zC SC PC vF rF SF SA SH SL t kb c0 c1 h0 O0 P3 H0 J0 W0) hZ0 (wd104 hw) (wd103 hw) (by decide) (by decide)) (by rw [hml]; rfl) (lenOf pd6 rfl) rfl (Nat.le_of_eq rfl) (hb hby d_jdk_42m56_12) (q := 15) rfl (by decide) (by decide) ?_
  intro v519 T519 L519 X519 Q519
  obtain ⟨rfl, Nq519, e519⟩ := Q519
  have N519 := Fr.app N517 Nq519
  show Go _ _ _ _ (T519.setTop (mkF m 15 #[.val (.ref a1), .val (.int (0 : Int32))] [(.int c0)]))
  refine endP X519 hlk (fun h => by rw [hret] at h; cases h) (lastN X519 hx (t := .char) (z' := c0) hret (by simp) (nar_of H0 J0) (hb hby d_jdk_42m56_15)) ?_ (by decide) (by decide)
  rw [e519]
  exact ⟨rfl, N519, rfl⟩
theorem d_jdk_42m56_16 : decode jdk_42_method_56_code 16 = .ok (.aload_n 0, 1) := by decide +kernel
theorem d_jdk_42m56_17 : decode jdk_42_method_56_code 17 = .ok (.getfield 9, 3) := by decide +kernel
theorem d_jdk_42m56_20 : decode jdk_42_method_56_code 20 = .ok (.iload_n 1, 1) := by decide +kernel
theorem d_jdk_42m56_21 : decode jdk_42_method_56_code 21 = .ok (.invokestatic 498, 3) := by decide +kernel
theorem wd86 {a0 : Array Value} {Z : State} (hw : ∀ d ∈ tables_1, d.before a0 Z = true) : ((Jvm.Cond.code ({ cls := "java/lang/StringUTF16", name := "charAt", desc := "([BI)C" } : Jvm.MethodName) jdk_52_method_83_code (2 : Nat) (Option.some Jvm.ClassFile.FieldType.char)) : Jvm.Cond).before a0 Z = true := hw _ (List.mem_of_getElem? (i := 86) rfl)
theorem wd84 {a0 : Array Value} {Z : State} (hw : ∀ d ∈ tables_1, d.before a0 Z = true) : ((Jvm.Cond.methodLink "java/lang/String" (498 : Nat) ({ cls := "java/lang/StringUTF16", name := "charAt", desc := "([BI)C" } : Jvm.MethodName)) : Jvm.Cond).before a0 Z = true := hw _ (List.mem_of_getElem? (i := 84) rfl)
theorem wd85 {a0 : Array Value} {Z : State} (hw : ∀ d ∈ tables_1, d.before a0 Z = true) : ((Jvm.Cond.static ({ cls := "java/lang/StringUTF16", name := "charAt", desc := "([BI)C" } : Jvm.MethodName)) : Jvm.Cond).before a0 Z = true := hw _ (List.mem_of_getElem? (i := 85) rfl)
theorem d_jdk_42m56_24 : decode jdk_42_method_56_code 24 = .ok (.ireturn, 1) := by decide +kernel
def Q_ca1_0 (Z : State) (zC : Int32) (vF : Value) (a1 : Addr) (t : Addr) (kb : ClassId) (c0 : Int32) (c1 : Int32) (h0 : Heap) (v : Option Value) (h : Heap) (L : List Loc) : Prop := v = some (.int c0) ∧ Fr Z.heap.size L ∧ h = h0
set_option maxRecDepth 65536 in
set_option maxHeartbeats 40000000 in
theorem rm_ca1_0 (l : Launch) (Z : State) (a0 : Array Value) (hw : ∀ d ∈ tables_1, d.before a0 Z = true) (zC : Int32) (SC : Sta Z Z.heap "java/lang/String" "COMPACT_STRINGS" "Z" (.int zC)) (PC : ¬ zC = (0 : Int32)) (vF : Value) (rF : vF = .null ∨ ∃ a, vF = .ref a) (SF : Sta Z Z.heap "jdk/internal/util/Preconditions" "SIOOBE_FORMATTER" "Ljava/util/function/BiFunction;" vF) (SA : Sta Z Z.heap "java/lang/StringUTF16" "$assertionsDisabled" "Z" (.int (1 : Int32))) (SH : Sta Z Z.heap "java/lang/StringUTF16" "HI_BYTE_SHIFT" "I" (.int (0 : Int32))) (SL : Sta Z Z.heap "java/lang/StringUTF16" "LO_BYTE_SHIFT" "I" (.int (8 : Int32))) (a1 : Addr) (t : Addr) (kb : ClassId) (c0 : Int32) (c1 : Int32) (h0 : Heap) (O0 : Old Z Z.heap.size h0) (P0 : Exa Z h0 a1 "java/lang/String") (P1 : Fld Z h0 a1 "java/lang/String" "coder" "B" (.int (1 : Int32))) (P2 : Fld Z h0 a1 "java/lang/String" "value" "[B" (.ref t)) (P3 : Arv Z h0 t kb .byte (4 : Int32) [(.int (StrChars.lo8 c0)), (.int (StrChars.hi8 c0)), (.int (StrChars.lo8 c1)), (.int (StrChars.hi8 c1))] (.int 0)) (H0 : (¬ (c0 < (0 : Int32)))) (J0 : (¬ ((65535 : Int32) < c0))) :
    Con l Z (⟨"java/lang/String", "charAt", "(I)C"⟩ : MethodName) jdk_42_method_56_code 2 (some .char) ({ frames := 4, cells := 0, slots := 0, locals := 53 } : Room) #[(.ref a1), (.int (0 : Int32))] h0 (Q_ca1_0 Z zC vF a1 t kb c0 c1 h0) := by
  refine Con.intro pn0 ?_
  intro p e s m below meth c T0 X0 hx hby hml hown0 hnm hret hlk hZ0 e0
  have N0 := Fr.nil Z.heap.size
  refine castGo (g' := mkF m 0 #[.val (.ref a1), .val (.int (0 : Int32))] []) (by first | rfl | (simp [entryFrame, mkF, argsToLocals, Value.category]; done)) ?_
  show Go _ _ _ _ (T0.setTop (mkF m 0 #[.val (.ref a1), .val (.int (0 : Int32))] []))
  refine aL X0 hx (hb hby d_jdk_42m56_0) (q := 1) rfl rfl rfl ?_
  refine g_vi X0 hx hZ0 hown0 (wd79 hw) (wd80 hw) (notFace_of_selects (args := #[]) (mvT hZ0 (wd82 hw))) (wd82 hw) (wd81 hw) (by decide) P0 e0 (Con.back (W := 0) (rm_isl1 l Z a0 hw zC SC PC vF rF SF SA SH SL a1 h0 O0 P1) hZ0 (wd83 hw) (wd3 hw) (by decide) (by decide)) (by rw [hml]; rfl) (lenOf pd13 rfl) rfl (Nat.le_of_eq rfl) (hb hby d_jdk_42m56_1) (q := 4) rfl (by decide) (by decide) ?_
  intro v520 T520 L520 X520 Q520
  obtain ⟨rfl, Nq520, e520⟩ := Q520
  have N520 := Fr.app N0 Nq520
  show Go _ _ _ _ (T520.setTop (mkF m 4 #[.val (.ref a1), .val (.int (0 : Int32))] [(.int (0 : Int32))]))
  refine ifY X520 hx (hb hby d_jdk_42m56_4) (q := 16) (by decide) (by decide) (by decide) ?_
  refine aL X520 hx (hb hby d_jdk_42m56_16) (q := 17) rfl rfl rfl ?_
  refine g_getF X520 hx hZ0 hown0 (host := "") (Or.inl (wd25 hw)) Via.refl P2 e520 (hb hby d_jdk_42m56_17) (q := 20) rfl ?_
  intro T521 X521 e521
  refine iL X521 hx (hb hby d_jdk_42m56_20) (q := 21) rfl rfl ?_
  refine g_st X521 hx hZ0 hown0 (wd84 hw) (wd85 hw) (wd44 hw) (wd86 hw) (by decide) e521 (Con.back (W := 0) (rm_uca0 l Z a0 hw zC SC PC vF rF SF SA SH SL t kb c0 c1 h0 O0 P3 H0 J0) hZ0 (wd86 hw) (wd44 hw) (by decide) (by decide)) (by rw [hml]; rfl) (lenOf pd6 rfl) rfl (Nat.le_of_eq rfl) (hb hby d_jdk_42m56_21) (q := 24) rfl (by decide) (by decide) ?_
  intro v522 T522 L522 X522 Q522
  obtain ⟨rfl, Nq522, e522⟩ := Q522
  have N522 := Fr.app N520 Nq522
  show Go _ _ _ _ (T522.setTop (mkF m 24 #[.val (.ref a1), .val (.int (0 : Int32))] [(.int c0)]))
  refine endP X522 hlk (fun h => by rw [hret] at h; cases h) (lastN X522 hx (t := .char) (z' := c0) hret (by simp) (nar_of H0 J0) (hb hby d_jdk_42m56_24)) ?_ (by decide) (by decide)
  rw [e522]
  exact ⟨rfl, N522, rfl⟩
def Q_lca1 (Z : State) (zC : Int32) (vF : Value) (a1 : Addr) (kb : ClassId) (c0 : Int32) (c1 : Int32) (h0 : Heap) (v : Option Value) (h : Heap) (L : List Loc) : Prop := v = some (.int c1) ∧ Fr Z.heap.size L ∧ h = h0
set_option maxRecDepth 65536 in
set_option maxHeartbeats 40000000 in
theorem rm_lca1 (l : Launch) (Z : State) (a0 : Array Value) (hw : ∀ d ∈ tables_1, d.before a0 Z = true) (zC : Int32) (SC : Sta Z Z.heap "java/lang/String" "COMPACT_STRINGS" "Z" (.int zC)) (PC : ¬ zC = (0 : Int32)) (vF : Value) (rF : vF = .null ∨ ∃ a, vF = .ref a) (SF : Sta Z Z.heap "jdk/internal/util/Preconditions" "SIOOBE_FORMATTER" "Ljava/util/function/BiFunction;" vF) (SA : Sta Z Z.heap "java/lang/StringUTF16" "$assertionsDisabled" "Z" (.int (1 : Int32))) (SH : Sta Z Z.heap "java/lang/StringUTF16" "HI_BYTE_SHIFT" "I" (.int (0 : Int32))) (SL : Sta Z Z.heap "java/lang/StringUTF16" "LO_BYTE_SHIFT" "I" (.int (8 : Int32))) (a1 : Addr) (kb : ClassId) (c0 : Int32) (c1 : Int32) (h0 : Heap) (O0 : Old Z Z.heap.size h0) (P1 : Arv Z h0 a1 kb .byte (2 : Int32) [(.int (StrChars.lo8 c0)), (.int (StrChars.lo8 c1))] (.int 0)) (H1 : (¬ (c1 < (0 : Int32)))) (J1 : (¬ ((65535 : Int32) < c1))) (W1 : (¬ ((255 : Int32) < c1))) :
    Con l Z (⟨"java/lang/StringLatin1", "charAt", "([BI)C"⟩ : MethodName) jdk_43_method_2_code 2 (some .char) ({ frames := 2, cells := 0, slots := 0, locals := 27 } : Room) #[(.ref a1), (.int (1 : Int32))] h0 (Q_lca1 Z zC vF a1 kb c0 c1 h0) := by
  refine Con.intro pn4 ?_
  intro p e s m below meth c T0 X0 hx hby hml hown0 hnm hret hlk hZ0 e0
  have N0 := Fr.nil Z.heap.size
  refine castGo (g' := mkF m 0 #[.val (.ref a1), .val (.int (1 : Int32))] []) (by first | rfl | (simp [entryFrame, mkF, argsToLocals, Value.category]; done)) ?_
  show Go _ _ _ _ (T0.setTop (mkF m 0 #[.val (.ref a1), .val (.int (1 : Int32))] []))
  refine iL X0 hx (hb hby d_jdk_43m2_0) (q := 1) rfl rfl ?_
  refine aL X0 hx (hb hby d_jdk_43m2_1) (q := 2) rfl rfl rfl ?_
  refine g_len X0 hx hZ0 P1 e0 (hb hby d_jdk_43m2_2) (q := 3) rfl ?_
  refine g_st X0 hx hZ0 hown0 (wd105 hw) (wd94 hw) (wd3 hw) (wd95 hw) (by decide) e0 (Con.back (W := 0) (rm_sci l Z a0 hw zC SC PC vF rF SF SA SH SL (1 : Int32) (2 : Int32) h0 O0 (by decide : ¬ ((1 : Int32) < (0 : Int32))) (by decide : (1 : Int32) < (2 : Int32))) hZ0 (wd95 hw) (wd3 hw) (by decide) (by decide)) (by rw [hml]; rfl) (lenOf pd10 rfl) rfl (Nat.le_of_eq rfl) (hb hby d_jdk_43m2_3) (q := 6) rfl (by decide) (by decide) ?_
  intro v523 T523 L523 X523 Q523
  obtain ⟨rfl, Nq523, e523⟩ := Q523
  have N523 := Fr.app N0 Nq523
  show Go _ _ _ _ (T523.setTop (mkF m 6 #[.val (.ref a1), .val (.int (1 : Int32))] []))
  refine aL X523 hx (hb hby d_jdk_43m2_6) (q := 7) rfl rfl rfl ?_
  refine iL X523 hx (hb hby d_jdk_43m2_7) (q := 8) rfl rfl ?_
  refine g_ldB X523 hx hZ0 P1 (i := 1) (by decide) (by decide) (by decide) (v := (.int (StrChars.lo8 c1))) rfl e523 (hb hby d_jdk_43m2_8) (q := 9) rfl ?_
  refine pI X523 hx (hb hby d_jdk_43m2_9) (q := 12) rfl (z := (255 : Int32)) rfl ?_
  refine g_iand X523 hx (hb hby d_jdk_43m2_12) (q := 13) rfl rfl ?_
  refine g_i2c X523 hx (hb hby d_jdk_43m2_13) (q := 14) rfl (z := c1) (StrChars.chr8_lo8 H1 W1) ?_
  refine endP X523 hlk (fun h => by rw [hret] at h; cases h) (lastN X523 hx (t := .char) (z' := c1) hret (by simp) (nar_of H1 J1) (hb hby d_jdk_43m2_14)) ?_ (by decide) (by decide)
  rw [e523]
  exact ⟨rfl, N523, rfl⟩
def Q_uci1 (Z : State) (zC : Int32) (vF : Value) (a1 : Addr) (kb : ClassId) (vs : List Value) (h0 : Heap) (v : Option Value) (h : Heap) (L : List Loc) : Prop := v = none ∧ Fr Z.heap.size L ∧ h = h0
set_option maxRecDepth 65536 in
set_option maxHeartbeats 40000000 in
theorem rm_uci1 (l : Launch) (Z : State) (a0 : Array Value) (hw : ∀ d ∈ tables_1, d.before a0 Z = true) (zC : Int32) (SC : Sta Z Z.heap "java/lang/String" "COMPACT_STRINGS" "Z" (.int zC)) (PC : ¬ zC = (0 : Int32)) (vF : Value) (rF : vF = .null ∨ ∃ a, vF = .ref a) (SF : Sta Z Z.heap "jdk/internal/util/Preconditions" "SIOOBE_FORMATTER" "Ljava/util/function/BiFunction;" vF) (SA : Sta Z Z.heap "java/lang/StringUTF16" "$assertionsDisabled" "Z" (.int (1 : Int32))) (SH : Sta Z Z.heap "java/lang/StringUTF16" "HI_BYTE_SHIFT" "I" (.int (0 : Int32))) (SL : Sta Z Z.heap "java/lang/StringUTF16" "LO_BYTE_SHIFT" "I" (.int (8 : Int32))) (a1 : Addr) (kb : ClassId) (vs : List Value) (h0 : Heap) (O0 : Old Z Z.heap.size h0) (P1 : Arv Z h0 a1 kb .byte (4 : Int32) vs (.int 0)) :
    Con l Z (⟨"java/lang/StringUTF16", "checkIndex", "(I[B)V"⟩ : MethodName) jdk_52_method_91_code 2 none ({ frames := 2, cells := 0, slots := 0, locals := 27 } : Room) #[(.int (1 : Int32)), (.ref a1)] h0 (Q_uci1 Z zC vF a1 kb vs h0) := by
  refine Con.intro pn2 ?_
  intro p e s m below meth c T0 X0 hx hby hml hown0 hnm hret hlk hZ0 e0
  have N0 := Fr.nil Z.heap.size
  refine castGo (g' := mkF m 0 #[.val (.int (1 : Int32)), .val (.ref a1)] []) (by first | rfl | (simp [entryFrame, mkF, argsToLocals, Value.category]; done)) ?_
  show Go _ _ _ _ (T0.setTop (mkF m 0 #[.val (.int (1 : Int32)), .val (.ref a1)] []))
  refine iL X0 hx (hb hby d_jdk_52m91_0) (q := 1) rfl rfl ?_
  refine aL X0 hx (hb hby d_jdk_52m91_1) (q := 2) rfl rfl rfl ?_
  refine g_st X0 hx hZ0 hown0 (wd90 hw) (wd91 hw) (wd44 hw) (wd92 hw) (by decide) e0 (Con.back (W := 1) (rm_ulen l Z a0 hw zC SC PC vF rF SF SA SH SL a1 kb vs h0 O0 P1) hZ0 (wd92 hw) (wd44 hw) (by decide) (by decide)) (by rw [hml]; rfl) (lenOf pd11 rfl) rfl (Nat.le_of_eq rfl) (hb hby d_jdk_52m91_2) (q := 5) rfl (by decide) (by decide) ?_
  intro v524 T524 L524 X524 Q524
  obtain ⟨rfl, Nq524, e524⟩ := Q524
  have N524 := Fr.app N0 Nq524
  show Go _ _ _ _ (T524.setTop (mkF m 5 #[.val (.int (1 : Int32)), .val (.ref a1)] [(.int (2 : Int32)), (.int (1 : Int32))]))
  refine g_st X524 hx hZ0 hown0 (wd93 hw) (wd94 hw) (wd3 hw) (wd95 hw) (by decide) e524 (Con.back (W := 0) (rm_sci l Z a0 hw zC SC PC vF rF SF SA SH SL (1 : Int32) (2 : Int32) h0 O0 (by decide : ¬ ((1 : Int32) < (0 : Int32))) (by decide : (1 : Int32) < (2 : Int32))) hZ0 (wd95 hw) (wd3 hw) (by decide) (by decide)) (by rw [hml]; rfl) (lenOf pd10 rfl) rfl (Nat.le_of_eq rfl) (hb hby d_jdk_52m91_5) (q := 8) rfl (by decide) (by decide) ?_
  intro v525 T525 L525 X525 Q525
  obtain ⟨rfl, Nq525, e525⟩ := Q525
  have N525 := Fr.app N524 Nq525
  show Go _ _ _ _ (T525.setTop (mkF m 8 #[.val (.int (1 : Int32)), .val (.ref a1)] []))
  refine endP X525 hlk (fun _ => rfl) (lastV X525 hx hret (hb hby d_jdk_52m91_8)) ?_ (by decide) (by decide)
  rw [e525]
  exact ⟨rfl, N525, rfl⟩
def Q_uca1 (Z : State) (zC : Int32) (vF : Value) (a1 : Addr) (kb : ClassId) (c0 : Int32) (c1 : Int32) (h0 : Heap) (v : Option Value) (h : Heap) (L : List Loc) : Prop := v = some (.int c1) ∧ Fr Z.heap.size L ∧ h = h0
set_option maxRecDepth 65536 in
set_option maxHeartbeats 40000000 in
theorem rm_uca1 (l : Launch) (Z : State) (a0 : Array Value) (hw : ∀ d ∈ tables_1, d.before a0 Z = true) (zC : Int32) (SC : Sta Z Z.heap "java/lang/String" "COMPACT_STRINGS" "Z" (.int zC)) (PC : ¬ zC = (0 : Int32)) (vF : Value) (rF : vF = .null ∨ ∃ a, vF = .ref a) (SF : Sta Z Z.heap "jdk/internal/util/Preconditions" "SIOOBE_FORMATTER" "Ljava/util/function/BiFunction;" vF) (SA : Sta Z Z.heap "java/lang/StringUTF16" "$assertionsDisabled" "Z" (.int (1 : Int32))) (SH : Sta Z Z.heap "java/lang/StringUTF16" "HI_BYTE_SHIFT" "I" (.int (0 : Int32))) (SL : Sta Z Z.heap "java/lang/StringUTF16" "LO_BYTE_SHIFT" "I" (.int (8 : Int32))) (a1 : Addr) (kb : ClassId) (c0 : Int32) (c1 : Int32) (h0 : Heap) (O0 : Old Z Z.heap.size h0) (P1 : Arv Z h0 a1 kb .byte (4 : Int32) [(.int (StrChars.lo8 c0)), (.int (StrChars.hi8 c0)), (.int (StrChars.lo8 c1)), (.int (StrChars.hi8 c1))] (.int 0)) (H1 : (¬ (c1 < (0 : Int32)))) (J1 : (¬ ((65535 : Int32) < c1))) :
    Con l Z (⟨"java/lang/StringUTF16", "charAt", "([BI)C"⟩ : MethodName) jdk_52_method_83_code 2 (some .char) ({ frames := 3, cells := 0, slots := 0, locals := 40 } : Room) #[(.ref a1), (.int (1 : Int32))] h0 (Q_uca1 Z zC vF a1 kb c0 c1 h0) := by
  refine Con.intro pn2 ?_
  intro p e s m below meth c T0 X0 hx hby hml hown0 hnm hret hlk hZ0 e0
  have N0 := Fr.nil Z.heap.size
  refine castGo (g' := mkF m 0 #[.val (.ref a1), .val (.int (1 : Int32))] []) (by first | rfl | (simp [entryFrame, mkF, argsToLocals, Value.category]; done)) ?_
  show Go _ _ _ _ (T0.setTop (mkF m 0 #[.val (.ref a1), .val (.int (1 : Int32))] []))
  refine iL X0 hx (hb hby d_jdk_52m83_0) (q := 1) rfl rfl ?_
  refine aL X0 hx (hb hby d_jdk_52m83_1) (q := 2) rfl rfl rfl ?_
  refine g_st X0 hx hZ0 hown0 (wd87 hw) (wd88 hw) (wd44 hw) (wd89 hw) (by decide) e0 (Con.back (W := 0) (rm_uci1 l Z a0 hw zC SC PC vF rF SF SA SH SL a1 kb [(.int (StrChars.lo8 c0)), (.int (StrChars.hi8 c0)), (.int (StrChars.lo8 c1)), (.int (StrChars.hi8 c1))] h0 O0 P1) hZ0 (wd89 hw) (wd44 hw) (by decide) (by decide)) (by rw [hml]; rfl) (lenOf pd12 rfl) rfl (Nat.le_of_eq rfl) (hb hby d_jdk_52m83_2) (q := 5) rfl (by decide) (by decide) ?_
  intro v526 T526 L526 X526 Q526
  obtain ⟨rfl, Nq526, e526⟩ := Q526
  have N526 := Fr.app N0 Nq526
  show Go _ _ _ _ (T526.setTop (mkF m 5 #[.val (.ref a1), .val (.int (1 : Int32))] []))
  refine aL X526 hx (hb hby d_jdk_52m83_5) (q := 6) rfl rfl rfl ?_
  refine iL X526 hx (hb hby d_jdk_52m83_6) (q := 7) rfl rfl ?_
  refine g_st X526 hx hZ0 hown0 (wd68 hw) (wd69 hw) (wd44 hw) (wd70 hw) (by decide) e526 (Con.back (W := 0) (rm_get2_1 l Z a0 hw zC SC PC vF rF SF SA SH SL a1 kb c1 (StrChars.lo8 c0) (StrChars.hi8 c0) h0 O0 P1 H1 J1) hZ0 (wd70 hw) (wd44 hw) (by decide) (by decide)) (by rw [hml]; rfl) (lenOf pd6 rfl) rfl (Nat.le_of_eq rfl) (hb hby d_jdk_52m83_7) (q := 10) rfl (by decide) (by decide) ?_
  intro v527 T527 L527 X527 Q527
  obtain ⟨rfl, Nq527, e527⟩ := Q527
  have N527 := Fr.app N526 Nq527
  show Go _ _ _ _ (T527.setTop (mkF m 10 #[.val (.ref a1), .val (.int (1 : Int32))] [(.int c1)]))
  refine endP X527 hlk (fun h => by rw [hret] at h; cases h) (lastN X527 hx (t := .char) (z' := c1) hret (by simp) (nar_of H1 J1) (hb hby d_jdk_52m83_10)) ?_ (by decide) (by decide)
  rw [e527]
  exact ⟨rfl, N527, rfl⟩
def Q_ca0_1 (Z : State) (zC : Int32) (vF : Value) (a1 : Addr) (t : Addr) (kb : ClassId) (c0 : Int32) (c1 : Int32) (h0 : Heap) (v : Option Value) (h : Heap) (L : List Loc) : Prop := v = some (.int c1) ∧ Fr Z.heap.size L ∧ h = h0
set_option maxRecDepth 65536 in
set_option maxHeartbeats 40000000 in
theorem rm_ca0_1 (l : Launch) (Z : State) (a0 : Array Value) (hw : ∀ d ∈ tables_1, d.before a0 Z = true) (zC : Int32) (SC : Sta Z Z.heap "java/lang/String" "COMPACT_STRINGS" "Z" (.int zC)) (PC : ¬ zC = (0 : Int32)) (vF : Value) (rF : vF = .null ∨ ∃ a, vF = .ref a) (SF : Sta Z Z.heap "jdk/internal/util/Preconditions" "SIOOBE_FORMATTER" "Ljava/util/function/BiFunction;" vF) (SA : Sta Z Z.heap "java/lang/StringUTF16" "$assertionsDisabled" "Z" (.int (1 : Int32))) (SH : Sta Z Z.heap "java/lang/StringUTF16" "HI_BYTE_SHIFT" "I" (.int (0 : Int32))) (SL : Sta Z Z.heap "java/lang/StringUTF16" "LO_BYTE_SHIFT" "I" (.int (8 : Int32))) (a1 : Addr) (t : Addr) (kb : ClassId) (c0 : Int32) (c1 : Int32) (h0 : Heap) (O0 : Old Z Z.heap.size h0) (P0 : Exa Z h0 a1 "java/lang/String") (P1 : Fld Z h0 a1 "java/lang/String" "coder" "B" (.int (0 : Int32))) (P2 : Fld Z h0 a1 "java/lang/String" "value" "[B" (.ref t)) (P3 : Arv Z h0 t kb .byte (2 : Int32) [(.int (StrChars.lo8 c0)), (.int (StrChars.lo8 c1))] (.int 0)) (H1 : (¬ (c1 < (0 : Int32)))) (J1 : (¬ ((65535 : Int32) < c1))) (W1 : (¬ ((255 : Int32) < c1))) :
    Con l Z (⟨"java/lang/String", "charAt", "(I)C"⟩ : MethodName) jdk_42_method_56_code 2 (some .char) ({ frames := 3, cells := 0, slots := 0, locals := 40 } : Room) #[(.ref a1), (.int (1 : Int32))] h0 (Q_ca0_1 Z zC vF a1 t kb c0 c1 h0) := by
  refine Con.intro pn0 ?_
  intro p e s m below meth c T0 X0 hx hby hml hown0 hnm hret hlk hZ0 e0
  have N0 := Fr.nil Z.heap.size
  refine castGo (g' := mkF m 0 #[.val (.ref a1), .val (.int (1 : Int32))] []) (by first | rfl | (simp [entryFrame, mkF, argsToLocals, Value.category]; done)) ?_
  show Go _ _ _ _ (T0.setTop (mkF m 0 #[.val (.ref a1), .val (.int (1 : Int32))] []))
  refine aL X0 hx (hb hby d_jdk_42m56_0) (q := 1) rfl rfl rfl ?_
  refine g_vi X0 hx hZ0 hown0 (wd79 hw) (wd80 hw) (notFace_of_selects (args := #[]) (mvT hZ0 (wd82 hw))) (wd82 hw) (wd81 hw) (by decide) P0 e0 (Con.back (W := 0) (rm_isl0 l Z a0 hw zC SC PC vF rF SF SA SH SL a1 h0 O0 P1) hZ0 (wd83 hw) (wd3 hw) (by decide) (by decide)) (by rw [hml]; rfl) (lenOf pd13 rfl) rfl (Nat.le_of_eq rfl) (hb hby d_jdk_42m56_1) (q := 4) rfl (by decide) (by decide) ?_
  intro v528 T528 L528 X528 Q528
  obtain ⟨rfl, Nq528, e528⟩ := Q528
  have N528 := Fr.app N0 Nq528
  show Go _ _ _ _ (T528.setTop (mkF m 4 #[.val (.ref a1), .val (.int (1 : Int32))] [(.int (1 : Int32))]))
  refine ifN X528 hx (hb hby d_jdk_42m56_4) (q := 7) rfl (by decide) ?_
  refine aL X528 hx (hb hby d_jdk_42m56_7) (q := 8) rfl rfl rfl ?_
  refine g_getF X528 hx hZ0 hown0 (host := "") (Or.inl (wd25 hw)) Via.refl P2 e528 (hb hby d_jdk_42m56_8) (q := 11) rfl ?_
  intro T529 X529 e529
  refine iL X529 hx (hb hby d_jdk_42m56_11) (q := 12) rfl rfl ?_
  refine g_st X529 hx hZ0 hown0 (wd101 hw) (wd102 hw) (wd103 hw) (wd104 hw) (by decide) e529 (Con.back (W := 0) (rm_lca1 l Z a0 hw zC SC PC vF rF SF SA SH SL t kb c0 c1 h0 O0 P3 H1 J1 W1) hZ0 (wd104 hw) (wd103 hw) (by decide) (by decide)) (by rw [hml]; rfl) (lenOf pd6 rfl) rfl (Nat.le_of_eq rfl) (hb hby d_jdk_42m56_12) (q := 15) rfl (by decide) (by decide) ?_
  intro v530 T530 L530 X530 Q530
  obtain ⟨rfl, Nq530, e530⟩ := Q530
  have N530 := Fr.app N528 Nq530
  show Go _ _ _ _ (T530.setTop (mkF m 15 #[.val (.ref a1), .val (.int (1 : Int32))] [(.int c1)]))
  refine endP X530 hlk (fun h => by rw [hret] at h; cases h) (lastN X530 hx (t := .char) (z' := c1) hret (by simp) (nar_of H1 J1) (hb hby d_jdk_42m56_15)) ?_ (by decide) (by decide)
  rw [e530]
  exact ⟨rfl, N530, rfl⟩
def Q_ca1_1 (Z : State) (zC : Int32) (vF : Value) (a1 : Addr) (t : Addr) (kb : ClassId) (c0 : Int32) (c1 : Int32) (h0 : Heap) (v : Option Value) (h : Heap) (L : List Loc) : Prop := v = some (.int c1) ∧ Fr Z.heap.size L ∧ h = h0
set_option maxRecDepth 65536 in
set_option maxHeartbeats 40000000 in
theorem rm_ca1_1 (l : Launch) (Z : State) (a0 : Array Value) (hw : ∀ d ∈ tables_1, d.before a0 Z = true) (zC : Int32) (SC : Sta Z Z.heap "java/lang/String" "COMPACT_STRINGS" "Z" (.int zC)) (PC : ¬ zC = (0 : Int32)) (vF : Value) (rF : vF = .null ∨ ∃ a, vF = .ref a) (SF : Sta Z Z.heap "jdk/internal/util/Preconditions" "SIOOBE_FORMATTER" "Ljava/util/function/BiFunction;" vF) (SA : Sta Z Z.heap "java/lang/StringUTF16" "$assertionsDisabled" "Z" (.int (1 : Int32))) (SH : Sta Z Z.heap "java/lang/StringUTF16" "HI_BYTE_SHIFT" "I" (.int (0 : Int32))) (SL : Sta Z Z.heap "java/lang/StringUTF16" "LO_BYTE_SHIFT" "I" (.int (8 : Int32))) (a1 : Addr) (t : Addr) (kb : ClassId) (c0 : Int32) (c1 : Int32) (h0 : Heap) (O0 : Old Z Z.heap.size h0) (P0 : Exa Z h0 a1 "java/lang/String") (P1 : Fld Z h0 a1 "java/lang/String" "coder" "B" (.int (1 : Int32))) (P2 : Fld Z h0 a1 "java/lang/String" "value" "[B" (.ref t)) (P3 : Arv Z h0 t kb .byte (4 : Int32) [(.int (StrChars.lo8 c0)), (.int (StrChars.hi8 c0)), (.int (StrChars.lo8 c1)), (.int (StrChars.hi8 c1))] (.int 0)) (H1 : (¬ (c1 < (0 : Int32)))) (J1 : (¬ ((65535 : Int32) < c1))) :
    Con l Z (⟨"java/lang/String", "charAt", "(I)C"⟩ : MethodName) jdk_42_method_56_code 2 (some .char) ({ frames := 4, cells := 0, slots := 0, locals := 53 } : Room) #[(.ref a1), (.int (1 : Int32))] h0 (Q_ca1_1 Z zC vF a1 t kb c0 c1 h0) := by
  refine Con.intro pn0 ?_
  intro p e s m below meth c T0 X0 hx hby hml hown0 hnm hret hlk hZ0 e0
  have N0 := Fr.nil Z.heap.size
  refine castGo (g' := mkF m 0 #[.val (.ref a1), .val (.int (1 : Int32))] []) (by first | rfl | (simp [entryFrame, mkF, argsToLocals, Value.category]; done)) ?_
  show Go _ _ _ _ (T0.setTop (mkF m 0 #[.val (.ref a1), .val (.int (1 : Int32))] []))
  refine aL X0 hx (hb hby d_jdk_42m56_0) (q := 1) rfl rfl rfl ?_
  refine g_vi X0 hx hZ0 hown0 (wd79 hw) (wd80 hw) (notFace_of_selects (args := #[]) (mvT hZ0 (wd82 hw))) (wd82 hw) (wd81 hw) (by decide) P0 e0 (Con.back (W := 0) (rm_isl1 l Z a0 hw zC SC PC vF rF SF SA SH SL a1 h0 O0 P1) hZ0 (wd83 hw) (wd3 hw) (by decide) (by decide)) (by rw [hml]; rfl) (lenOf pd13 rfl) rfl (Nat.le_of_eq rfl) (hb hby d_jdk_42m56_1) (q := 4) rfl (by decide) (by decide) ?_
  intro v531 T531 L531 X531 Q531
  obtain ⟨rfl, Nq531, e531⟩ := Q531
  have N531 := Fr.app N0 Nq531
  show Go _ _ _ _ (T531.setTop (mkF m 4 #[.val (.ref a1), .val (.int (1 : Int32))] [(.int (0 : Int32))]))
  refine ifY X531 hx (hb hby d_jdk_42m56_4) (q := 16) (by decide) (by decide) (by decide) ?_
  refine aL X531 hx (hb hby d_jdk_42m56_16) (q := 17) rfl rfl rfl ?_
  refine g_getF X531 hx hZ0 hown0 (host := "") (Or.inl (wd25 hw)) Via.refl P2 e531 (hb hby d_jdk_42m56_17) (q := 20) rfl ?_
  intro T532 X532 e532
  refine iL X532 hx (hb hby d_jdk_42m56_20) (q := 21) rfl rfl ?_
  refine g_st X532 hx hZ0 hown0 (wd84 hw) (wd85 hw) (wd44 hw) (wd86 hw) (by decide) e532 (Con.back (W := 0) (rm_uca1 l Z a0 hw zC SC PC vF rF SF SA SH SL t kb c0 c1 h0 O0 P3 H1 J1) hZ0 (wd86 hw) (wd44 hw) (by decide) (by decide)) (by rw [hml]; rfl) (lenOf pd6 rfl) rfl (Nat.le_of_eq rfl) (hb hby d_jdk_42m56_21) (q := 24) rfl (by decide) (by decide) ?_
  intro v533 T533 L533 X533 Q533
  obtain ⟨rfl, Nq533, e533⟩ := Q533
  have N533 := Fr.app N531 Nq533
  show Go _ _ _ _ (T533.setTop (mkF m 24 #[.val (.ref a1), .val (.int (1 : Int32))] [(.int c1)]))
  refine endP X533 hlk (fun h => by rw [hret] at h; cases h) (lastN X533 hx (t := .char) (z' := c1) hret (by simp) (nar_of H1 J1) (hb hby d_jdk_42m56_24)) ?_ (by decide) (by decide)
  rw [e533]
  exact ⟨rfl, N533, rfl⟩
theorem d_prog_13m4_0 : decode prog_13_method_4_code 0 = .ok (.aload_n 0, 1) := by decide +kernel
theorem d_prog_13m4_1 : decode prog_13_method_4_code 1 = .ok (.invokevirtual 63, 3) := by decide +kernel
theorem wd35 {a0 : Array Value} {Z : State} (hw : ∀ d ∈ tables_1, d.before a0 Z = true) : ((Jvm.Cond.code ({ cls := "java/lang/String", name := "length", desc := "()I" } : Jvm.MethodName) jdk_42_method_54_code (1 : Nat) (Option.some Jvm.ClassFile.FieldType.int)) : Jvm.Cond).before a0 Z = true := hw _ (List.mem_of_getElem? (i := 35) rfl)
theorem pd14 : parseMethodDescriptor "()I" = some ⟨[], some .int⟩ := by decide +kernel
theorem wd34 {a0 : Array Value} {Z : State} (hw : ∀ d ∈ tables_1, d.before a0 Z = true) : ((Jvm.Cond.selects "java/lang/String" ({ cls := "java/lang/String", name := "length", desc := "()I" } : Jvm.MethodName) ({ cls := "java/lang/String", name := "length", desc := "()I" } : Jvm.MethodName)) : Jvm.Cond).before a0 Z = true := hw _ (List.mem_of_getElem? (i := 34) rfl)
theorem wd31 {a0 : Array Value} {Z : State} (hw : ∀ d ∈ tables_1, d.before a0 Z = true) : ((Jvm.Cond.methodLink "com/example/anteriorita/anteriorita/PatentRecord" (63 : Nat) ({ cls := "java/lang/String", name := "length", desc := "()I" } : Jvm.MethodName)) : Jvm.Cond).before a0 Z = true := hw _ (List.mem_of_getElem? (i := 31) rfl)
theorem wd32 {a0 : Array Value} {Z : State} (hw : ∀ d ∈ tables_1, d.before a0 Z = true) : ((Jvm.Cond.declares ({ cls := "java/lang/String", name := "length", desc := "()I" } : Jvm.MethodName)) : Jvm.Cond).before a0 Z = true := hw _ (List.mem_of_getElem? (i := 32) rfl)
theorem wd33 {a0 : Array Value} {Z : State} (hw : ∀ d ∈ tables_1, d.before a0 Z = true) : ((Jvm.Cond.instanceMethod ({ cls := "java/lang/String", name := "length", desc := "()I" } : Jvm.MethodName)) : Jvm.Cond).before a0 Z = true := hw _ (List.mem_of_getElem? (i := 33) rfl)
theorem d_prog_13m4_4 : decode prog_13_method_4_code 4 = .ok (.iconst 2, 1) := by decide +kernel
theorem d_prog_13m4_5 : decode prog_13_method_4_code 5 = .ok (.if_icmp .ne 47, 3) := by decide +kernel
theorem d_prog_13m4_52 : decode prog_13_method_4_code 52 = .ok (.iconst 0, 1) := by decide +kernel
theorem d_prog_13m4_53 : decode prog_13_method_4_code 53 = .ok (.ireturn, 1) := by decide +kernel
def Q_ilc0_0 (Z : State) (zC : Int32) (vF : Value) (a1 : Addr) (t : Addr) (kb : ClassId) (vs : List Value) (h0 : Heap) (v : Option Value) (h : Heap) (L : List Loc) : Prop := v = some (.int (0 : Int32)) ∧ Fr Z.heap.size L ∧ h = h0
theorem pn5 : plainName "com/example/anteriorita/anteriorita/PatentRecord" = true := by first | (simp [plainName, overriddenIn]; done) | decide +kernel
set_option maxRecDepth 65536 in
set_option maxHeartbeats 40000000 in
theorem rm_ilc0_0 (l : Launch) (Z : State) (a0 : Array Value) (hw : ∀ d ∈ tables_1, d.before a0 Z = true) (zC : Int32) (SC : Sta Z Z.heap "java/lang/String" "COMPACT_STRINGS" "Z" (.int zC)) (PC : ¬ zC = (0 : Int32)) (vF : Value) (rF : vF = .null ∨ ∃ a, vF = .ref a) (SF : Sta Z Z.heap "jdk/internal/util/Preconditions" "SIOOBE_FORMATTER" "Ljava/util/function/BiFunction;" vF) (SA : Sta Z Z.heap "java/lang/StringUTF16" "$assertionsDisabled" "Z" (.int (1 : Int32))) (SH : Sta Z Z.heap "java/lang/StringUTF16" "HI_BYTE_SHIFT" "I" (.int (0 : Int32))) (SL : Sta Z Z.heap "java/lang/StringUTF16" "LO_BYTE_SHIFT" "I" (.int (8 : Int32))) (a1 : Addr) (t : Addr) (kb : ClassId) (vs : List Value) (h0 : Heap) (O0 : Old Z Z.heap.size h0) (P0 : Exa Z h0 a1 "java/lang/String") (P1 : Fld Z h0 a1 "java/lang/String" "coder" "B" (.int (0 : Int32))) (P2 : Fld Z h0 a1 "java/lang/String" "value" "[B" (.ref t)) (P3 : Arv Z h0 t kb .byte (0 : Int32) vs (.int 0)) :
    Con l Z (⟨"com/example/anteriorita/anteriorita/PatentRecord", "isLanguageCode", "(Ljava/lang/String;)Z"⟩ : MethodName) prog_13_method_4_code 1 (some .boolean) ({ frames := 2, cells := 0, slots := 0, locals := 25 } : Room) #[(.ref a1)] h0 (Q_ilc0_0 Z zC vF a1 t kb vs h0) := by
  refine Con.intro pn5 ?_
  intro p e s m below meth c T0 X0 hx hby hml hown0 hnm hret hlk hZ0 e0
  have N0 := Fr.nil Z.heap.size
  refine castGo (g' := mkF m 0 #[.val (.ref a1)] []) (by first | rfl | (simp [entryFrame, mkF, argsToLocals, Value.category]; done)) ?_
  show Go _ _ _ _ (T0.setTop (mkF m 0 #[.val (.ref a1)] []))
  refine aL X0 hx (hb hby d_prog_13m4_0) (q := 1) rfl rfl rfl ?_
  refine g_vi X0 hx hZ0 hown0 (wd31 hw) (wd32 hw) (notFace_of_selects (args := #[]) (mvT hZ0 (wd34 hw))) (wd34 hw) (wd33 hw) (by decide) P0 e0 (Con.back (W := 0) (rm_len0_0 l Z a0 hw zC SC PC vF rF SF SA SH SL a1 t kb vs h0 O0 P0 P1 P2 P3) hZ0 (wd35 hw) (wd3 hw) (by decide) (by decide)) (by rw [hml]; rfl) (lenOf pd14 rfl) rfl (Nat.le_of_eq rfl) (hb hby d_prog_13m4_1) (q := 4) rfl (by decide) (by decide) ?_
  intro v534 T534 L534 X534 Q534
  obtain ⟨rfl, Nq534, e534⟩ := Q534
  have N534 := Fr.app N0 Nq534
  show Go _ _ _ _ (T534.setTop (mkF m 4 #[.val (.ref a1)] [(.int (0 : Int32))]))
  refine cI X534 hx (hb hby d_prog_13m4_4) (q := 5) rfl (z := (2 : Int32)) rfl ?_
  refine icY X534 hx (hb hby d_prog_13m4_5) (q := 52) (by decide) (by decide) (by decide) ?_
  refine cI X534 hx (hb hby d_prog_13m4_52) (q := 53) rfl (z := (0 : Int32)) rfl ?_
  refine endP X534 hlk (fun h => by rw [hret] at h; cases h) (lastN X534 hx (t := .boolean) (z' := (0 : Int32)) hret (by simp) (by decide) (hb hby d_prog_13m4_53)) ?_ (by decide) (by decide)
  rw [e534]
  exact ⟨rfl, N534, rfl⟩
def Q_ilc0_1 (Z : State) (zC : Int32) (vF : Value) (a1 : Addr) (t : Addr) (kb : ClassId) (vs : List Value) (h0 : Heap) (v : Option Value) (h : Heap) (L : List Loc) : Prop := v = some (.int (0 : Int32)) ∧ Fr Z.heap.size L ∧ h = h0
set_option maxRecDepth 65536 in
set_option maxHeartbeats 40000000 in
theorem rm_ilc0_1 (l : Launch) (Z : State) (a0 : Array Value) (hw : ∀ d ∈ tables_1, d.before a0 Z = true) (zC : Int32) (SC : Sta Z Z.heap "java/lang/String" "COMPACT_STRINGS" "Z" (.int zC)) (PC : ¬ zC = (0 : Int32)) (vF : Value) (rF : vF = .null ∨ ∃ a, vF = .ref a) (SF : Sta Z Z.heap "jdk/internal/util/Preconditions" "SIOOBE_FORMATTER" "Ljava/util/function/BiFunction;" vF) (SA : Sta Z Z.heap "java/lang/StringUTF16" "$assertionsDisabled" "Z" (.int (1 : Int32))) (SH : Sta Z Z.heap "java/lang/StringUTF16" "HI_BYTE_SHIFT" "I" (.int (0 : Int32))) (SL : Sta Z Z.heap "java/lang/StringUTF16" "LO_BYTE_SHIFT" "I" (.int (8 : Int32))) (a1 : Addr) (t : Addr) (kb : ClassId) (vs : List Value) (h0 : Heap) (O0 : Old Z Z.heap.size h0) (P0 : Exa Z h0 a1 "java/lang/String") (P1 : Fld Z h0 a1 "java/lang/String" "coder" "B" (.int (0 : Int32))) (P2 : Fld Z h0 a1 "java/lang/String" "value" "[B" (.ref t)) (P3 : Arv Z h0 t kb .byte (1 : Int32) vs (.int 0)) :
    Con l Z (⟨"com/example/anteriorita/anteriorita/PatentRecord", "isLanguageCode", "(Ljava/lang/String;)Z"⟩ : MethodName) prog_13_method_4_code 1 (some .boolean) ({ frames := 2, cells := 0, slots := 0, locals := 25 } : Room) #[(.ref a1)] h0 (Q_ilc0_1 Z zC vF a1 t kb vs h0) := by
  refine Con.intro pn5 ?_
  intro p e s m below meth c T0 X0 hx hby hml hown0 hnm hret hlk hZ0 e0
  have N0 := Fr.nil Z.heap.size
  refine castGo (g' := mkF m 0 #[.val (.ref a1)] []) (by first | rfl | (simp [entryFrame, mkF, argsToLocals, Value.category]; done)) ?_
  show Go _ _ _ _ (T0.setTop (mkF m 0 #[.val (.ref a1)] []))
  refine aL X0 hx (hb hby d_prog_13m4_0) (q := 1) rfl rfl rfl ?_
  refine g_vi X0 hx hZ0 hown0 (wd31 hw) (wd32 hw) (notFace_of_selects (args := #[]) (mvT hZ0 (wd34 hw))) (wd34 hw) (wd33 hw) (by decide) P0 e0 (Con.back (W := 0) (rm_len0_1 l Z a0 hw zC SC PC vF rF SF SA SH SL a1 t kb vs h0 O0 P0 P1 P2 P3) hZ0 (wd35 hw) (wd3 hw) (by decide) (by decide)) (by rw [hml]; rfl) (lenOf pd14 rfl) rfl (Nat.le_of_eq rfl) (hb hby d_prog_13m4_1) (q := 4) rfl (by decide) (by decide) ?_
  intro v535 T535 L535 X535 Q535
  obtain ⟨rfl, Nq535, e535⟩ := Q535
  have N535 := Fr.app N0 Nq535
  show Go _ _ _ _ (T535.setTop (mkF m 4 #[.val (.ref a1)] [(.int (1 : Int32))]))
  refine cI X535 hx (hb hby d_prog_13m4_4) (q := 5) rfl (z := (2 : Int32)) rfl ?_
  refine icY X535 hx (hb hby d_prog_13m4_5) (q := 52) (by decide) (by decide) (by decide) ?_
  refine cI X535 hx (hb hby d_prog_13m4_52) (q := 53) rfl (z := (0 : Int32)) rfl ?_
  refine endP X535 hlk (fun h => by rw [hret] at h; cases h) (lastN X535 hx (t := .boolean) (z' := (0 : Int32)) hret (by simp) (by decide) (hb hby d_prog_13m4_53)) ?_ (by decide) (by decide)
  rw [e535]
  exact ⟨rfl, N535, rfl⟩
def Q_ilc0_3 (Z : State) (zC : Int32) (vF : Value) (a1 : Addr) (t : Addr) (kb : ClassId) (vs : List Value) (h0 : Heap) (v : Option Value) (h : Heap) (L : List Loc) : Prop := v = some (.int (0 : Int32)) ∧ Fr Z.heap.size L ∧ h = h0
set_option maxRecDepth 65536 in
set_option maxHeartbeats 40000000 in
theorem rm_ilc0_3 (l : Launch) (Z : State) (a0 : Array Value) (hw : ∀ d ∈ tables_1, d.before a0 Z = true) (zC : Int32) (SC : Sta Z Z.heap "java/lang/String" "COMPACT_STRINGS" "Z" (.int zC)) (PC : ¬ zC = (0 : Int32)) (vF : Value) (rF : vF = .null ∨ ∃ a, vF = .ref a) (SF : Sta Z Z.heap "jdk/internal/util/Preconditions" "SIOOBE_FORMATTER" "Ljava/util/function/BiFunction;" vF) (SA : Sta Z Z.heap "java/lang/StringUTF16" "$assertionsDisabled" "Z" (.int (1 : Int32))) (SH : Sta Z Z.heap "java/lang/StringUTF16" "HI_BYTE_SHIFT" "I" (.int (0 : Int32))) (SL : Sta Z Z.heap "java/lang/StringUTF16" "LO_BYTE_SHIFT" "I" (.int (8 : Int32))) (a1 : Addr) (t : Addr) (kb : ClassId) (vs : List Value) (h0 : Heap) (O0 : Old Z Z.heap.size h0) (P0 : Exa Z h0 a1 "java/lang/String") (P1 : Fld Z h0 a1 "java/lang/String" "coder" "B" (.int (0 : Int32))) (P2 : Fld Z h0 a1 "java/lang/String" "value" "[B" (.ref t)) (P3 : Arv Z h0 t kb .byte (3 : Int32) vs (.int 0)) :
    Con l Z (⟨"com/example/anteriorita/anteriorita/PatentRecord", "isLanguageCode", "(Ljava/lang/String;)Z"⟩ : MethodName) prog_13_method_4_code 1 (some .boolean) ({ frames := 2, cells := 0, slots := 0, locals := 25 } : Room) #[(.ref a1)] h0 (Q_ilc0_3 Z zC vF a1 t kb vs h0) := by
  refine Con.intro pn5 ?_
  intro p e s m below meth c T0 X0 hx hby hml hown0 hnm hret hlk hZ0 e0
  have N0 := Fr.nil Z.heap.size
  refine castGo (g' := mkF m 0 #[.val (.ref a1)] []) (by first | rfl | (simp [entryFrame, mkF, argsToLocals, Value.category]; done)) ?_
  show Go _ _ _ _ (T0.setTop (mkF m 0 #[.val (.ref a1)] []))
  refine aL X0 hx (hb hby d_prog_13m4_0) (q := 1) rfl rfl rfl ?_
  refine g_vi X0 hx hZ0 hown0 (wd31 hw) (wd32 hw) (notFace_of_selects (args := #[]) (mvT hZ0 (wd34 hw))) (wd34 hw) (wd33 hw) (by decide) P0 e0 (Con.back (W := 0) (rm_len0_3 l Z a0 hw zC SC PC vF rF SF SA SH SL a1 t kb vs h0 O0 P0 P1 P2 P3) hZ0 (wd35 hw) (wd3 hw) (by decide) (by decide)) (by rw [hml]; rfl) (lenOf pd14 rfl) rfl (Nat.le_of_eq rfl) (hb hby d_prog_13m4_1) (q := 4) rfl (by decide) (by decide) ?_
  intro v536 T536 L536 X536 Q536
  obtain ⟨rfl, Nq536, e536⟩ := Q536
  have N536 := Fr.app N0 Nq536
  show Go _ _ _ _ (T536.setTop (mkF m 4 #[.val (.ref a1)] [(.int (3 : Int32))]))
  refine cI X536 hx (hb hby d_prog_13m4_4) (q := 5) rfl (z := (2 : Int32)) rfl ?_
  refine icY X536 hx (hb hby d_prog_13m4_5) (q := 52) (by decide) (by decide) (by decide) ?_
  refine cI X536 hx (hb hby d_prog_13m4_52) (q := 53) rfl (z := (0 : Int32)) rfl ?_
  refine endP X536 hlk (fun h => by rw [hret] at h; cases h) (lastN X536 hx (t := .boolean) (z' := (0 : Int32)) hret (by simp) (by decide) (hb hby d_prog_13m4_53)) ?_ (by decide) (by decide)
  rw [e536]
  exact ⟨rfl, N536, rfl⟩
def Q_ilc1_2 (Z : State) (zC : Int32) (vF : Value) (a1 : Addr) (t : Addr) (kb : ClassId) (vs : List Value) (h0 : Heap) (v : Option Value) (h : Heap) (L : List Loc) : Prop := v = some (.int (0 : Int32)) ∧ Fr Z.heap.size L ∧ h = h0
set_option maxRecDepth 65536 in
set_option maxHeartbeats 40000000 in
theorem rm_ilc1_2 (l : Launch) (Z : State) (a0 : Array Value) (hw : ∀ d ∈ tables_1, d.before a0 Z = true) (zC : Int32) (SC : Sta Z Z.heap "java/lang/String" "COMPACT_STRINGS" "Z" (.int zC)) (PC : ¬ zC = (0 : Int32)) (vF : Value) (rF : vF = .null ∨ ∃ a, vF = .ref a) (SF : Sta Z Z.heap "jdk/internal/util/Preconditions" "SIOOBE_FORMATTER" "Ljava/util/function/BiFunction;" vF) (SA : Sta Z Z.heap "java/lang/StringUTF16" "$assertionsDisabled" "Z" (.int (1 : Int32))) (SH : Sta Z Z.heap "java/lang/StringUTF16" "HI_BYTE_SHIFT" "I" (.int (0 : Int32))) (SL : Sta Z Z.heap "java/lang/StringUTF16" "LO_BYTE_SHIFT" "I" (.int (8 : Int32))) (a1 : Addr) (t : Addr) (kb : ClassId) (vs : List Value) (h0 : Heap) (O0 : Old Z Z.heap.size h0) (P0 : Exa Z h0 a1 "java/lang/String") (P1 : Fld Z h0 a1 "java/lang/String" "coder" "B" (.int (1 : Int32))) (P2 : Fld Z h0 a1 "java/lang/String" "value" "[B" (.ref t)) (P3 : Arv Z h0 t kb .byte (2 : Int32) vs (.int 0)) :
    Con l Z (⟨"com/example/anteriorita/anteriorita/PatentRecord", "isLanguageCode", "(Ljava/lang/String;)Z"⟩ : MethodName) prog_13_method_4_code 1 (some .boolean) ({ frames := 2, cells := 0, slots := 0, locals := 25 } : Room) #[(.ref a1)] h0 (Q_ilc1_2 Z zC vF a1 t kb vs h0) := by
  refine Con.intro pn5 ?_
  intro p e s m below meth c T0 X0 hx hby hml hown0 hnm hret hlk hZ0 e0
  have N0 := Fr.nil Z.heap.size
  refine castGo (g' := mkF m 0 #[.val (.ref a1)] []) (by first | rfl | (simp [entryFrame, mkF, argsToLocals, Value.category]; done)) ?_
  show Go _ _ _ _ (T0.setTop (mkF m 0 #[.val (.ref a1)] []))
  refine aL X0 hx (hb hby d_prog_13m4_0) (q := 1) rfl rfl rfl ?_
  refine g_vi X0 hx hZ0 hown0 (wd31 hw) (wd32 hw) (notFace_of_selects (args := #[]) (mvT hZ0 (wd34 hw))) (wd34 hw) (wd33 hw) (by decide) P0 e0 (Con.back (W := 0) (rm_len1_2 l Z a0 hw zC SC PC vF rF SF SA SH SL a1 t kb vs h0 O0 P0 P1 P2 P3) hZ0 (wd35 hw) (wd3 hw) (by decide) (by decide)) (by rw [hml]; rfl) (lenOf pd14 rfl) rfl (Nat.le_of_eq rfl) (hb hby d_prog_13m4_1) (q := 4) rfl (by decide) (by decide) ?_
  intro v537 T537 L537 X537 Q537
  obtain ⟨rfl, Nq537, e537⟩ := Q537
  have N537 := Fr.app N0 Nq537
  show Go _ _ _ _ (T537.setTop (mkF m 4 #[.val (.ref a1)] [(.int (1 : Int32))]))
  refine cI X537 hx (hb hby d_prog_13m4_4) (q := 5) rfl (z := (2 : Int32)) rfl ?_
  refine icY X537 hx (hb hby d_prog_13m4_5) (q := 52) (by decide) (by decide) (by decide) ?_
  refine cI X537 hx (hb hby d_prog_13m4_52) (q := 53) rfl (z := (0 : Int32)) rfl ?_
  refine endP X537 hlk (fun h => by rw [hret] at h; cases h) (lastN X537 hx (t := .boolean) (z' := (0 : Int32)) hret (by simp) (by decide) (hb hby d_prog_13m4_53)) ?_ (by decide) (by decide)
  rw [e537]
  exact ⟨rfl, N537, rfl⟩
def Q_ilc1_6 (Z : State) (zC : Int32) (vF : Value) (a1 : Addr) (t : Addr) (kb : ClassId) (vs : List Value) (h0 : Heap) (v : Option Value) (h : Heap) (L : List Loc) : Prop := v = some (.int (0 : Int32)) ∧ Fr Z.heap.size L ∧ h = h0
set_option maxRecDepth 65536 in
set_option maxHeartbeats 40000000 in
theorem rm_ilc1_6 (l : Launch) (Z : State) (a0 : Array Value) (hw : ∀ d ∈ tables_1, d.before a0 Z = true) (zC : Int32) (SC : Sta Z Z.heap "java/lang/String" "COMPACT_STRINGS" "Z" (.int zC)) (PC : ¬ zC = (0 : Int32)) (vF : Value) (rF : vF = .null ∨ ∃ a, vF = .ref a) (SF : Sta Z Z.heap "jdk/internal/util/Preconditions" "SIOOBE_FORMATTER" "Ljava/util/function/BiFunction;" vF) (SA : Sta Z Z.heap "java/lang/StringUTF16" "$assertionsDisabled" "Z" (.int (1 : Int32))) (SH : Sta Z Z.heap "java/lang/StringUTF16" "HI_BYTE_SHIFT" "I" (.int (0 : Int32))) (SL : Sta Z Z.heap "java/lang/StringUTF16" "LO_BYTE_SHIFT" "I" (.int (8 : Int32))) (a1 : Addr) (t : Addr) (kb : ClassId) (vs : List Value) (h0 : Heap) (O0 : Old Z Z.heap.size h0) (P0 : Exa Z h0 a1 "java/lang/String") (P1 : Fld Z h0 a1 "java/lang/String" "coder" "B" (.int (1 : Int32))) (P2 : Fld Z h0 a1 "java/lang/String" "value" "[B" (.ref t)) (P3 : Arv Z h0 t kb .byte (6 : Int32) vs (.int 0)) :
    Con l Z (⟨"com/example/anteriorita/anteriorita/PatentRecord", "isLanguageCode", "(Ljava/lang/String;)Z"⟩ : MethodName) prog_13_method_4_code 1 (some .boolean) ({ frames := 2, cells := 0, slots := 0, locals := 25 } : Room) #[(.ref a1)] h0 (Q_ilc1_6 Z zC vF a1 t kb vs h0) := by
  refine Con.intro pn5 ?_
  intro p e s m below meth c T0 X0 hx hby hml hown0 hnm hret hlk hZ0 e0
  have N0 := Fr.nil Z.heap.size
  refine castGo (g' := mkF m 0 #[.val (.ref a1)] []) (by first | rfl | (simp [entryFrame, mkF, argsToLocals, Value.category]; done)) ?_
  show Go _ _ _ _ (T0.setTop (mkF m 0 #[.val (.ref a1)] []))
  refine aL X0 hx (hb hby d_prog_13m4_0) (q := 1) rfl rfl rfl ?_
  refine g_vi X0 hx hZ0 hown0 (wd31 hw) (wd32 hw) (notFace_of_selects (args := #[]) (mvT hZ0 (wd34 hw))) (wd34 hw) (wd33 hw) (by decide) P0 e0 (Con.back (W := 0) (rm_len1_6 l Z a0 hw zC SC PC vF rF SF SA SH SL a1 t kb vs h0 O0 P0 P1 P2 P3) hZ0 (wd35 hw) (wd3 hw) (by decide) (by decide)) (by rw [hml]; rfl) (lenOf pd14 rfl) rfl (Nat.le_of_eq rfl) (hb hby d_prog_13m4_1) (q := 4) rfl (by decide) (by decide) ?_
  intro v538 T538 L538 X538 Q538
  obtain ⟨rfl, Nq538, e538⟩ := Q538
  have N538 := Fr.app N0 Nq538
  show Go _ _ _ _ (T538.setTop (mkF m 4 #[.val (.ref a1)] [(.int (3 : Int32))]))
  refine cI X538 hx (hb hby d_prog_13m4_4) (q := 5) rfl (z := (2 : Int32)) rfl ?_
  refine icY X538 hx (hb hby d_prog_13m4_5) (q := 52) (by decide) (by decide) (by decide) ?_
  refine cI X538 hx (hb hby d_prog_13m4_52) (q := 53) rfl (z := (0 : Int32)) rfl ?_
  refine endP X538 hlk (fun h => by rw [hret] at h; cases h) (lastN X538 hx (t := .boolean) (z' := (0 : Int32)) hret (by simp) (by decide) (hb hby d_prog_13m4_53)) ?_ (by decide) (by decide)
  rw [e538]
  exact ⟨rfl, N538, rfl⟩
theorem d_prog_13m4_8 : decode prog_13_method_4_code 8 = .ok (.aload_n 0, 1) := by decide +kernel
theorem d_prog_13m4_9 : decode prog_13_method_4_code 9 = .ok (.iconst 0, 1) := by decide +kernel
theorem d_prog_13m4_10 : decode prog_13_method_4_code 10 = .ok (.invokevirtual 67, 3) := by decide +kernel
theorem wd78 {a0 : Array Value} {Z : State} (hw : ∀ d ∈ tables_1, d.before a0 Z = true) : ((Jvm.Cond.code ({ cls := "java/lang/String", name := "charAt", desc := "(I)C" } : Jvm.MethodName) jdk_42_method_56_code (2 : Nat) (Option.some Jvm.ClassFile.FieldType.char)) : Jvm.Cond).before a0 Z = true := hw _ (List.mem_of_getElem? (i := 78) rfl)
theorem pd15 : parseMethodDescriptor "(I)C" = some ⟨[.int], some .char⟩ := by decide +kernel
theorem wd77 {a0 : Array Value} {Z : State} (hw : ∀ d ∈ tables_1, d.before a0 Z = true) : ((Jvm.Cond.selects "java/lang/String" ({ cls := "java/lang/String", name := "charAt", desc := "(I)C" } : Jvm.MethodName) ({ cls := "java/lang/String", name := "charAt", desc := "(I)C" } : Jvm.MethodName)) : Jvm.Cond).before a0 Z = true := hw _ (List.mem_of_getElem? (i := 77) rfl)
theorem wd74 {a0 : Array Value} {Z : State} (hw : ∀ d ∈ tables_1, d.before a0 Z = true) : ((Jvm.Cond.methodLink "com/example/anteriorita/anteriorita/PatentRecord" (67 : Nat) ({ cls := "java/lang/String", name := "charAt", desc := "(I)C" } : Jvm.MethodName)) : Jvm.Cond).before a0 Z = true := hw _ (List.mem_of_getElem? (i := 74) rfl)
theorem wd75 {a0 : Array Value} {Z : State} (hw : ∀ d ∈ tables_1, d.before a0 Z = true) : ((Jvm.Cond.declares ({ cls := "java/lang/String", name := "charAt", desc := "(I)C" } : Jvm.MethodName)) : Jvm.Cond).before a0 Z = true := hw _ (List.mem_of_getElem? (i := 75) rfl)
theorem wd76 {a0 : Array Value} {Z : State} (hw : ∀ d ∈ tables_1, d.before a0 Z = true) : ((Jvm.Cond.instanceMethod ({ cls := "java/lang/String", name := "charAt", desc := "(I)C" } : Jvm.MethodName)) : Jvm.Cond).before a0 Z = true := hw _ (List.mem_of_getElem? (i := 76) rfl)
theorem d_prog_13m4_13 : decode prog_13_method_4_code 13 = .ok (.bipush 97, 2) := by decide +kernel
theorem d_prog_13m4_15 : decode prog_13_method_4_code 15 = .ok (.if_icmp .lt 37, 3) := by decide +kernel
def Q_ilc0a (Z : State) (zC : Int32) (vF : Value) (a1 : Addr) (t : Addr) (kb : ClassId) (c0 : Int32) (c1 : Int32) (h0 : Heap) (v : Option Value) (h : Heap) (L : List Loc) : Prop := v = some (.int (0 : Int32)) ∧ Fr Z.heap.size L ∧ h = h0
set_option maxRecDepth 65536 in
set_option maxHeartbeats 40000000 in
theorem rm_ilc0a (l : Launch) (Z : State) (a0 : Array Value) (hw : ∀ d ∈ tables_1, d.before a0 Z = true) (zC : Int32) (SC : Sta Z Z.heap "java/lang/String" "COMPACT_STRINGS" "Z" (.int zC)) (PC : ¬ zC = (0 : Int32)) (vF : Value) (rF : vF = .null ∨ ∃ a, vF = .ref a) (SF : Sta Z Z.heap "jdk/internal/util/Preconditions" "SIOOBE_FORMATTER" "Ljava/util/function/BiFunction;" vF) (SA : Sta Z Z.heap "java/lang/StringUTF16" "$assertionsDisabled" "Z" (.int (1 : Int32))) (SH : Sta Z Z.heap "java/lang/StringUTF16" "HI_BYTE_SHIFT" "I" (.int (0 : Int32))) (SL : Sta Z Z.heap "java/lang/StringUTF16" "LO_BYTE_SHIFT" "I" (.int (8 : Int32))) (a1 : Addr) (t : Addr) (kb : ClassId) (c0 : Int32) (c1 : Int32) (h0 : Heap) (O0 : Old Z Z.heap.size h0) (P0 : Exa Z h0 a1 "java/lang/String") (P1 : Fld Z h0 a1 "java/lang/String" "coder" "B" (.int (0 : Int32))) (P2 : Fld Z h0 a1 "java/lang/String" "value" "[B" (.ref t)) (P3 : Arv Z h0 t kb .byte (2 : Int32) [(.int (StrChars.lo8 c0)), (.int (StrChars.lo8 c1))] (.int 0)) (H0 : (¬ (c0 < (0 : Int32)))) (J0 : (¬ ((65535 : Int32) < c0))) (H1 : (¬ (c1 < (0 : Int32)))) (J1 : (¬ ((65535 : Int32) < c1))) (W0 : (¬ ((255 : Int32) < c0))) (W1 : (¬ ((255 : Int32) < c1))) (D0 : (c0 < (97 : Int32))) :
    Con l Z (⟨"com/example/anteriorita/anteriorita/PatentRecord", "isLanguageCode", "(Ljava/lang/String;)Z"⟩ : MethodName) prog_13_method_4_code 1 (some .boolean) ({ frames := 4, cells := 0, slots := 0, locals := 53 } : Room) #[(.ref a1)] h0 (Q_ilc0a Z zC vF a1 t kb c0 c1 h0) := by
  refine Con.intro pn5 ?_
  intro p e s m below meth c T0 X0 hx hby hml hown0 hnm hret hlk hZ0 e0
  have N0 := Fr.nil Z.heap.size
  refine castGo (g' := mkF m 0 #[.val (.ref a1)] []) (by first | rfl | (simp [entryFrame, mkF, argsToLocals, Value.category]; done)) ?_
  show Go _ _ _ _ (T0.setTop (mkF m 0 #[.val (.ref a1)] []))
  refine aL X0 hx (hb hby d_prog_13m4_0) (q := 1) rfl rfl rfl ?_
  refine g_vi X0 hx hZ0 hown0 (wd31 hw) (wd32 hw) (notFace_of_selects (args := #[]) (mvT hZ0 (wd34 hw))) (wd34 hw) (wd33 hw) (by decide) P0 e0 (Con.back (W := 0) (rm_len0_2 l Z a0 hw zC SC PC vF rF SF SA SH SL a1 t kb [(.int (StrChars.lo8 c0)), (.int (StrChars.lo8 c1))] h0 O0 P0 P1 P2 P3) hZ0 (wd35 hw) (wd3 hw) (by decide) (by decide)) (by rw [hml]; rfl) (lenOf pd14 rfl) rfl (Nat.le_of_eq rfl) (hb hby d_prog_13m4_1) (q := 4) rfl (by decide) (by decide) ?_
  intro v539 T539 L539 X539 Q539
  obtain ⟨rfl, Nq539, e539⟩ := Q539
  have N539 := Fr.app N0 Nq539
  show Go _ _ _ _ (T539.setTop (mkF m 4 #[.val (.ref a1)] [(.int (2 : Int32))]))
  refine cI X539 hx (hb hby d_prog_13m4_4) (q := 5) rfl (z := (2 : Int32)) rfl ?_
  refine icN X539 hx (hb hby d_prog_13m4_5) (q := 8) rfl (by decide) ?_
  refine aL X539 hx (hb hby d_prog_13m4_8) (q := 9) rfl rfl rfl ?_
  refine cI X539 hx (hb hby d_prog_13m4_9) (q := 10) rfl (z := (0 : Int32)) rfl ?_
  refine g_vi X539 hx hZ0 hown0 (wd74 hw) (wd75 hw) (notFace_of_selects (args := #[]) (mvT hZ0 (wd77 hw))) (wd77 hw) (wd76 hw) (by decide) P0 e539 (Con.back (W := 0) (rm_ca0_0 l Z a0 hw zC SC PC vF rF SF SA SH SL a1 t kb c0 c1 h0 O0 P0 P1 P2 P3 H0 J0 W0) hZ0 (wd78 hw) (wd3 hw) (by decide) (by decide)) (by rw [hml]; rfl) (lenOf pd15 rfl) rfl (Nat.le_of_eq rfl) (hb hby d_prog_13m4_10) (q := 13) rfl (by decide) (by decide) ?_
  intro v540 T540 L540 X540 Q540
  obtain ⟨rfl, Nq540, e540⟩ := Q540
  have N540 := Fr.app N539 Nq540
  show Go _ _ _ _ (T540.setTop (mkF m 13 #[.val (.ref a1)] [(.int c0)]))
  refine bI X540 hx (hb hby d_prog_13m4_13) (q := 15) rfl (z := (97 : Int32)) rfl ?_
  refine icY X540 hx (hb hby d_prog_13m4_15) (q := 52) (by decide) (by decide) (tlt D0).1 ?_
  refine cI X540 hx (hb hby d_prog_13m4_52) (q := 53) rfl (z := (0 : Int32)) rfl ?_
  refine endP X540 hlk (fun h => by rw [hret] at h; cases h) (lastN X540 hx (t := .boolean) (z' := (0 : Int32)) hret (by simp) (by decide) (hb hby d_prog_13m4_53)) ?_ (by decide) (by decide)
  rw [e540]
  exact ⟨rfl, N540, rfl⟩
theorem d_prog_13m4_18 : decode prog_13_method_4_code 18 = .ok (.aload_n 0, 1) := by decide +kernel
theorem d_prog_13m4_19 : decode prog_13_method_4_code 19 = .ok (.iconst 0, 1) := by decide +kernel
theorem d_prog_13m4_20 : decode prog_13_method_4_code 20 = .ok (.invokevirtual 67, 3) := by decide +kernel
theorem d_prog_13m4_23 : decode prog_13_method_4_code 23 = .ok (.bipush 122, 2) := by decide +kernel
theorem d_prog_13m4_25 : decode prog_13_method_4_code 25 = .ok (.if_icmp .gt 27, 3) := by decide +kernel
def Q_ilc0b (Z : State) (zC : Int32) (vF : Value) (a1 : Addr) (t : Addr) (kb : ClassId) (c0 : Int32) (c1 : Int32) (h0 : Heap) (v : Option Value) (h : Heap) (L : List Loc) : Prop := v = some (.int (0 : Int32)) ∧ Fr Z.heap.size L ∧ h = h0
set_option maxRecDepth 65536 in
set_option maxHeartbeats 40000000 in
theorem rm_ilc0b (l : Launch) (Z : State) (a0 : Array Value) (hw : ∀ d ∈ tables_1, d.before a0 Z = true) (zC : Int32) (SC : Sta Z Z.heap "java/lang/String" "COMPACT_STRINGS" "Z" (.int zC)) (PC : ¬ zC = (0 : Int32)) (vF : Value) (rF : vF = .null ∨ ∃ a, vF = .ref a) (SF : Sta Z Z.heap "jdk/internal/util/Preconditions" "SIOOBE_FORMATTER" "Ljava/util/function/BiFunction;" vF) (SA : Sta Z Z.heap "java/lang/StringUTF16" "$assertionsDisabled" "Z" (.int (1 : Int32))) (SH : Sta Z Z.heap "java/lang/StringUTF16" "HI_BYTE_SHIFT" "I" (.int (0 : Int32))) (SL : Sta Z Z.heap "java/lang/StringUTF16" "LO_BYTE_SHIFT" "I" (.int (8 : Int32))) (a1 : Addr) (t : Addr) (kb : ClassId) (c0 : Int32) (c1 : Int32) (h0 : Heap) (O0 : Old Z Z.heap.size h0) (P0 : Exa Z h0 a1 "java/lang/String") (P1 : Fld Z h0 a1 "java/lang/String" "coder" "B" (.int (0 : Int32))) (P2 : Fld Z h0 a1 "java/lang/String" "value" "[B" (.ref t)) (P3 : Arv Z h0 t kb .byte (2 : Int32) [(.int (StrChars.lo8 c0)), (.int (StrChars.lo8 c1))] (.int 0)) (H0 : (¬ (c0 < (0 : Int32)))) (J0 : (¬ ((65535 : Int32) < c0))) (H1 : (¬ (c1 < (0 : Int32)))) (J1 : (¬ ((65535 : Int32) < c1))) (W0 : (¬ ((255 : Int32) < c0))) (W1 : (¬ ((255 : Int32) < c1))) (D0 : (¬ (c0 < (97 : Int32)))) (D1 : ((122 : Int32) < c0)) :
    Con l Z (⟨"com/example/anteriorita/anteriorita/PatentRecord", "isLanguageCode", "(Ljava/lang/String;)Z"⟩ : MethodName) prog_13_method_4_code 1 (some .boolean) ({ frames := 4, cells := 0, slots := 0, locals := 53 } : Room) #[(.ref a1)] h0 (Q_ilc0b Z zC vF a1 t kb c0 c1 h0) := by
  refine Con.intro pn5 ?_
  intro p e s m below meth c T0 X0 hx hby hml hown0 hnm hret hlk hZ0 e0
  have N0 := Fr.nil Z.heap.size
  refine castGo (g' := mkF m 0 #[.val (.ref a1)] []) (by first | rfl | (simp [entryFrame, mkF, argsToLocals, Value.category]; done)) ?_
  show Go _ _ _ _ (T0.setTop (mkF m 0 #[.val (.ref a1)] []))
  refine aL X0 hx (hb hby d_prog_13m4_0) (q := 1) rfl rfl rfl ?_
  refine g_vi X0 hx hZ0 hown0 (wd31 hw) (wd32 hw) (notFace_of_selects (args := #[]) (mvT hZ0 (wd34 hw))) (wd34 hw) (wd33 hw) (by decide) P0 e0 (Con.back (W := 0) (rm_len0_2 l Z a0 hw zC SC PC vF rF SF SA SH SL a1 t kb [(.int (StrChars.lo8 c0)), (.int (StrChars.lo8 c1))] h0 O0 P0 P1 P2 P3) hZ0 (wd35 hw) (wd3 hw) (by decide) (by decide)) (by rw [hml]; rfl) (lenOf pd14 rfl) rfl (Nat.le_of_eq rfl) (hb hby d_prog_13m4_1) (q := 4) rfl (by decide) (by decide) ?_
  intro v541 T541 L541 X541 Q541
  obtain ⟨rfl, Nq541, e541⟩ := Q541
  have N541 := Fr.app N0 Nq541
  show Go _ _ _ _ (T541.setTop (mkF m 4 #[.val (.ref a1)] [(.int (2 : Int32))]))
  refine cI X541 hx (hb hby d_prog_13m4_4) (q := 5) rfl (z := (2 : Int32)) rfl ?_
  refine icN X541 hx (hb hby d_prog_13m4_5) (q := 8) rfl (by decide) ?_
  refine aL X541 hx (hb hby d_prog_13m4_8) (q := 9) rfl rfl rfl ?_
  refine cI X541 hx (hb hby d_prog_13m4_9) (q := 10) rfl (z := (0 : Int32)) rfl ?_
  refine g_vi X541 hx hZ0 hown0 (wd74 hw) (wd75 hw) (notFace_of_selects (args := #[]) (mvT hZ0 (wd77 hw))) (wd77 hw) (wd76 hw) (by decide) P0 e541 (Con.back (W := 0) (rm_ca0_0 l Z a0 hw zC SC PC vF rF SF SA SH SL a1 t kb c0 c1 h0 O0 P0 P1 P2 P3 H0 J0 W0) hZ0 (wd78 hw) (wd3 hw) (by decide) (by decide)) (by rw [hml]; rfl) (lenOf pd15 rfl) rfl (Nat.le_of_eq rfl) (hb hby d_prog_13m4_10) (q := 13) rfl (by decide) (by decide) ?_
  intro v542 T542 L542 X542 Q542
  obtain ⟨rfl, Nq542, e542⟩ := Q542
  have N542 := Fr.app N541 Nq542
  show Go _ _ _ _ (T542.setTop (mkF m 13 #[.val (.ref a1)] [(.int c0)]))
  refine bI X542 hx (hb hby d_prog_13m4_13) (q := 15) rfl (z := (97 : Int32)) rfl ?_
  refine icN X542 hx (hb hby d_prog_13m4_15) (q := 18) rfl (flt D0).1 ?_
  refine aL X542 hx (hb hby d_prog_13m4_18) (q := 19) rfl rfl rfl ?_
  refine cI X542 hx (hb hby d_prog_13m4_19) (q := 20) rfl (z := (0 : Int32)) rfl ?_
  refine g_vi X542 hx hZ0 hown0 (wd74 hw) (wd75 hw) (notFace_of_selects (args := #[]) (mvT hZ0 (wd77 hw))) (wd77 hw) (wd76 hw) (by decide) P0 e542 (Con.back (W := 0) (rm_ca0_0 l Z a0 hw zC SC PC vF rF SF SA SH SL a1 t kb c0 c1 h0 O0 P0 P1 P2 P3 H0 J0 W0) hZ0 (wd78 hw) (wd3 hw) (by decide) (by decide)) (by rw [hml]; rfl) (lenOf pd15 rfl) rfl (Nat.le_of_eq rfl) (hb hby d_prog_13m4_20) (q := 23) rfl (by decide) (by decide) ?_
  intro v543 T543 L543 X543 Q543
  obtain ⟨rfl, Nq543, e543⟩ := Q543
  have N543 := Fr.app N542 Nq543
  show Go _ _ _ _ (T543.setTop (mkF m 23 #[.val (.ref a1)] [(.int c0)]))
  refine bI X543 hx (hb hby d_prog_13m4_23) (q := 25) rfl (z := (122 : Int32)) rfl ?_
  refine icY X543 hx (hb hby d_prog_13m4_25) (q := 52) (by decide) (by decide) (tlt D1).2.2.1 ?_
  refine cI X543 hx (hb hby d_prog_13m4_52) (q := 53) rfl (z := (0 : Int32)) rfl ?_
  refine endP X543 hlk (fun h => by rw [hret] at h; cases h) (lastN X543 hx (t := .boolean) (z' := (0 : Int32)) hret (by simp) (by decide) (hb hby d_prog_13m4_53)) ?_ (by decide) (by decide)
  rw [e543]
  exact ⟨rfl, N543, rfl⟩
theorem d_prog_13m4_28 : decode prog_13_method_4_code 28 = .ok (.aload_n 0, 1) := by decide +kernel
theorem d_prog_13m4_29 : decode prog_13_method_4_code 29 = .ok (.iconst 1, 1) := by decide +kernel
theorem d_prog_13m4_30 : decode prog_13_method_4_code 30 = .ok (.invokevirtual 67, 3) := by decide +kernel
theorem d_prog_13m4_33 : decode prog_13_method_4_code 33 = .ok (.bipush 97, 2) := by decide +kernel
theorem d_prog_13m4_35 : decode prog_13_method_4_code 35 = .ok (.if_icmp .lt 17, 3) := by decide +kernel
def Q_ilc0c (Z : State) (zC : Int32) (vF : Value) (a1 : Addr) (t : Addr) (kb : ClassId) (c0 : Int32) (c1 : Int32) (h0 : Heap) (v : Option Value) (h : Heap) (L : List Loc) : Prop := v = some (.int (0 : Int32)) ∧ Fr Z.heap.size L ∧ h = h0
set_option maxRecDepth 65536 in
set_option maxHeartbeats 40000000 in
theorem rm_ilc0c (l : Launch) (Z : State) (a0 : Array Value) (hw : ∀ d ∈ tables_1, d.before a0 Z = true) (zC : Int32) (SC : Sta Z Z.heap "java/lang/String" "COMPACT_STRINGS" "Z" (.int zC)) (PC : ¬ zC = (0 : Int32)) (vF : Value) (rF : vF = .null ∨ ∃ a, vF = .ref a) (SF : Sta Z Z.heap "jdk/internal/util/Preconditions" "SIOOBE_FORMATTER" "Ljava/util/function/BiFunction;" vF) (SA : Sta Z Z.heap "java/lang/StringUTF16" "$assertionsDisabled" "Z" (.int (1 : Int32))) (SH : Sta Z Z.heap "java/lang/StringUTF16" "HI_BYTE_SHIFT" "I" (.int (0 : Int32))) (SL : Sta Z Z.heap "java/lang/StringUTF16" "LO_BYTE_SHIFT" "I" (.int (8 : Int32))) (a1 : Addr) (t : Addr) (kb : ClassId) (c0 : Int32) (c1 : Int32) (h0 : Heap) (O0 : Old Z Z.heap.size h0) (P0 : Exa Z h0 a1 "java/lang/String") (P1 : Fld Z h0 a1 "java/lang/String" "coder" "B" (.int (0 : Int32))) (P2 : Fld Z h0 a1 "java/lang/String" "value" "[B" (.ref t)) (P3 : Arv Z h0 t kb .byte (2 : Int32) [(.int (StrChars.lo8 c0)), (.int (StrChars.lo8 c1))] (.int 0)) (H0 : (¬ (c0 < (0 : Int32)))) (J0 : (¬ ((65535 : Int32) < c0))) (H1 : (¬ (c1 < (0 : Int32)))) (J1 : (¬ ((65535 : Int32) < c1))) (W0 : (¬ ((255 : Int32) < c0))) (W1 : (¬ ((255 : Int32) < c1))) (D0 : (¬ (c0 < (97 : Int32)))) (D1 : (¬ ((122 : Int32) < c0))) (D2 : (c1 < (97 : Int32))) :
    Con l Z (⟨"com/example/anteriorita/anteriorita/PatentRecord", "isLanguageCode", "(Ljava/lang/String;)Z"⟩ : MethodName) prog_13_method_4_code 1 (some .boolean) ({ frames := 4, cells := 0, slots := 0, locals := 53 } : Room) #[(.ref a1)] h0 (Q_ilc0c Z zC vF a1 t kb c0 c1 h0) := by
  refine Con.intro pn5 ?_
  intro p e s m below meth c T0 X0 hx hby hml hown0 hnm hret hlk hZ0 e0
  have N0 := Fr.nil Z.heap.size
  refine castGo (g' := mkF m 0 #[.val (.ref a1)] []) (by first | rfl | (simp [entryFrame, mkF, argsToLocals, Value.category]; done)) ?_
  show Go _ _ _ _ (T0.setTop (mkF m 0 #[.val (.ref a1)] []))
  refine aL X0 hx (hb hby d_prog_13m4_0) (q := 1) rfl rfl rfl ?_
  refine g_vi X0 hx hZ0 hown0 (wd31 hw) (wd32 hw) (notFace_of_selects (args := #[]) (mvT hZ0 (wd34 hw))) (wd34 hw) (wd33 hw) (by decide) P0 e0 (Con.back (W := 0) (rm_len0_2 l Z a0 hw zC SC PC vF rF SF SA SH SL a1 t kb [(.int (StrChars.lo8 c0)), (.int (StrChars.lo8 c1))] h0 O0 P0 P1 P2 P3) hZ0 (wd35 hw) (wd3 hw) (by decide) (by decide)) (by rw [hml]; rfl) (lenOf pd14 rfl) rfl (Nat.le_of_eq rfl) (hb hby d_prog_13m4_1) (q := 4) rfl (by decide) (by decide) ?_
  intro v544 T544 L544 X544 Q544
  obtain ⟨rfl, Nq544, e544⟩ := Q544
  have N544 := Fr.app N0 Nq544
  show Go _ _ _ _ (T544.setTop (mkF m 4 #[.val (.ref a1)] [(.int (2 : Int32))]))
  refine cI X544 hx (hb hby d_prog_13m4_4) (q := 5) rfl (z := (2 : Int32)) rfl ?_
  refine icN X544 hx (hb hby d_prog_13m4_5) (q := 8) rfl (by decide) ?_
  refine aL X544 hx (hb hby d_prog_13m4_8) (q := 9) rfl rfl rfl ?_
  refine cI X544 hx (hb hby d_prog_13m4_9) (q := 10) rfl (z := (0 : Int32)) rfl ?_
  refine g_vi X544 hx hZ0 hown0 (wd74 hw) (wd75 hw) (notFace_of_selects (args := #[]) (mvT hZ0 (wd77 hw))) (wd77 hw) (wd76 hw) (by decide) P0 e544 (Con.back (W := 0) (rm_ca0_0 l Z a0 hw zC SC PC vF rF SF SA SH SL a1 t kb c0 c1 h0 O0 P0 P1 P2 P3 H0 J0 W0) hZ0 (wd78 hw) (wd3 hw) (by decide) (by decide)) (by rw [hml]; rfl) (lenOf pd15 rfl) rfl (Nat.le_of_eq rfl) (hb hby d_prog_13m4_10) (q := 13) rfl (by decide) (by decide) ?_
  intro v545 T545 L545 X545 Q545
  obtain ⟨rfl, Nq545, e545⟩ := Q545
  have N545 := Fr.app N544 Nq545
  show Go _ _ _ _ (T545.setTop (mkF m 13 #[.val (.ref a1)] [(.int c0)]))
  refine bI X545 hx (hb hby d_prog_13m4_13) (q := 15) rfl (z := (97 : Int32)) rfl ?_
  refine icN X545 hx (hb hby d_prog_13m4_15) (q := 18) rfl (flt D0).1 ?_
  refine aL X545 hx (hb hby d_prog_13m4_18) (q := 19) rfl rfl rfl ?_
  refine cI X545 hx (hb hby d_prog_13m4_19) (q := 20) rfl (z := (0 : Int32)) rfl ?_
  refine g_vi X545 hx hZ0 hown0 (wd74 hw) (wd75 hw) (notFace_of_selects (args := #[]) (mvT hZ0 (wd77 hw))) (wd77 hw) (wd76 hw) (by decide) P0 e545 (Con.back (W := 0) (rm_ca0_0 l Z a0 hw zC SC PC vF rF SF SA SH SL a1 t kb c0 c1 h0 O0 P0 P1 P2 P3 H0 J0 W0) hZ0 (wd78 hw) (wd3 hw) (by decide) (by decide)) (by rw [hml]; rfl) (lenOf pd15 rfl) rfl (Nat.le_of_eq rfl) (hb hby d_prog_13m4_20) (q := 23) rfl (by decide) (by decide) ?_
  intro v546 T546 L546 X546 Q546
  obtain ⟨rfl, Nq546, e546⟩ := Q546
  have N546 := Fr.app N545 Nq546
  show Go _ _ _ _ (T546.setTop (mkF m 23 #[.val (.ref a1)] [(.int c0)]))
  refine bI X546 hx (hb hby d_prog_13m4_23) (q := 25) rfl (z := (122 : Int32)) rfl ?_
  refine icN X546 hx (hb hby d_prog_13m4_25) (q := 28) rfl (flt D1).2.2.1 ?_
  refine aL X546 hx (hb hby d_prog_13m4_28) (q := 29) rfl rfl rfl ?_
  refine cI X546 hx (hb hby d_prog_13m4_29) (q := 30) rfl (z := (1 : Int32)) rfl ?_
  refine g_vi X546 hx hZ0 hown0 (wd74 hw) (wd75 hw) (notFace_of_selects (args := #[]) (mvT hZ0 (wd77 hw))) (wd77 hw) (wd76 hw) (by decide) P0 e546 (Con.back (W := 0) (rm_ca0_1 l Z a0 hw zC SC PC vF rF SF SA SH SL a1 t kb c0 c1 h0 O0 P0 P1 P2 P3 H1 J1 W1) hZ0 (wd78 hw) (wd3 hw) (by decide) (by decide)) (by rw [hml]; rfl) (lenOf pd15 rfl) rfl (Nat.le_of_eq rfl) (hb hby d_prog_13m4_30) (q := 33) rfl (by decide) (by decide) ?_
  intro v547 T547 L547 X547 Q547
  obtain ⟨rfl, Nq547, e547⟩ := Q547
  have N547 := Fr.app N546 Nq547
  show Go _ _ _ _ (T547.setTop (mkF m 33 #[.val (.ref a1)] [(.int c1)]))
  refine bI X547 hx (hb hby d_prog_13m4_33) (q := 35) rfl (z := (97 : Int32)) rfl ?_
  refine icY X547 hx (hb hby d_prog_13m4_35) (q := 52) (by decide) (by decide) (tlt D2).1 ?_
  refine cI X547 hx (hb hby d_prog_13m4_52) (q := 53) rfl (z := (0 : Int32)) rfl ?_
  refine endP X547 hlk (fun h => by rw [hret] at h; cases h) (lastN X547 hx (t := .boolean) (z' := (0 : Int32)) hret (by simp) (by decide) (hb hby d_prog_13m4_53)) ?_ (by decide) (by decide)
  rw [e547]
  exact ⟨rfl, N547, rfl⟩
theorem d_prog_13m4_38 : decode prog_13_method_4_code 38 = .ok (.aload_n 0, 1) := by decide +kernel
theorem d_prog_13m4_39 : decode prog_13_method_4_code 39 = .ok (.iconst 1, 1) := by decide +kernel
theorem d_prog_13m4_40 : decode prog_13_method_4_code 40 = .ok (.invokevirtual 67, 3) := by decide +kernel
theorem d_prog_13m4_43 : decode prog_13_method_4_code 43 = .ok (.bipush 122, 2) := by decide +kernel
theorem d_prog_13m4_45 : decode prog_13_method_4_code 45 = .ok (.if_icmp .gt 7, 3) := by decide +kernel
def Q_ilc0d (Z : State) (zC : Int32) (vF : Value) (a1 : Addr) (t : Addr) (kb : ClassId) (c0 : Int32) (c1 : Int32) (h0 : Heap) (v : Option Value) (h : Heap) (L : List Loc) : Prop := v = some (.int (0 : Int32)) ∧ Fr Z.heap.size L ∧ h = h0
set_option maxRecDepth 65536 in
set_option maxHeartbeats 40000000 in
theorem rm_ilc0d (l : Launch) (Z : State) (a0 : Array Value) (hw : ∀ d ∈ tables_1, d.before a0 Z = true) (zC : Int32) (SC : Sta Z Z.heap "java/lang/String" "COMPACT_STRINGS" "Z" (.int zC)) (PC : ¬ zC = (0 : Int32)) (vF : Value) (rF : vF = .null ∨ ∃ a, vF = .ref a) (SF : Sta Z Z.heap "jdk/internal/util/Preconditions" "SIOOBE_FORMATTER" "Ljava/util/function/BiFunction;" vF) (SA : Sta Z Z.heap "java/lang/StringUTF16" "$assertionsDisabled" "Z" (.int (1 : Int32))) (SH : Sta Z Z.heap "java/lang/StringUTF16" "HI_BYTE_SHIFT" "I" (.int (0 : Int32))) (SL : Sta Z Z.heap "java/lang/StringUTF16" "LO_BYTE_SHIFT" "I" (.int (8 : Int32))) (a1 : Addr) (t : Addr) (kb : ClassId) (c0 : Int32) (c1 : Int32) (h0 : Heap) (O0 : Old Z Z.heap.size h0) (P0 : Exa Z h0 a1 "java/lang/String") (P1 : Fld Z h0 a1 "java/lang/String" "coder" "B" (.int (0 : Int32))) (P2 : Fld Z h0 a1 "java/lang/String" "value" "[B" (.ref t)) (P3 : Arv Z h0 t kb .byte (2 : Int32) [(.int (StrChars.lo8 c0)), (.int (StrChars.lo8 c1))] (.int 0)) (H0 : (¬ (c0 < (0 : Int32)))) (J0 : (¬ ((65535 : Int32) < c0))) (H1 : (¬ (c1 < (0 : Int32)))) (J1 : (¬ ((65535 : Int32) < c1))) (W0 : (¬ ((255 : Int32) < c0))) (W1 : (¬ ((255 : Int32) < c1))) (D0 : (¬ (c0 < (97 : Int32)))) (D1 : (¬ ((122 : Int32) < c0))) (D2 : (¬ (c1 < (97 : Int32)))) (D3 : ((122 : Int32) < c1)) :
    Con l Z (⟨"com/example/anteriorita/anteriorita/PatentRecord", "isLanguageCode", "(Ljava/lang/String;)Z"⟩ : MethodName) prog_13_method_4_code 1 (some .boolean) ({ frames := 4, cells := 0, slots := 0, locals := 53 } : Room) #[(.ref a1)] h0 (Q_ilc0d Z zC vF a1 t kb c0 c1 h0) := by
  refine Con.intro pn5 ?_
  intro p e s m below meth c T0 X0 hx hby hml hown0 hnm hret hlk hZ0 e0
  have N0 := Fr.nil Z.heap.size
  refine castGo (g' := mkF m 0 #[.val (.ref a1)] []) (by first | rfl | (simp [entryFrame, mkF, argsToLocals, Value.category]; done)) ?_
  show Go _ _ _ _ (T0.setTop (mkF m 0 #[.val (.ref a1)] []))
  refine aL X0 hx (hb hby d_prog_13m4_0) (q := 1) rfl rfl rfl ?_
  refine g_vi X0 hx hZ0 hown0 (wd31 hw) (wd32 hw) (notFace_of_selects (args := #[]) (mvT hZ0 (wd34 hw))) (wd34 hw) (wd33 hw) (by decide) P0 e0 (Con.back (W := 0) (rm_len0_2 l Z a0 hw zC SC PC vF rF SF SA SH SL a1 t kb [(.int (StrChars.lo8 c0)), (.int (StrChars.lo8 c1))] h0 O0 P0 P1 P2 P3) hZ0 (wd35 hw) (wd3 hw) (by decide) (by decide)) (by rw [hml]; rfl) (lenOf pd14 rfl) rfl (Nat.le_of_eq rfl) (hb hby d_prog_13m4_1) (q := 4) rfl (by decide) (by decide) ?_
  intro v548 T548 L548 X548 Q548
  obtain ⟨rfl, Nq548, e548⟩ := Q548
  have N548 := Fr.app N0 Nq548
  show Go _ _ _ _ (T548.setTop (mkF m 4 #[.val (.ref a1)] [(.int (2 : Int32))]))
  refine cI X548 hx (hb hby d_prog_13m4_4) (q := 5) rfl (z := (2 : Int32)) rfl ?_
  refine icN X548 hx (hb hby d_prog_13m4_5) (q := 8) rfl (by decide) ?_
  refine aL X548 hx (hb hby d_prog_13m4_8) (q := 9) rfl rfl rfl ?_
  refine cI X548 hx (hb hby d_prog_13m4_9) (q := 10) rfl (z := (0 : Int32)) rfl ?_
  refine g_vi X548 hx hZ0 hown0 (wd74 hw) (wd75 hw) (notFace_of_selects (args := #[]) (mvT hZ0 (wd77 hw))) (wd77 hw) (wd76 hw) (by decide) P0 e548 (Con.back (W := 0) (rm_ca0_0 l Z a0 hw zC SC PC vF rF SF SA SH SL a1 t kb c0 c1 h0 O0 P0 P1 P2 P3 H0 J0 W0) hZ0 (wd78 hw) (wd3 hw) (by decide) (by decide)) (by rw [hml]; rfl) (lenOf pd15 rfl) rfl (Nat.le_of_eq rfl) (hb hby d_prog_13m4_10) (q := 13) rfl (by decide) (by decide) ?_
  intro v549 T549 L549 X549 Q549
  obtain ⟨rfl, Nq549, e549⟩ := Q549
  have N549 := Fr.app N548 Nq549
  show Go _ _ _ _ (T549.setTop (mkF m 13 #[.val (.ref a1)] [(.int c0)]))
  refine bI X549 hx (hb hby d_prog_13m4_13) (q := 15) rfl (z := (97 : Int32)) rfl ?_
  refine icN X549 hx (hb hby d_prog_13m4_15) (q := 18) rfl (flt D0).1 ?_
  refine aL X549 hx (hb hby d_prog_13m4_18) (q := 19) rfl rfl rfl ?_
  refine cI X549 hx (hb hby d_prog_13m4_19) (q := 20) rfl (z := (0 : Int32)) rfl ?_
  refine g_vi X549 hx hZ0 hown0 (wd74 hw) (wd75 hw) (notFace_of_selects (args := #[]) (mvT hZ0 (wd77 hw))) (wd77 hw) (wd76 hw) (by decide) P0 e549 (Con.back (W := 0) (rm_ca0_0 l Z a0 hw zC SC PC vF rF SF SA SH SL a1 t kb c0 c1 h0 O0 P0 P1 P2 P3 H0 J0 W0) hZ0 (wd78 hw) (wd3 hw) (by decide) (by decide)) (by rw [hml]; rfl) (lenOf pd15 rfl) rfl (Nat.le_of_eq rfl) (hb hby d_prog_13m4_20) (q := 23) rfl (by decide) (by decide) ?_
  intro v550 T550 L550 X550 Q550
  obtain ⟨rfl, Nq550, e550⟩ := Q550
  have N550 := Fr.app N549 Nq550
  show Go _ _ _ _ (T550.setTop (mkF m 23 #[.val (.ref a1)] [(.int c0)]))
  refine bI X550 hx (hb hby d_prog_13m4_23) (q := 25) rfl (z := (122 : Int32)) rfl ?_
  refine icN X550 hx (hb hby d_prog_13m4_25) (q := 28) rfl (flt D1).2.2.1 ?_
  refine aL X550 hx (hb hby d_prog_13m4_28) (q := 29) rfl rfl rfl ?_
  refine cI X550 hx (hb hby d_prog_13m4_29) (q := 30) rfl (z := (1 : Int32)) rfl ?_
  refine g_vi X550 hx hZ0 hown0 (wd74 hw) (wd75 hw) (notFace_of_selects (args := #[]) (mvT hZ0 (wd77 hw))) (wd77 hw) (wd76 hw) (by decide) P0 e550 (Con.back (W := 0) (rm_ca0_1 l Z a0 hw zC SC PC vF rF SF SA SH SL a1 t kb c0 c1 h0 O0 P0 P1 P2 P3 H1 J1 W1) hZ0 (wd78 hw) (wd3 hw) (by decide) (by decide)) (by rw [hml]; rfl) (lenOf pd15 rfl) rfl (Nat.le_of_eq rfl) (hb hby d_prog_13m4_30) (q := 33) rfl (by decide) (by decide) ?_
  intro v551 T551 L551 X551 Q551
  obtain ⟨rfl, Nq551, e551⟩ := Q551
  have N551 := Fr.app N550 Nq551
  show Go _ _ _ _ (T551.setTop (mkF m 33 #[.val (.ref a1)] [(.int c1)]))
  refine bI X551 hx (hb hby d_prog_13m4_33) (q := 35) rfl (z := (97 : Int32)) rfl ?_
  refine icN X551 hx (hb hby d_prog_13m4_35) (q := 38) rfl (flt D2).1 ?_
  refine aL X551 hx (hb hby d_prog_13m4_38) (q := 39) rfl rfl rfl ?_
  refine cI X551 hx (hb hby d_prog_13m4_39) (q := 40) rfl (z := (1 : Int32)) rfl ?_
  refine g_vi X551 hx hZ0 hown0 (wd74 hw) (wd75 hw) (notFace_of_selects (args := #[]) (mvT hZ0 (wd77 hw))) (wd77 hw) (wd76 hw) (by decide) P0 e551 (Con.back (W := 0) (rm_ca0_1 l Z a0 hw zC SC PC vF rF SF SA SH SL a1 t kb c0 c1 h0 O0 P0 P1 P2 P3 H1 J1 W1) hZ0 (wd78 hw) (wd3 hw) (by decide) (by decide)) (by rw [hml]; rfl) (lenOf pd15 rfl) rfl (Nat.le_of_eq rfl) (hb hby d_prog_13m4_40) (q := 43) rfl (by decide) (by decide) ?_
  intro v552 T552 L552 X552 Q552
  obtain ⟨rfl, Nq552, e552⟩ := Q552
  have N552 := Fr.app N551 Nq552
  show Go _ _ _ _ (T552.setTop (mkF m 43 #[.val (.ref a1)] [(.int c1)]))
  refine bI X552 hx (hb hby d_prog_13m4_43) (q := 45) rfl (z := (122 : Int32)) rfl ?_
  refine icY X552 hx (hb hby d_prog_13m4_45) (q := 52) (by decide) (by decide) (tlt D3).2.2.1 ?_
  refine cI X552 hx (hb hby d_prog_13m4_52) (q := 53) rfl (z := (0 : Int32)) rfl ?_
  refine endP X552 hlk (fun h => by rw [hret] at h; cases h) (lastN X552 hx (t := .boolean) (z' := (0 : Int32)) hret (by simp) (by decide) (hb hby d_prog_13m4_53)) ?_ (by decide) (by decide)
  rw [e552]
  exact ⟨rfl, N552, rfl⟩
theorem d_prog_13m4_48 : decode prog_13_method_4_code 48 = .ok (.iconst 1, 1) := by decide +kernel
theorem d_prog_13m4_49 : decode prog_13_method_4_code 49 = .ok (.goto 4, 3) := by decide +kernel
def Q_ilc0e (Z : State) (zC : Int32) (vF : Value) (a1 : Addr) (t : Addr) (kb : ClassId) (c0 : Int32) (c1 : Int32) (h0 : Heap) (v : Option Value) (h : Heap) (L : List Loc) : Prop := v = some (.int (1 : Int32)) ∧ Fr Z.heap.size L ∧ h = h0
set_option maxRecDepth 65536 in
set_option maxHeartbeats 40000000 in
theorem rm_ilc0e (l : Launch) (Z : State) (a0 : Array Value) (hw : ∀ d ∈ tables_1, d.before a0 Z = true) (zC : Int32) (SC : Sta Z Z.heap "java/lang/String" "COMPACT_STRINGS" "Z" (.int zC)) (PC : ¬ zC = (0 : Int32)) (vF : Value) (rF : vF = .null ∨ ∃ a, vF = .ref a) (SF : Sta Z Z.heap "jdk/internal/util/Preconditions" "SIOOBE_FORMATTER" "Ljava/util/function/BiFunction;" vF) (SA : Sta Z Z.heap "java/lang/StringUTF16" "$assertionsDisabled" "Z" (.int (1 : Int32))) (SH : Sta Z Z.heap "java/lang/StringUTF16" "HI_BYTE_SHIFT" "I" (.int (0 : Int32))) (SL : Sta Z Z.heap "java/lang/StringUTF16" "LO_BYTE_SHIFT" "I" (.int (8 : Int32))) (a1 : Addr) (t : Addr) (kb : ClassId) (c0 : Int32) (c1 : Int32) (h0 : Heap) (O0 : Old Z Z.heap.size h0) (P0 : Exa Z h0 a1 "java/lang/String") (P1 : Fld Z h0 a1 "java/lang/String" "coder" "B" (.int (0 : Int32))) (P2 : Fld Z h0 a1 "java/lang/String" "value" "[B" (.ref t)) (P3 : Arv Z h0 t kb .byte (2 : Int32) [(.int (StrChars.lo8 c0)), (.int (StrChars.lo8 c1))] (.int 0)) (H0 : (¬ (c0 < (0 : Int32)))) (J0 : (¬ ((65535 : Int32) < c0))) (H1 : (¬ (c1 < (0 : Int32)))) (J1 : (¬ ((65535 : Int32) < c1))) (W0 : (¬ ((255 : Int32) < c0))) (W1 : (¬ ((255 : Int32) < c1))) (D0 : (¬ (c0 < (97 : Int32)))) (D1 : (¬ ((122 : Int32) < c0))) (D2 : (¬ (c1 < (97 : Int32)))) (D3 : (¬ ((122 : Int32) < c1))) :
    Con l Z (⟨"com/example/anteriorita/anteriorita/PatentRecord", "isLanguageCode", "(Ljava/lang/String;)Z"⟩ : MethodName) prog_13_method_4_code 1 (some .boolean) ({ frames := 4, cells := 0, slots := 0, locals := 53 } : Room) #[(.ref a1)] h0 (Q_ilc0e Z zC vF a1 t kb c0 c1 h0) := by
  refine Con.intro pn5 ?_
  intro p e s m below meth c T0 X0 hx hby hml hown0 hnm hret hlk hZ0 e0
  have N0 := Fr.nil Z.heap.size
  refine castGo (g' := mkF m 0 #[.val (.ref a1)] []) (by first | rfl | (simp [entryFrame, mkF, argsToLocals, Value.category]; done)) ?_
  show Go _ _ _ _ (T0.setTop (mkF m 0 #[.val (.ref a1)] []))
  refine aL X0 hx (hb hby d_prog_13m4_0) (q := 1) rfl rfl rfl ?_
  refine g_vi X0 hx hZ0 hown0 (wd31 hw) (wd32 hw) (notFace_of_selects (args := #[]) (mvT hZ0 (wd34 hw))) (wd34 hw) (wd33 hw) (by decide) P0 e0 (Con.back (W := 0) (rm_len0_2 l Z a0 hw zC SC PC vF rF SF SA SH SL a1 t kb [(.int (StrChars.lo8 c0)), (.int (StrChars.lo8 c1))] h0 O0 P0 P1 P2 P3) hZ0 (wd35 hw) (wd3 hw) (by decide) (by decide)) (by rw [hml]; rfl) (lenOf pd14 rfl) rfl (Nat.le_of_eq rfl) (hb hby d_prog_13m4_1) (q := 4) rfl (by decide) (by decide) ?_
  intro v553 T553 L553 X553 Q553
  obtain ⟨rfl, Nq553, e553⟩ := Q553
  have N553 := Fr.app N0 Nq553
  show Go _ _ _ _ (T553.setTop (mkF m 4 #[.val (.ref a1)] [(.int (2 : Int32))]))
  refine cI X553 hx (hb hby d_prog_13m4_4) (q := 5) rfl (z := (2 : Int32)) rfl ?_
  refine icN X553 hx (hb hby d_prog_13m4_5) (q := 8) rfl (by decide) ?_
  refine aL X553 hx (hb hby d_prog_13m4_8) (q := 9) rfl rfl rfl ?_
  refine cI X553 hx (hb hby d_prog_13m4_9) (q := 10) rfl (z := (0 : Int32)) rfl ?_
  refine g_vi X553 hx hZ0 hown0 (wd74 hw) (wd75 hw) (notFace_of_selects (args := #[]) (mvT hZ0 (wd77 hw))) (wd77 hw) (wd76 hw) (by decide) P0 e553 (Con.back (W := 0) (rm_ca0_0 l Z a0 hw zC SC PC vF rF SF SA SH SL a1 t kb c0 c1 h0 O0 P0 P1 P2 P3 H0 J0 W0) hZ0 (wd78 hw) (wd3 hw) (by decide) (by decide)) (by rw [hml]; rfl) (lenOf pd15 rfl) rfl (Nat.le_of_eq rfl) (hb hby d_prog_13m4_10) (q := 13) rfl (by decide) (by decide) ?_
  intro v554 T554 L554 X554 Q554
  obtain ⟨rfl, Nq554, e554⟩ := Q554
  have N554 := Fr.app N553 Nq554
  show Go _ _ _ _ (T554.setTop (mkF m 13 #[.val (.ref a1)] [(.int c0)]))
  refine bI X554 hx (hb hby d_prog_13m4_13) (q := 15) rfl (z := (97 : Int32)) rfl ?_
  refine icN X554 hx (hb hby d_prog_13m4_15) (q := 18) rfl (flt D0).1 ?_
  refine aL X554 hx (hb hby d_prog_13m4_18) (q := 19) rfl rfl rfl ?_
  refine cI X554 hx (hb hby d_prog_13m4_19) (q := 20) rfl (z := (0 : Int32)) rfl ?_
  refine g_vi X554 hx hZ0 hown0 (wd74 hw) (wd75 hw) (notFace_of_selects (args := #[]) (mvT hZ0 (wd77 hw))) (wd77 hw) (wd76 hw) (by decide) P0 e554 (Con.back (W := 0) (rm_ca0_0 l Z a0 hw zC SC PC vF rF SF SA SH SL a1 t kb c0 c1 h0 O0 P0 P1 P2 P3 H0 J0 W0) hZ0 (wd78 hw) (wd3 hw) (by decide) (by decide)) (by rw [hml]; rfl) (lenOf pd15 rfl) rfl (Nat.le_of_eq rfl) (hb hby d_prog_13m4_20) (q := 23) rfl (by decide) (by decide) ?_
  intro v555 T555 L555 X555 Q555
  obtain ⟨rfl, Nq555, e555⟩ := Q555
  have N555 := Fr.app N554 Nq555
  show Go _ _ _ _ (T555.setTop (mkF m 23 #[.val (.ref a1)] [(.int c0)]))
  refine bI X555 hx (hb hby d_prog_13m4_23) (q := 25) rfl (z := (122 : Int32)) rfl ?_
  refine icN X555 hx (hb hby d_prog_13m4_25) (q := 28) rfl (flt D1).2.2.1 ?_
  refine aL X555 hx (hb hby d_prog_13m4_28) (q := 29) rfl rfl rfl ?_
  refine cI X555 hx (hb hby d_prog_13m4_29) (q := 30) rfl (z := (1 : Int32)) rfl ?_
  refine g_vi X555 hx hZ0 hown0 (wd74 hw) (wd75 hw) (notFace_of_selects (args := #[]) (mvT hZ0 (wd77 hw))) (wd77 hw) (wd76 hw) (by decide) P0 e555 (Con.back (W := 0) (rm_ca0_1 l Z a0 hw zC SC PC vF rF SF SA SH SL a1 t kb c0 c1 h0 O0 P0 P1 P2 P3 H1 J1 W1) hZ0 (wd78 hw) (wd3 hw) (by decide) (by decide)) (by rw [hml]; rfl) (lenOf pd15 rfl) rfl (Nat.le_of_eq rfl) (hb hby d_prog_13m4_30) (q := 33) rfl (by decide) (by decide) ?_
  intro v556 T556 L556 X556 Q556
  obtain ⟨rfl, Nq556, e556⟩ := Q556
  have N556 := Fr.app N555 Nq556
  show Go _ _ _ _ (T556.setTop (mkF m 33 #[.val (.ref a1)] [(.int c1)]))
  refine bI X556 hx (hb hby d_prog_13m4_33) (q := 35) rfl (z := (97 : Int32)) rfl ?_
  refine icN X556 hx (hb hby d_prog_13m4_35) (q := 38) rfl (flt D2).1 ?_
  refine aL X556 hx (hb hby d_prog_13m4_38) (q := 39) rfl rfl rfl ?_
  refine cI X556 hx (hb hby d_prog_13m4_39) (q := 40) rfl (z := (1 : Int32)) rfl ?_
  refine g_vi X556 hx hZ0 hown0 (wd74 hw) (wd75 hw) (notFace_of_selects (args := #[]) (mvT hZ0 (wd77 hw))) (wd77 hw) (wd76 hw) (by decide) P0 e556 (Con.back (W := 0) (rm_ca0_1 l Z a0 hw zC SC PC vF rF SF SA SH SL a1 t kb c0 c1 h0 O0 P0 P1 P2 P3 H1 J1 W1) hZ0 (wd78 hw) (wd3 hw) (by decide) (by decide)) (by rw [hml]; rfl) (lenOf pd15 rfl) rfl (Nat.le_of_eq rfl) (hb hby d_prog_13m4_40) (q := 43) rfl (by decide) (by decide) ?_
  intro v557 T557 L557 X557 Q557
  obtain ⟨rfl, Nq557, e557⟩ := Q557
  have N557 := Fr.app N556 Nq557
  show Go _ _ _ _ (T557.setTop (mkF m 43 #[.val (.ref a1)] [(.int c1)]))
  refine bI X557 hx (hb hby d_prog_13m4_43) (q := 45) rfl (z := (122 : Int32)) rfl ?_
  refine icN X557 hx (hb hby d_prog_13m4_45) (q := 48) rfl (flt D3).2.2.1 ?_
  refine cI X557 hx (hb hby d_prog_13m4_48) (q := 49) rfl (z := (1 : Int32)) rfl ?_
  refine g_goto X557 hx (hb hby d_prog_13m4_49) (q := 53) (by decide) (by decide) ?_
  refine endP X557 hlk (fun h => by rw [hret] at h; cases h) (lastN X557 hx (t := .boolean) (z' := (1 : Int32)) hret (by simp) (by decide) (hb hby d_prog_13m4_53)) ?_ (by decide) (by decide)
  rw [e557]
  exact ⟨rfl, N557, rfl⟩
def Q_ilc1a (Z : State) (zC : Int32) (vF : Value) (a1 : Addr) (t : Addr) (kb : ClassId) (c0 : Int32) (c1 : Int32) (h0 : Heap) (v : Option Value) (h : Heap) (L : List Loc) : Prop := v = some (.int (0 : Int32)) ∧ Fr Z.heap.size L ∧ h = h0
set_option maxRecDepth 65536 in
set_option maxHeartbeats 40000000 in
theorem rm_ilc1a (l : Launch) (Z : State) (a0 : Array Value) (hw : ∀ d ∈ tables_1, d.before a0 Z = true) (zC : Int32) (SC : Sta Z Z.heap "java/lang/String" "COMPACT_STRINGS" "Z" (.int zC)) (PC : ¬ zC = (0 : Int32)) (vF : Value) (rF : vF = .null ∨ ∃ a, vF = .ref a) (SF : Sta Z Z.heap "jdk/internal/util/Preconditions" "SIOOBE_FORMATTER" "Ljava/util/function/BiFunction;" vF) (SA : Sta Z Z.heap "java/lang/StringUTF16" "$assertionsDisabled" "Z" (.int (1 : Int32))) (SH : Sta Z Z.heap "java/lang/StringUTF16" "HI_BYTE_SHIFT" "I" (.int (0 : Int32))) (SL : Sta Z Z.heap "java/lang/StringUTF16" "LO_BYTE_SHIFT" "I" (.int (8 : Int32))) (a1 : Addr) (t : Addr) (kb : ClassId) (c0 : Int32) (c1 : Int32) (h0 : Heap) (O0 : Old Z Z.heap.size h0) (P0 : Exa Z h0 a1 "java/lang/String") (P1 : Fld Z h0 a1 "java/lang/String" "coder" "B" (.int (1 : Int32))) (P2 : Fld Z h0 a1 "java/lang/String" "value" "[B" (.ref t)) (P3 : Arv Z h0 t kb .byte (4 : Int32) [(.int (StrChars.lo8 c0)), (.int (StrChars.hi8 c0)), (.int (StrChars.lo8 c1)), (.int (StrChars.hi8 c1))] (.int 0)) (H0 : (¬ (c0 < (0 : Int32)))) (J0 : (¬ ((65535 : Int32) < c0))) (H1 : (¬ (c1 < (0 : Int32)))) (J1 : (¬ ((65535 : Int32) < c1))) (D0 : (c0 < (97 : Int32))) :
    Con l Z (⟨"com/example/anteriorita/anteriorita/PatentRecord", "isLanguageCode", "(Ljava/lang/String;)Z"⟩ : MethodName) prog_13_method_4_code 1 (some .boolean) ({ frames := 5, cells := 0, slots := 0, locals := 66 } : Room) #[(.ref a1)] h0 (Q_ilc1a Z zC vF a1 t kb c0 c1 h0) := by
  refine Con.intro pn5 ?_
  intro p e s m below meth c T0 X0 hx hby hml hown0 hnm hret hlk hZ0 e0
  have N0 := Fr.nil Z.heap.size
  refine castGo (g' := mkF m 0 #[.val (.ref a1)] []) (by first | rfl | (simp [entryFrame, mkF, argsToLocals, Value.category]; done)) ?_
  show Go _ _ _ _ (T0.setTop (mkF m 0 #[.val (.ref a1)] []))
  refine aL X0 hx (hb hby d_prog_13m4_0) (q := 1) rfl rfl rfl ?_
  refine g_vi X0 hx hZ0 hown0 (wd31 hw) (wd32 hw) (notFace_of_selects (args := #[]) (mvT hZ0 (wd34 hw))) (wd34 hw) (wd33 hw) (by decide) P0 e0 (Con.back (W := 0) (rm_len1_4 l Z a0 hw zC SC PC vF rF SF SA SH SL a1 t kb [(.int (StrChars.lo8 c0)), (.int (StrChars.hi8 c0)), (.int (StrChars.lo8 c1)), (.int (StrChars.hi8 c1))] h0 O0 P0 P1 P2 P3) hZ0 (wd35 hw) (wd3 hw) (by decide) (by decide)) (by rw [hml]; rfl) (lenOf pd14 rfl) rfl (Nat.le_of_eq rfl) (hb hby d_prog_13m4_1) (q := 4) rfl (by decide) (by decide) ?_
  intro v558 T558 L558 X558 Q558
  obtain ⟨rfl, Nq558, e558⟩ := Q558
  have N558 := Fr.app N0 Nq558
  show Go _ _ _ _ (T558.setTop (mkF m 4 #[.val (.ref a1)] [(.int (2 : Int32))]))
  refine cI X558 hx (hb hby d_prog_13m4_4) (q := 5) rfl (z := (2 : Int32)) rfl ?_
  refine icN X558 hx (hb hby d_prog_13m4_5) (q := 8) rfl (by decide) ?_
  refine aL X558 hx (hb hby d_prog_13m4_8) (q := 9) rfl rfl rfl ?_
  refine cI X558 hx (hb hby d_prog_13m4_9) (q := 10) rfl (z := (0 : Int32)) rfl ?_
  refine g_vi X558 hx hZ0 hown0 (wd74 hw) (wd75 hw) (notFace_of_selects (args := #[]) (mvT hZ0 (wd77 hw))) (wd77 hw) (wd76 hw) (by decide) P0 e558 (Con.back (W := 0) (rm_ca1_0 l Z a0 hw zC SC PC vF rF SF SA SH SL a1 t kb c0 c1 h0 O0 P0 P1 P2 P3 H0 J0) hZ0 (wd78 hw) (wd3 hw) (by decide) (by decide)) (by rw [hml]; rfl) (lenOf pd15 rfl) rfl (Nat.le_of_eq rfl) (hb hby d_prog_13m4_10) (q := 13) rfl (by decide) (by decide) ?_
  intro v559 T559 L559 X559 Q559
  obtain ⟨rfl, Nq559, e559⟩ := Q559
  have N559 := Fr.app N558 Nq559
  show Go _ _ _ _ (T559.setTop (mkF m 13 #[.val (.ref a1)] [(.int c0)]))
  refine bI X559 hx (hb hby d_prog_13m4_13) (q := 15) rfl (z := (97 : Int32)) rfl ?_
  refine icY X559 hx (hb hby d_prog_13m4_15) (q := 52) (by decide) (by decide) (tlt D0).1 ?_
  refine cI X559 hx (hb hby d_prog_13m4_52) (q := 53) rfl (z := (0 : Int32)) rfl ?_
  refine endP X559 hlk (fun h => by rw [hret] at h; cases h) (lastN X559 hx (t := .boolean) (z' := (0 : Int32)) hret (by simp) (by decide) (hb hby d_prog_13m4_53)) ?_ (by decide) (by decide)
  rw [e559]
  exact ⟨rfl, N559, rfl⟩
def Q_ilc1b (Z : State) (zC : Int32) (vF : Value) (a1 : Addr) (t : Addr) (kb : ClassId) (c0 : Int32) (c1 : Int32) (h0 : Heap) (v : Option Value) (h : Heap) (L : List Loc) : Prop := v = some (.int (0 : Int32)) ∧ Fr Z.heap.size L ∧ h = h0
set_option maxRecDepth 65536 in
set_option maxHeartbeats 40000000 in
theorem rm_ilc1b (l : Launch) (Z : State) (a0 : Array Value) (hw : ∀ d ∈ tables_1, d.before a0 Z = true) (zC : Int32) (SC : Sta Z Z.heap "java/lang/String" "COMPACT_STRINGS" "Z" (.int zC)) (PC : ¬ zC = (0 : Int32)) (vF : Value) (rF : vF = .null ∨ ∃ a, vF = .ref a) (SF : Sta Z Z.heap "jdk/internal/util/Preconditions" "SIOOBE_FORMATTER" "Ljava/util/function/BiFunction;" vF) (SA : Sta Z Z.heap "java/lang/StringUTF16" "$assertionsDisabled" "Z" (.int (1 : Int32))) (SH : Sta Z Z.heap "java/lang/StringUTF16" "HI_BYTE_SHIFT" "I" (.int (0 : Int32))) (SL : Sta Z Z.heap "java/lang/StringUTF16" "LO_BYTE_SHIFT" "I" (.int (8 : Int32))) (a1 : Addr) (t : Addr) (kb : ClassId) (c0 : Int32) (c1 : Int32) (h0 : Heap) (O0 : Old Z Z.heap.size h0) (P0 : Exa Z h0 a1 "java/lang/String") (P1 : Fld Z h0 a1 "java/lang/String" "coder" "B" (.int (1 : Int32))) (P2 : Fld Z h0 a1 "java/lang/String" "value" "[B" (.ref t)) (P3 : Arv Z h0 t kb .byte (4 : Int32) [(.int (StrChars.lo8 c0)), (.int (StrChars.hi8 c0)), (.int (StrChars.lo8 c1)), (.int (StrChars.hi8 c1))] (.int 0)) (H0 : (¬ (c0 < (0 : Int32)))) (J0 : (¬ ((65535 : Int32) < c0))) (H1 : (¬ (c1 < (0 : Int32)))) (J1 : (¬ ((65535 : Int32) < c1))) (D0 : (¬ (c0 < (97 : Int32)))) (D1 : ((122 : Int32) < c0)) :
    Con l Z (⟨"com/example/anteriorita/anteriorita/PatentRecord", "isLanguageCode", "(Ljava/lang/String;)Z"⟩ : MethodName) prog_13_method_4_code 1 (some .boolean) ({ frames := 5, cells := 0, slots := 0, locals := 66 } : Room) #[(.ref a1)] h0 (Q_ilc1b Z zC vF a1 t kb c0 c1 h0) := by
  refine Con.intro pn5 ?_
  intro p e s m below meth c T0 X0 hx hby hml hown0 hnm hret hlk hZ0 e0
  have N0 := Fr.nil Z.heap.size
  refine castGo (g' := mkF m 0 #[.val (.ref a1)] []) (by first | rfl | (simp [entryFrame, mkF, argsToLocals, Value.category]; done)) ?_
  show Go _ _ _ _ (T0.setTop (mkF m 0 #[.val (.ref a1)] []))
  refine aL X0 hx (hb hby d_prog_13m4_0) (q := 1) rfl rfl rfl ?_
  refine g_vi X0 hx hZ0 hown0 (wd31 hw) (wd32 hw) (notFace_of_selects (args := #[]) (mvT hZ0 (wd34 hw))) (wd34 hw) (wd33 hw) (by decide) P0 e0 (Con.back (W := 0) (rm_len1_4 l Z a0 hw zC SC PC vF rF SF SA SH SL a1 t kb [(.int (StrChars.lo8 c0)), (.int (StrChars.hi8 c0)), (.int (StrChars.lo8 c1)), (.int (StrChars.hi8 c1))] h0 O0 P0 P1 P2 P3) hZ0 (wd35 hw) (wd3 hw) (by decide) (by decide)) (by rw [hml]; rfl) (lenOf pd14 rfl) rfl (Nat.le_of_eq rfl) (hb hby d_prog_13m4_1) (q := 4) rfl (by decide) (by decide) ?_
  intro v560 T560 L560 X560 Q560
  obtain ⟨rfl, Nq560, e560⟩ := Q560
  have N560 := Fr.app N0 Nq560
  show Go _ _ _ _ (T560.setTop (mkF m 4 #[.val (.ref a1)] [(.int (2 : Int32))]))
  refine cI X560 hx (hb hby d_prog_13m4_4) (q := 5) rfl (z := (2 : Int32)) rfl ?_
  refine icN X560 hx (hb hby d_prog_13m4_5) (q := 8) rfl (by decide) ?_
  refine aL X560 hx (hb hby d_prog_13m4_8) (q := 9) rfl rfl rfl ?_
  refine cI X560 hx (hb hby d_prog_13m4_9) (q := 10) rfl (z := (0 : Int32)) rfl ?_
  refine g_vi X560 hx hZ0 hown0 (wd74 hw) (wd75 hw) (notFace_of_selects (args := #[]) (mvT hZ0 (wd77 hw))) (wd77 hw) (wd76 hw) (by decide) P0 e560 (Con.back (W := 0) (rm_ca1_0 l Z a0 hw zC SC PC vF rF SF SA SH SL a1 t kb c0 c1 h0 O0 P0 P1 P2 P3 H0 J0) hZ0 (wd78 hw) (wd3 hw) (by decide) (by decide)) (by rw [hml]; rfl) (lenOf pd15 rfl) rfl (Nat.le_of_eq rfl) (hb hby d_prog_13m4_10) (q := 13) rfl (by decide) (by decide) ?_
  intro v561 T561 L561 X561 Q561
  obtain ⟨rfl, Nq561, e561⟩ := Q561
  have N561 := Fr.app N560 Nq561
  show Go _ _ _ _ (T561.setTop (mkF m 13 #[.val (.ref a1)] [(.int c0)]))
  refine bI X561 hx (hb hby d_prog_13m4_13) (q := 15) rfl (z := (97 : Int32)) rfl ?_
  refine icN X561 hx (hb hby d_prog_13m4_15) (q := 18) rfl (flt D0).1 ?_
  refine aL X561 hx (hb hby d_prog_13m4_18) (q := 19) rfl rfl rfl ?_
  refine cI X561 hx (hb hby d_prog_13m4_19) (q := 20) rfl (z := (0 : Int32)) rfl ?_
  refine g_vi X561 hx hZ0 hown0 (wd74 hw) (wd75 hw) (notFace_of_selects (args := #[]) (mvT hZ0 (wd77 hw))) (wd77 hw) (wd76 hw) (by decide) P0 e561 (Con.back (W := 0) (rm_ca1_0 l Z a0 hw zC SC PC vF rF SF SA SH SL a1 t kb c0 c1 h0 O0 P0 P1 P2 P3 H0 J0) hZ0 (wd78 hw) (wd3 hw) (by decide) (by decide)) (by rw [hml]; rfl) (lenOf pd15 rfl) rfl (Nat.le_of_eq rfl) (hb hby d_prog_13m4_20) (q := 23) rfl (by decide) (by decide) ?_
  intro v562 T562 L562 X562 Q562
  obtain ⟨rfl, Nq562, e562⟩ := Q562
  have N562 := Fr.app N561 Nq562
  show Go _ _ _ _ (T562.setTop (mkF m 23 #[.val (.ref a1)] [(.int c0)]))
  refine bI X562 hx (hb hby d_prog_13m4_23) (q := 25) rfl (z := (122 : Int32)) rfl ?_
  refine icY X562 hx (hb hby d_prog_13m4_25) (q := 52) (by decide) (by decide) (tlt D1).2.2.1 ?_
  refine cI X562 hx (hb hby d_prog_13m4_52) (q := 53) rfl (z := (0 : Int32)) rfl ?_
  refine endP X562 hlk (fun h => by rw [hret] at h; cases h) (lastN X562 hx (t := .boolean) (z' := (0 : Int32)) hret (by simp) (by decide) (hb hby d_prog_13m4_53)) ?_ (by decide) (by decide)
  rw [e562]
  exact ⟨rfl, N562, rfl⟩
def Q_ilc1c (Z : State) (zC : Int32) (vF : Value) (a1 : Addr) (t : Addr) (kb : ClassId) (c0 : Int32) (c1 : Int32) (h0 : Heap) (v : Option Value) (h : Heap) (L : List Loc) : Prop := v = some (.int (0 : Int32)) ∧ Fr Z.heap.size L ∧ h = h0
set_option maxRecDepth 65536 in
set_option maxHeartbeats 40000000 in
theorem rm_ilc1c (l : Launch) (Z : State) (a0 : Array Value) (hw : ∀ d ∈ tables_1, d.before a0 Z = true) (zC : Int32) (SC : Sta Z Z.heap "java/lang/String" "COMPACT_STRINGS" "Z" (.int zC)) (PC : ¬ zC = (0 : Int32)) (vF : Value) (rF : vF = .null ∨ ∃ a, vF = .ref a) (SF : Sta Z Z.heap "jdk/internal/util/Preconditions" "SIOOBE_FORMATTER" "Ljava/util/function/BiFunction;" vF) (SA : Sta Z Z.heap "java/lang/StringUTF16" "$assertionsDisabled" "Z" (.int (1 : Int32))) (SH : Sta Z Z.heap "java/lang/StringUTF16" "HI_BYTE_SHIFT" "I" (.int (0 : Int32))) (SL : Sta Z Z.heap "java/lang/StringUTF16" "LO_BYTE_SHIFT" "I" (.int (8 : Int32))) (a1 : Addr) (t : Addr) (kb : ClassId) (c0 : Int32) (c1 : Int32) (h0 : Heap) (O0 : Old Z Z.heap.size h0) (P0 : Exa Z h0 a1 "java/lang/String") (P1 : Fld Z h0 a1 "java/lang/String" "coder" "B" (.int (1 : Int32))) (P2 : Fld Z h0 a1 "java/lang/String" "value" "[B" (.ref t)) (P3 : Arv Z h0 t kb .byte (4 : Int32) [(.int (StrChars.lo8 c0)), (.int (StrChars.hi8 c0)), (.int (StrChars.lo8 c1)), (.int (StrChars.hi8 c1))] (.int 0)) (H0 : (¬ (c0 < (0 : Int32)))) (J0 : (¬ ((65535 : Int32) < c0))) (H1 : (¬ (c1 < (0 : Int32)))) (J1 : (¬ ((65535 : Int32) < c1))) (D0 : (¬ (c0 < (97 : Int32)))) (D1 : (¬ ((122 : Int32) < c0))) (D2 : (c1 < (97 : Int32))) :
    Con l Z (⟨"com/example/anteriorita/anteriorita/PatentRecord", "isLanguageCode", "(Ljava/lang/String;)Z"⟩ : MethodName) prog_13_method_4_code 1 (some .boolean) ({ frames := 5, cells := 0, slots := 0, locals := 66 } : Room) #[(.ref a1)] h0 (Q_ilc1c Z zC vF a1 t kb c0 c1 h0) := by
  refine Con.intro pn5 ?_
  intro p e s m below meth c T0 X0 hx hby hml hown0 hnm hret hlk hZ0 e0
  have N0 := Fr.nil Z.heap.size
  refine castGo (g' := mkF m 0 #[.val (.ref a1)] []) (by first | rfl | (simp [entryFrame, mkF, argsToLocals, Value.category]; done)) ?_
  show Go _ _ _ _ (T0.setTop (mkF m 0 #[.val (.ref a1)] []))
  refine aL X0 hx (hb hby d_prog_13m4_0) (q := 1) rfl rfl rfl ?_
  refine g_vi X0 hx hZ0 hown0 (wd31 hw) (wd32 hw) (notFace_of_selects (args := #[]) (mvT hZ0 (wd34 hw))) (wd34 hw) (wd33 hw) (by decide) P0 e0 (Con.back (W := 0) (rm_len1_4 l Z a0 hw zC SC PC vF rF SF SA SH SL a1 t kb [(.int (StrChars.lo8 c0)), (.int (StrChars.hi8 c0)), (.int (StrChars.lo8 c1)), (.int (StrChars.hi8 c1))] h0 O0 P0 P1 P2 P3) hZ0 (wd35 hw) (wd3 hw) (by decide) (by decide)) (by rw [hml]; rfl) (lenOf pd14 rfl) rfl (Nat.le_of_eq rfl) (hb hby d_prog_13m4_1) (q := 4) rfl (by decide) (by decide) ?_
  intro v563 T563 L563 X563 Q563
  obtain ⟨rfl, Nq563, e563⟩ := Q563
  have N563 := Fr.app N0 Nq563
  show Go _ _ _ _ (T563.setTop (mkF m 4 #[.val (.ref a1)] [(.int (2 : Int32))]))
  refine cI X563 hx (hb hby d_prog_13m4_4) (q := 5) rfl (z := (2 : Int32)) rfl ?_
  refine icN X563 hx (hb hby d_prog_13m4_5) (q := 8) rfl (by decide) ?_
  refine aL X563 hx (hb hby d_prog_13m4_8) (q := 9) rfl rfl rfl ?_
  refine cI X563 hx (hb hby d_prog_13m4_9) (q := 10) rfl (z := (0 : Int32)) rfl ?_
  refine g_vi X563 hx hZ0 hown0 (wd74 hw) (wd75 hw) (notFace_of_selects (args := #[]) (mvT hZ0 (wd77 hw))) (wd77 hw) (wd76 hw) (by decide) P0 e563 (Con.back (W := 0) (rm_ca1_0 l Z a0 hw zC SC PC vF rF SF SA SH SL a1 t kb c0 c1 h0 O0 P0 P1 P2 P3 H0 J0) hZ0 (wd78 hw) (wd3 hw) (by decide) (by decide)) (by rw [hml]; rfl) (lenOf pd15 rfl) rfl (Nat.le_of_eq rfl) (hb hby d_prog_13m4_10) (q := 13) rfl (by decide) (by decide) ?_
  intro v564 T564 L564 X564 Q564
  obtain ⟨rfl, Nq564, e564⟩ := Q564
  have N564 := Fr.app N563 Nq564
  show Go _ _ _ _ (T564.setTop (mkF m 13 #[.val (.ref a1)] [(.int c0)]))
  refine bI X564 hx (hb hby d_prog_13m4_13) (q := 15) rfl (z := (97 : Int32)) rfl ?_
  refine icN X564 hx (hb hby d_prog_13m4_15) (q := 18) rfl (flt D0).1 ?_
  refine aL X564 hx (hb hby d_prog_13m4_18) (q := 19) rfl rfl rfl ?_
  refine cI X564 hx (hb hby d_prog_13m4_19) (q := 20) rfl (z := (0 : Int32)) rfl ?_
  refine g_vi X564 hx hZ0 hown0 (wd74 hw) (wd75 hw) (notFace_of_selects (args := #[]) (mvT hZ0 (wd77 hw))) (wd77 hw) (wd76 hw) (by decide) P0 e564 (Con.back (W := 0) (rm_ca1_0 l Z a0 hw zC SC PC vF rF SF SA SH SL a1 t kb c0 c1 h0 O0 P0 P1 P2 P3 H0 J0) hZ0 (wd78 hw) (wd3 hw) (by decide) (by decide)) (by rw [hml]; rfl) (lenOf pd15 rfl) rfl (Nat.le_of_eq rfl) (hb hby d_prog_13m4_20) (q := 23) rfl (by decide) (by decide) ?_
  intro v565 T565 L565 X565 Q565
  obtain ⟨rfl, Nq565, e565⟩ := Q565
  have N565 := Fr.app N564 Nq565
  show Go _ _ _ _ (T565.setTop (mkF m 23 #[.val (.ref a1)] [(.int c0)]))
  refine bI X565 hx (hb hby d_prog_13m4_23) (q := 25) rfl (z := (122 : Int32)) rfl ?_
  refine icN X565 hx (hb hby d_prog_13m4_25) (q := 28) rfl (flt D1).2.2.1 ?_
  refine aL X565 hx (hb hby d_prog_13m4_28) (q := 29) rfl rfl rfl ?_
  refine cI X565 hx (hb hby d_prog_13m4_29) (q := 30) rfl (z := (1 : Int32)) rfl ?_
  refine g_vi X565 hx hZ0 hown0 (wd74 hw) (wd75 hw) (notFace_of_selects (args := #[]) (mvT hZ0 (wd77 hw))) (wd77 hw) (wd76 hw) (by decide) P0 e565 (Con.back (W := 0) (rm_ca1_1 l Z a0 hw zC SC PC vF rF SF SA SH SL a1 t kb c0 c1 h0 O0 P0 P1 P2 P3 H1 J1) hZ0 (wd78 hw) (wd3 hw) (by decide) (by decide)) (by rw [hml]; rfl) (lenOf pd15 rfl) rfl (Nat.le_of_eq rfl) (hb hby d_prog_13m4_30) (q := 33) rfl (by decide) (by decide) ?_
  intro v566 T566 L566 X566 Q566
  obtain ⟨rfl, Nq566, e566⟩ := Q566
  have N566 := Fr.app N565 Nq566
  show Go _ _ _ _ (T566.setTop (mkF m 33 #[.val (.ref a1)] [(.int c1)]))
  refine bI X566 hx (hb hby d_prog_13m4_33) (q := 35) rfl (z := (97 : Int32)) rfl ?_
  refine icY X566 hx (hb hby d_prog_13m4_35) (q := 52) (by decide) (by decide) (tlt D2).1 ?_
  refine cI X566 hx (hb hby d_prog_13m4_52) (q := 53) rfl (z := (0 : Int32)) rfl ?_
  refine endP X566 hlk (fun h => by rw [hret] at h; cases h) (lastN X566 hx (t := .boolean) (z' := (0 : Int32)) hret (by simp) (by decide) (hb hby d_prog_13m4_53)) ?_ (by decide) (by decide)
  rw [e566]
  exact ⟨rfl, N566, rfl⟩
def Q_ilc1d (Z : State) (zC : Int32) (vF : Value) (a1 : Addr) (t : Addr) (kb : ClassId) (c0 : Int32) (c1 : Int32) (h0 : Heap) (v : Option Value) (h : Heap) (L : List Loc) : Prop := v = some (.int (0 : Int32)) ∧ Fr Z.heap.size L ∧ h = h0
set_option maxRecDepth 65536 in
set_option maxHeartbeats 40000000 in
theorem rm_ilc1d (l : Launch) (Z : State) (a0 : Array Value) (hw : ∀ d ∈ tables_1, d.before a0 Z = true) (zC : Int32) (SC : Sta Z Z.heap "java/lang/String" "COMPACT_STRINGS" "Z" (.int zC)) (PC : ¬ zC = (0 : Int32)) (vF : Value) (rF : vF = .null ∨ ∃ a, vF = .ref a) (SF : Sta Z Z.heap "jdk/internal/util/Preconditions" "SIOOBE_FORMATTER" "Ljava/util/function/BiFunction;" vF) (SA : Sta Z Z.heap "java/lang/StringUTF16" "$assertionsDisabled" "Z" (.int (1 : Int32))) (SH : Sta Z Z.heap "java/lang/StringUTF16" "HI_BYTE_SHIFT" "I" (.int (0 : Int32))) (SL : Sta Z Z.heap "java/lang/StringUTF16" "LO_BYTE_SHIFT" "I" (.int (8 : Int32))) (a1 : Addr) (t : Addr) (kb : ClassId) (c0 : Int32) (c1 : Int32) (h0 : Heap) (O0 : Old Z Z.heap.size h0) (P0 : Exa Z h0 a1 "java/lang/String") (P1 : Fld Z h0 a1 "java/lang/String" "coder" "B" (.int (1 : Int32))) (P2 : Fld Z h0 a1 "java/lang/String" "value" "[B" (.ref t)) (P3 : Arv Z h0 t kb .byte (4 : Int32) [(.int (StrChars.lo8 c0)), (.int (StrChars.hi8 c0)), (.int (StrChars.lo8 c1)), (.int (StrChars.hi8 c1))] (.int 0)) (H0 : (¬ (c0 < (0 : Int32)))) (J0 : (¬ ((65535 : Int32) < c0))) (H1 : (¬ (c1 < (0 : Int32)))) (J1 : (¬ ((65535 : Int32) < c1))) (D0 : (¬ (c0 < (97 : Int32)))) (D1 : (¬ ((122 : Int32) < c0))) (D2 : (¬ (c1 < (97 : Int32)))) (D3 : ((122 : Int32) < c1)) :
    Con l Z (⟨"com/example/anteriorita/anteriorita/PatentRecord", "isLanguageCode", "(Ljava/lang/String;)Z"⟩ : MethodName) prog_13_method_4_code 1 (some .boolean) ({ frames := 5, cells := 0, slots := 0, locals := 66 } : Room) #[(.ref a1)] h0 (Q_ilc1d Z zC vF a1 t kb c0 c1 h0) := by
  refine Con.intro pn5 ?_
  intro p e s m below meth c T0 X0 hx hby hml hown0 hnm hret hlk hZ0 e0
  have N0 := Fr.nil Z.heap.size
  refine castGo (g' := mkF m 0 #[.val (.ref a1)] []) (by first | rfl | (simp [entryFrame, mkF, argsToLocals, Value.category]; done)) ?_
  show Go _ _ _ _ (T0.setTop (mkF m 0 #[.val (.ref a1)] []))
  refine aL X0 hx (hb hby d_prog_13m4_0) (q := 1) rfl rfl rfl ?_
  refine g_vi X0 hx hZ0 hown0 (wd31 hw) (wd32 hw) (notFace_of_selects (args := #[]) (mvT hZ0 (wd34 hw))) (wd34 hw) (wd33 hw) (by decide) P0 e0 (Con.back (W := 0) (rm_len1_4 l Z a0 hw zC SC PC vF rF SF SA SH SL a1 t kb [(.int (StrChars.lo8 c0)), (.int (StrChars.hi8 c0)), (.int (StrChars.lo8 c1)), (.int (StrChars.hi8 c1))] h0 O0 P0 P1 P2 P3) hZ0 (wd35 hw) (wd3 hw) (by decide) (by decide)) (by rw [hml]; rfl) (lenOf pd14 rfl) rfl (Nat.le_of_eq rfl) (hb hby d_prog_13m4_1) (q := 4) rfl (by decide) (by decide) ?_
  intro v567 T567 L567 X567 Q567
  obtain ⟨rfl, Nq567, e567⟩ := Q567
  have N567 := Fr.app N0 Nq567
  show Go _ _ _ _ (T567.setTop (mkF m 4 #[.val (.ref a1)] [(.int (2 : Int32))]))
  refine cI X567 hx (hb hby d_prog_13m4_4) (q := 5) rfl (z := (2 : Int32)) rfl ?_
  refine icN X567 hx (hb hby d_prog_13m4_5) (q := 8) rfl (by decide) ?_
  refine aL X567 hx (hb hby d_prog_13m4_8) (q := 9) rfl rfl rfl ?_
  refine cI X567 hx (hb hby d_prog_13m4_9) (q := 10) rfl (z := (0 : Int32)) rfl ?_
  refine g_vi X567 hx hZ0 hown0 (wd74 hw) (wd75 hw) (notFace_of_selects (args := #[]) (mvT hZ0 (wd77 hw))) (wd77 hw) (wd76 hw) (by decide) P0 e567 (Con.back (W := 0) (rm_ca1_0 l Z a0 hw zC SC PC vF rF SF SA SH SL a1 t kb c0 c1 h0 O0 P0 P1 P2 P3 H0 J0) hZ0 (wd78 hw) (wd3 hw) (by decide) (by decide)) (by rw [hml]; rfl) (lenOf pd15 rfl) rfl (Nat.le_of_eq rfl) (hb hby d_prog_13m4_10) (q := 13) rfl (by decide) (by decide) ?_
  intro v568 T568 L568 X568 Q568
  obtain ⟨rfl, Nq568, e568⟩ := Q568
  have N568 := Fr.app N567 Nq568
  show Go _ _ _ _ (T568.setTop (mkF m 13 #[.val (.ref a1)] [(.int c0)]))
  refine bI X568 hx (hb hby d_prog_13m4_13) (q := 15) rfl (z := (97 : Int32)) rfl ?_
  refine icN X568 hx (hb hby d_prog_13m4_15) (q := 18) rfl (flt D0).1 ?_
  refine aL X568 hx (hb hby d_prog_13m4_18) (q := 19) rfl rfl rfl ?_
  refine cI X568 hx (hb hby d_prog_13m4_19) (q := 20) rfl (z := (0 : Int32)) rfl ?_
  refine g_vi X568 hx hZ0 hown0 (wd74 hw) (wd75 hw) (notFace_of_selects (args := #[]) (mvT hZ0 (wd77 hw))) (wd77 hw) (wd76 hw) (by decide) P0 e568 (Con.back (W := 0) (rm_ca1_0 l Z a0 hw zC SC PC vF rF SF SA SH SL a1 t kb c0 c1 h0 O0 P0 P1 P2 P3 H0 J0) hZ0 (wd78 hw) (wd3 hw) (by decide) (by decide)) (by rw [hml]; rfl) (lenOf pd15 rfl) rfl (Nat.le_of_eq rfl) (hb hby d_prog_13m4_20) (q := 23) rfl (by decide) (by decide) ?_
  intro v569 T569 L569 X569 Q569
  obtain ⟨rfl, Nq569, e569⟩ := Q569
  have N569 := Fr.app N568 Nq569
  show Go _ _ _ _ (T569.setTop (mkF m 23 #[.val (.ref a1)] [(.int c0)]))
  refine bI X569 hx (hb hby d_prog_13m4_23) (q := 25) rfl (z := (122 : Int32)) rfl ?_
  refine icN X569 hx (hb hby d_prog_13m4_25) (q := 28) rfl (flt D1).2.2.1 ?_
  refine aL X569 hx (hb hby d_prog_13m4_28) (q := 29) rfl rfl rfl ?_
  refine cI X569 hx (hb hby d_prog_13m4_29) (q := 30) rfl (z := (1 : Int32)) rfl ?_
  refine g_vi X569 hx hZ0 hown0 (wd74 hw) (wd75 hw) (notFace_of_selects (args := #[]) (mvT hZ0 (wd77 hw))) (wd77 hw) (wd76 hw) (by decide) P0 e569 (Con.back (W := 0) (rm_ca1_1 l Z a0 hw zC SC PC vF rF SF SA SH SL a1 t kb c0 c1 h0 O0 P0 P1 P2 P3 H1 J1) hZ0 (wd78 hw) (wd3 hw) (by decide) (by decide)) (by rw [hml]; rfl) (lenOf pd15 rfl) rfl (Nat.le_of_eq rfl) (hb hby d_prog_13m4_30) (q := 33) rfl (by decide) (by decide) ?_
  intro v570 T570 L570 X570 Q570
  obtain ⟨rfl, Nq570, e570⟩ := Q570
  have N570 := Fr.app N569 Nq570
  show Go _ _ _ _ (T570.setTop (mkF m 33 #[.val (.ref a1)] [(.int c1)]))
  refine bI X570 hx (hb hby d_prog_13m4_33) (q := 35) rfl (z := (97 : Int32)) rfl ?_
  refine icN X570 hx (hb hby d_prog_13m4_35) (q := 38) rfl (flt D2).1 ?_
  refine aL X570 hx (hb hby d_prog_13m4_38) (q := 39) rfl rfl rfl ?_
  refine cI X570 hx (hb hby d_prog_13m4_39) (q := 40) rfl (z := (1 : Int32)) rfl ?_
  refine g_vi X570 hx hZ0 hown0 (wd74 hw) (wd75 hw) (notFace_of_selects (args := #[]) (mvT hZ0 (wd77 hw))) (wd77 hw) (wd76 hw) (by decide) P0 e570 (Con.back (W := 0) (rm_ca1_1 l Z a0 hw zC SC PC vF rF SF SA SH SL a1 t kb c0 c1 h0 O0 P0 P1 P2 P3 H1 J1) hZ0 (wd78 hw) (wd3 hw) (by decide) (by decide)) (by rw [hml]; rfl) (lenOf pd15 rfl) rfl (Nat.le_of_eq rfl) (hb hby d_prog_13m4_40) (q := 43) rfl (by decide) (by decide) ?_
  intro v571 T571 L571 X571 Q571
  obtain ⟨rfl, Nq571, e571⟩ := Q571
  have N571 := Fr.app N570 Nq571
  show Go _ _ _ _ (T571.setTop (mkF m 43 #[.val (.ref a1)] [(.int c1)]))
  refine bI X571 hx (hb hby d_prog_13m4_43) (q := 45) rfl (z := (122 : Int32)) rfl ?_
  refine icY X571 hx (hb hby d_prog_13m4_45) (q := 52) (by decide) (by decide) (tlt D3).2.2.1 ?_
  refine cI X571 hx (hb hby d_prog_13m4_52) (q := 53) rfl (z := (0 : Int32)) rfl ?_
  refine endP X571 hlk (fun h => by rw [hret] at h; cases h) (lastN X571 hx (t := .boolean) (z' := (0 : Int32)) hret (by simp) (by decide) (hb hby d_prog_13m4_53)) ?_ (by decide) (by decide)
  rw [e571]
  exact ⟨rfl, N571, rfl⟩
def Q_ilc1e (Z : State) (zC : Int32) (vF : Value) (a1 : Addr) (t : Addr) (kb : ClassId) (c0 : Int32) (c1 : Int32) (h0 : Heap) (v : Option Value) (h : Heap) (L : List Loc) : Prop := v = some (.int (1 : Int32)) ∧ Fr Z.heap.size L ∧ h = h0
set_option maxRecDepth 65536 in
set_option maxHeartbeats 40000000 in
theorem rm_ilc1e (l : Launch) (Z : State) (a0 : Array Value) (hw : ∀ d ∈ tables_1, d.before a0 Z = true) (zC : Int32) (SC : Sta Z Z.heap "java/lang/String" "COMPACT_STRINGS" "Z" (.int zC)) (PC : ¬ zC = (0 : Int32)) (vF : Value) (rF : vF = .null ∨ ∃ a, vF = .ref a) (SF : Sta Z Z.heap "jdk/internal/util/Preconditions" "SIOOBE_FORMATTER" "Ljava/util/function/BiFunction;" vF) (SA : Sta Z Z.heap "java/lang/StringUTF16" "$assertionsDisabled" "Z" (.int (1 : Int32))) (SH : Sta Z Z.heap "java/lang/StringUTF16" "HI_BYTE_SHIFT" "I" (.int (0 : Int32))) (SL : Sta Z Z.heap "java/lang/StringUTF16" "LO_BYTE_SHIFT" "I" (.int (8 : Int32))) (a1 : Addr) (t : Addr) (kb : ClassId) (c0 : Int32) (c1 : Int32) (h0 : Heap) (O0 : Old Z Z.heap.size h0) (P0 : Exa Z h0 a1 "java/lang/String") (P1 : Fld Z h0 a1 "java/lang/String" "coder" "B" (.int (1 : Int32))) (P2 : Fld Z h0 a1 "java/lang/String" "value" "[B" (.ref t)) (P3 : Arv Z h0 t kb .byte (4 : Int32) [(.int (StrChars.lo8 c0)), (.int (StrChars.hi8 c0)), (.int (StrChars.lo8 c1)), (.int (StrChars.hi8 c1))] (.int 0)) (H0 : (¬ (c0 < (0 : Int32)))) (J0 : (¬ ((65535 : Int32) < c0))) (H1 : (¬ (c1 < (0 : Int32)))) (J1 : (¬ ((65535 : Int32) < c1))) (D0 : (¬ (c0 < (97 : Int32)))) (D1 : (¬ ((122 : Int32) < c0))) (D2 : (¬ (c1 < (97 : Int32)))) (D3 : (¬ ((122 : Int32) < c1))) :
    Con l Z (⟨"com/example/anteriorita/anteriorita/PatentRecord", "isLanguageCode", "(Ljava/lang/String;)Z"⟩ : MethodName) prog_13_method_4_code 1 (some .boolean) ({ frames := 5, cells := 0, slots := 0, locals := 66 } : Room) #[(.ref a1)] h0 (Q_ilc1e Z zC vF a1 t kb c0 c1 h0) := by
  refine Con.intro pn5 ?_
  intro p e s m below meth c T0 X0 hx hby hml hown0 hnm hret hlk hZ0 e0
  have N0 := Fr.nil Z.heap.size
  refine castGo (g' := mkF m 0 #[.val (.ref a1)] []) (by first | rfl | (simp [entryFrame, mkF, argsToLocals, Value.category]; done)) ?_
  show Go _ _ _ _ (T0.setTop (mkF m 0 #[.val (.ref a1)] []))
  refine aL X0 hx (hb hby d_prog_13m4_0) (q := 1) rfl rfl rfl ?_
  refine g_vi X0 hx hZ0 hown0 (wd31 hw) (wd32 hw) (notFace_of_selects (args := #[]) (mvT hZ0 (wd34 hw))) (wd34 hw) (wd33 hw) (by decide) P0 e0 (Con.back (W := 0) (rm_len1_4 l Z a0 hw zC SC PC vF rF SF SA SH SL a1 t kb [(.int (StrChars.lo8 c0)), (.int (StrChars.hi8 c0)), (.int (StrChars.lo8 c1)), (.int (StrChars.hi8 c1))] h0 O0 P0 P1 P2 P3) hZ0 (wd35 hw) (wd3 hw) (by decide) (by decide)) (by rw [hml]; rfl) (lenOf pd14 rfl) rfl (Nat.le_of_eq rfl) (hb hby d_prog_13m4_1) (q := 4) rfl (by decide) (by decide) ?_
  intro v572 T572 L572 X572 Q572
  obtain ⟨rfl, Nq572, e572⟩ := Q572
  have N572 := Fr.app N0 Nq572
  show Go _ _ _ _ (T572.setTop (mkF m 4 #[.val (.ref a1)] [(.int (2 : Int32))]))
  refine cI X572 hx (hb hby d_prog_13m4_4) (q := 5) rfl (z := (2 : Int32)) rfl ?_
  refine icN X572 hx (hb hby d_prog_13m4_5) (q := 8) rfl (by decide) ?_
  refine aL X572 hx (hb hby d_prog_13m4_8) (q := 9) rfl rfl rfl ?_
  refine cI X572 hx (hb hby d_prog_13m4_9) (q := 10) rfl (z := (0 : Int32)) rfl ?_
  refine g_vi X572 hx hZ0 hown0 (wd74 hw) (wd75 hw) (notFace_of_selects (args := #[]) (mvT hZ0 (wd77 hw))) (wd77 hw) (wd76 hw) (by decide) P0 e572 (Con.back (W := 0) (rm_ca1_0 l Z a0 hw zC SC PC vF rF SF SA SH SL a1 t kb c0 c1 h0 O0 P0 P1 P2 P3 H0 J0) hZ0 (wd78 hw) (wd3 hw) (by decide) (by decide)) (by rw [hml]; rfl) (lenOf pd15 rfl) rfl (Nat.le_of_eq rfl) (hb hby d_prog_13m4_10) (q := 13) rfl (by decide) (by decide) ?_
  intro v573 T573 L573 X573 Q573
  obtain ⟨rfl, Nq573, e573⟩ := Q573
  have N573 := Fr.app N572 Nq573
  show Go _ _ _ _ (T573.setTop (mkF m 13 #[.val (.ref a1)] [(.int c0)]))
  refine bI X573 hx (hb hby d_prog_13m4_13) (q := 15) rfl (z := (97 : Int32)) rfl ?_
  refine icN X573 hx (hb hby d_prog_13m4_15) (q := 18) rfl (flt D0).1 ?_
  refine aL X573 hx (hb hby d_prog_13m4_18) (q := 19) rfl rfl rfl ?_
  refine cI X573 hx (hb hby d_prog_13m4_19) (q := 20) rfl (z := (0 : Int32)) rfl ?_
  refine g_vi X573 hx hZ0 hown0 (wd74 hw) (wd75 hw) (notFace_of_selects (args := #[]) (mvT hZ0 (wd77 hw))) (wd77 hw) (wd76 hw) (by decide) P0 e573 (Con.back (W := 0) (rm_ca1_0 l Z a0 hw zC SC PC vF rF SF SA SH SL a1 t kb c0 c1 h0 O0 P0 P1 P2 P3 H0 J0) hZ0 (wd78 hw) (wd3 hw) (by decide) (by decide)) (by rw [hml]; rfl) (lenOf pd15 rfl) rfl (Nat.le_of_eq rfl) (hb hby d_prog_13m4_20) (q := 23) rfl (by decide) (by decide) ?_
  intro v574 T574 L574 X574 Q574
  obtain ⟨rfl, Nq574, e574⟩ := Q574
  have N574 := Fr.app N573 Nq574
  show Go _ _ _ _ (T574.setTop (mkF m 23 #[.val (.ref a1)] [(.int c0)]))
  refine bI X574 hx (hb hby d_prog_13m4_23) (q := 25) rfl (z := (122 : Int32)) rfl ?_
  refine icN X574 hx (hb hby d_prog_13m4_25) (q := 28) rfl (flt D1).2.2.1 ?_
  refine aL X574 hx (hb hby d_prog_13m4_28) (q := 29) rfl rfl rfl ?_
  refine cI X574 hx (hb hby d_prog_13m4_29) (q := 30) rfl (z := (1 : Int32)) rfl ?_
  refine g_vi X574 hx hZ0 hown0 (wd74 hw) (wd75 hw) (notFace_of_selects (args := #[]) (mvT hZ0 (wd77 hw))) (wd77 hw) (wd76 hw) (by decide) P0 e574 (Con.back (W := 0) (rm_ca1_1 l Z a0 hw zC SC PC vF rF SF SA SH SL a1 t kb c0 c1 h0 O0 P0 P1 P2 P3 H1 J1) hZ0 (wd78 hw) (wd3 hw) (by decide) (by decide)) (by rw [hml]; rfl) (lenOf pd15 rfl) rfl (Nat.le_of_eq rfl) (hb hby d_prog_13m4_30) (q := 33) rfl (by decide) (by decide) ?_
  intro v575 T575 L575 X575 Q575
  obtain ⟨rfl, Nq575, e575⟩ := Q575
  have N575 := Fr.app N574 Nq575
  show Go _ _ _ _ (T575.setTop (mkF m 33 #[.val (.ref a1)] [(.int c1)]))
  refine bI X575 hx (hb hby d_prog_13m4_33) (q := 35) rfl (z := (97 : Int32)) rfl ?_
  refine icN X575 hx (hb hby d_prog_13m4_35) (q := 38) rfl (flt D2).1 ?_
  refine aL X575 hx (hb hby d_prog_13m4_38) (q := 39) rfl rfl rfl ?_
  refine cI X575 hx (hb hby d_prog_13m4_39) (q := 40) rfl (z := (1 : Int32)) rfl ?_
  refine g_vi X575 hx hZ0 hown0 (wd74 hw) (wd75 hw) (notFace_of_selects (args := #[]) (mvT hZ0 (wd77 hw))) (wd77 hw) (wd76 hw) (by decide) P0 e575 (Con.back (W := 0) (rm_ca1_1 l Z a0 hw zC SC PC vF rF SF SA SH SL a1 t kb c0 c1 h0 O0 P0 P1 P2 P3 H1 J1) hZ0 (wd78 hw) (wd3 hw) (by decide) (by decide)) (by rw [hml]; rfl) (lenOf pd15 rfl) rfl (Nat.le_of_eq rfl) (hb hby d_prog_13m4_40) (q := 43) rfl (by decide) (by decide) ?_
  intro v576 T576 L576 X576 Q576
  obtain ⟨rfl, Nq576, e576⟩ := Q576
  have N576 := Fr.app N575 Nq576
  show Go _ _ _ _ (T576.setTop (mkF m 43 #[.val (.ref a1)] [(.int c1)]))
  refine bI X576 hx (hb hby d_prog_13m4_43) (q := 45) rfl (z := (122 : Int32)) rfl ?_
  refine icN X576 hx (hb hby d_prog_13m4_45) (q := 48) rfl (flt D3).2.2.1 ?_
  refine cI X576 hx (hb hby d_prog_13m4_48) (q := 49) rfl (z := (1 : Int32)) rfl ?_
  refine g_goto X576 hx (hb hby d_prog_13m4_49) (q := 53) (by decide) (by decide) ?_
  refine endP X576 hlk (fun h => by rw [hret] at h; cases h) (lastN X576 hx (t := .boolean) (z' := (1 : Int32)) hret (by simp) (by decide) (hb hby d_prog_13m4_53)) ?_ (by decide) (by decide)
  rw [e576]
  exact ⟨rfl, N576, rfl⟩
theorem low_yes {c : Int32} (h0 : ¬ c < 0) (h1 : ¬ (65535 : Int32) < c) (a : ¬ c < 97) (b : ¬ (122 : Int32) < c) : (c - 97).toUInt32.toUInt16.toUInt32.toInt32 < 26 := by
  have q := c_i2c (c - 97)
  have r := c_isub c 97
  have e0 : (0 : Int32).toInt = 0 := by decide
  have e1 : (65535 : Int32).toInt = 65535 := by decide
  have e2 : (97 : Int32).toInt = 97 := by decide
  have e3 : (122 : Int32).toInt = 122 := by decide
  have e4 : (26 : Int32).toInt = 26 := by decide
  have t := rng32 (c - 97)
  simp only [Int32.lt_iff_toInt_lt, e0, e1, e2, e3, e4] at *
  omega
theorem low_no {c : Int32} (h0 : ¬ c < 0) (h1 : ¬ (65535 : Int32) < c) (a : c < 97 ∨ (122 : Int32) < c) : ¬ (c - 97).toUInt32.toUInt16.toUInt32.toInt32 < 26 := by
  have q := c_i2c (c - 97)
  have r := c_isub c 97
  have e0 : (0 : Int32).toInt = 0 := by decide
  have e1 : (65535 : Int32).toInt = 65535 := by decide
  have e2 : (97 : Int32).toInt = 97 := by decide
  have e3 : (122 : Int32).toInt = 122 := by decide
  have e4 : (26 : Int32).toInt = 26 := by decide
  have t := rng32 (c - 97)
  simp only [Int32.lt_iff_toInt_lt, e0, e1, e2, e3, e4] at *
  omega
theorem four (c : Int32) : (c < 97 ∧ ¬ (122 : Int32) < c ∧ ¬ (255 : Int32) < c) ∨ (¬ c < 97 ∧ ¬ (122 : Int32) < c ∧ ¬ (255 : Int32) < c) ∨ (¬ c < 97 ∧ (122 : Int32) < c ∧ ¬ (255 : Int32) < c) ∨ (¬ c < 97 ∧ (122 : Int32) < c ∧ (255 : Int32) < c) := by
  have e2 : (97 : Int32).toInt = 97 := by decide
  have e3 : (122 : Int32).toInt = 122 := by decide
  have e4 : (255 : Int32).toInt = 255 := by decide
  simp only [Int32.lt_iff_toInt_lt, e2, e3, e4]
  omega
theorem d_method_3_0 : decode method_3_code 0 = .ok (.iload_n 0, 1) := by decide +kernel
theorem d_method_3_1 : decode method_3_code 1 = .ok (.bipush 97, 2) := by decide +kernel
theorem d_method_3_3 : decode method_3_code 3 = .ok (.isub, 1) := by decide +kernel
theorem d_method_3_4 : decode method_3_code 4 = .ok (.i2c, 1) := by decide +kernel
theorem d_method_3_5 : decode method_3_code 5 = .ok (.istore_n 1, 1) := by decide +kernel
theorem d_method_3_6 : decode method_3_code 6 = .ok (.iload_n 1, 1) := by decide +kernel
theorem d_method_3_7 : decode method_3_code 7 = .ok (.bipush 26, 2) := by decide +kernel
theorem d_method_3_9 : decode method_3_code 9 = .ok (.if_icmp .ge 7, 3) := by decide +kernel
theorem d_method_3_12 : decode method_3_code 12 = .ok (.iconst 1, 1) := by decide +kernel
theorem d_method_3_13 : decode method_3_code 13 = .ok (.goto 4, 3) := by decide +kernel
theorem d_method_3_17 : decode method_3_code 17 = .ok (.ireturn, 1) := by decide +kernel
def Q_low1 (Z : State) (zC : Int32) (vF : Value) (c0 : Int32) (h0 : Heap) (v : Option Value) (h : Heap) (L : List Loc) : Prop := v = some (.int (1 : Int32)) ∧ Fr Z.heap.size L ∧ h = h0
set_option maxRecDepth 65536 in
set_option maxHeartbeats 40000000 in
theorem rm_low1 (l : Launch) (Z : State) (a0 : Array Value) (hw : ∀ d ∈ tables_1, d.before a0 Z = true) (zC : Int32) (SC : Sta Z Z.heap "java/lang/String" "COMPACT_STRINGS" "Z" (.int zC)) (PC : ¬ zC = (0 : Int32)) (vF : Value) (rF : vF = .null ∨ ∃ a, vF = .ref a) (SF : Sta Z Z.heap "jdk/internal/util/Preconditions" "SIOOBE_FORMATTER" "Ljava/util/function/BiFunction;" vF) (SA : Sta Z Z.heap "java/lang/StringUTF16" "$assertionsDisabled" "Z" (.int (1 : Int32))) (SH : Sta Z Z.heap "java/lang/StringUTF16" "HI_BYTE_SHIFT" "I" (.int (0 : Int32))) (SL : Sta Z Z.heap "java/lang/StringUTF16" "LO_BYTE_SHIFT" "I" (.int (8 : Int32))) (c0 : Int32) (h0 : Heap) (O0 : Old Z Z.heap.size h0) (H0 : (¬ (c0 < (0 : Int32)))) (J0 : (¬ ((65535 : Int32) < c0))) (D0 : (¬ (c0 < (97 : Int32)))) (D1 : (¬ ((122 : Int32) < c0))) :
    Con l Z (⟨"com/example/anteriorita/anteriorita/PatentRecordIsLanguageCodePinLaw", "lower", "(C)Z"⟩ : MethodName) method_3_code 2 (some .boolean) ({ frames := 0, cells := 0, slots := 0, locals := 0 } : Room) #[(.int c0)] h0 (Q_low1 Z zC vF c0 h0) := by
  refine Con.intro pn1 ?_
  intro p e s m below meth c T0 X0 hx hby hml hown0 hnm hret hlk hZ0 e0
  have N0 := Fr.nil Z.heap.size
  refine castGo (g' := mkF m 0 #[.val (.int c0), .unset] []) (by first | rfl | (simp [entryFrame, mkF, argsToLocals, Value.category]; done)) ?_
  show Go _ _ _ _ (T0.setTop (mkF m 0 #[.val (.int c0), .unset] []))
  refine iL X0 hx (hb hby d_method_3_0) (q := 1) rfl rfl ?_
  refine bI X0 hx (hb hby d_method_3_1) (q := 3) rfl (z := (97 : Int32)) rfl ?_
  refine g_isub X0 hx (hb hby d_method_3_3) (q := 4) rfl rfl ?_
  refine g_i2c X0 hx (hb hby d_method_3_4) (q := 5) rfl rfl ?_
  refine sI X0 hx (hb hby d_method_3_5) (q := 6) rfl (Ls' := #[.val (.int c0), .val (.int ((c0 - (97 : Int32)).toUInt32.toUInt16.toUInt32.toInt32))]) rfl ?_
  refine iL X0 hx (hb hby d_method_3_6) (q := 7) rfl rfl ?_
  refine bI X0 hx (hb hby d_method_3_7) (q := 9) rfl (z := (26 : Int32)) rfl ?_
  refine icN X0 hx (hb hby d_method_3_9) (q := 12) rfl (tlt (low_yes H0 J0 D0 D1)).2.1 ?_
  refine cI X0 hx (hb hby d_method_3_12) (q := 13) rfl (z := (1 : Int32)) rfl ?_
  refine g_goto X0 hx (hb hby d_method_3_13) (q := 17) (by decide) (by decide) ?_
  refine endP X0 hlk (fun h => by rw [hret] at h; cases h) (lastN X0 hx (t := .boolean) (z' := (1 : Int32)) hret (by simp) (by decide) (hb hby d_method_3_17)) ?_ (by decide) (by decide)
  rw [e0]
  exact ⟨rfl, N0, rfl⟩
theorem d_method_3_16 : decode method_3_code 16 = .ok (.iconst 0, 1) := by decide +kernel
def Q_low2 (Z : State) (zC : Int32) (vF : Value) (c0 : Int32) (h0 : Heap) (v : Option Value) (h : Heap) (L : List Loc) : Prop := v = some (.int (0 : Int32)) ∧ Fr Z.heap.size L ∧ h = h0
set_option maxRecDepth 65536 in
set_option maxHeartbeats 40000000 in
theorem rm_low2 (l : Launch) (Z : State) (a0 : Array Value) (hw : ∀ d ∈ tables_1, d.before a0 Z = true) (zC : Int32) (SC : Sta Z Z.heap "java/lang/String" "COMPACT_STRINGS" "Z" (.int zC)) (PC : ¬ zC = (0 : Int32)) (vF : Value) (rF : vF = .null ∨ ∃ a, vF = .ref a) (SF : Sta Z Z.heap "jdk/internal/util/Preconditions" "SIOOBE_FORMATTER" "Ljava/util/function/BiFunction;" vF) (SA : Sta Z Z.heap "java/lang/StringUTF16" "$assertionsDisabled" "Z" (.int (1 : Int32))) (SH : Sta Z Z.heap "java/lang/StringUTF16" "HI_BYTE_SHIFT" "I" (.int (0 : Int32))) (SL : Sta Z Z.heap "java/lang/StringUTF16" "LO_BYTE_SHIFT" "I" (.int (8 : Int32))) (c0 : Int32) (h0 : Heap) (O0 : Old Z Z.heap.size h0) (H0 : (¬ (c0 < (0 : Int32)))) (J0 : (¬ ((65535 : Int32) < c0))) (D0 : (c0 < (97 : Int32))) :
    Con l Z (⟨"com/example/anteriorita/anteriorita/PatentRecordIsLanguageCodePinLaw", "lower", "(C)Z"⟩ : MethodName) method_3_code 2 (some .boolean) ({ frames := 0, cells := 0, slots := 0, locals := 0 } : Room) #[(.int c0)] h0 (Q_low2 Z zC vF c0 h0) := by
  refine Con.intro pn1 ?_
  intro p e s m below meth c T0 X0 hx hby hml hown0 hnm hret hlk hZ0 e0
  have N0 := Fr.nil Z.heap.size
  refine castGo (g' := mkF m 0 #[.val (.int c0), .unset] []) (by first | rfl | (simp [entryFrame, mkF, argsToLocals, Value.category]; done)) ?_
  show Go _ _ _ _ (T0.setTop (mkF m 0 #[.val (.int c0), .unset] []))
  refine iL X0 hx (hb hby d_method_3_0) (q := 1) rfl rfl ?_
  refine bI X0 hx (hb hby d_method_3_1) (q := 3) rfl (z := (97 : Int32)) rfl ?_
  refine g_isub X0 hx (hb hby d_method_3_3) (q := 4) rfl rfl ?_
  refine g_i2c X0 hx (hb hby d_method_3_4) (q := 5) rfl rfl ?_
  refine sI X0 hx (hb hby d_method_3_5) (q := 6) rfl (Ls' := #[.val (.int c0), .val (.int ((c0 - (97 : Int32)).toUInt32.toUInt16.toUInt32.toInt32))]) rfl ?_
  refine iL X0 hx (hb hby d_method_3_6) (q := 7) rfl rfl ?_
  refine bI X0 hx (hb hby d_method_3_7) (q := 9) rfl (z := (26 : Int32)) rfl ?_
  refine icY X0 hx (hb hby d_method_3_9) (q := 16) (by decide) (by decide) (flt (low_no H0 J0 (Or.inl D0))).2.1 ?_
  refine cI X0 hx (hb hby d_method_3_16) (q := 17) rfl (z := (0 : Int32)) rfl ?_
  refine endP X0 hlk (fun h => by rw [hret] at h; cases h) (lastN X0 hx (t := .boolean) (z' := (0 : Int32)) hret (by simp) (by decide) (hb hby d_method_3_17)) ?_ (by decide) (by decide)
  rw [e0]
  exact ⟨rfl, N0, rfl⟩
def Q_low3 (Z : State) (zC : Int32) (vF : Value) (c0 : Int32) (h0 : Heap) (v : Option Value) (h : Heap) (L : List Loc) : Prop := v = some (.int (0 : Int32)) ∧ Fr Z.heap.size L ∧ h = h0
set_option maxRecDepth 65536 in
set_option maxHeartbeats 40000000 in
theorem rm_low3 (l : Launch) (Z : State) (a0 : Array Value) (hw : ∀ d ∈ tables_1, d.before a0 Z = true) (zC : Int32) (SC : Sta Z Z.heap "java/lang/String" "COMPACT_STRINGS" "Z" (.int zC)) (PC : ¬ zC = (0 : Int32)) (vF : Value) (rF : vF = .null ∨ ∃ a, vF = .ref a) (SF : Sta Z Z.heap "jdk/internal/util/Preconditions" "SIOOBE_FORMATTER" "Ljava/util/function/BiFunction;" vF) (SA : Sta Z Z.heap "java/lang/StringUTF16" "$assertionsDisabled" "Z" (.int (1 : Int32))) (SH : Sta Z Z.heap "java/lang/StringUTF16" "HI_BYTE_SHIFT" "I" (.int (0 : Int32))) (SL : Sta Z Z.heap "java/lang/StringUTF16" "LO_BYTE_SHIFT" "I" (.int (8 : Int32))) (c0 : Int32) (h0 : Heap) (O0 : Old Z Z.heap.size h0) (H0 : (¬ (c0 < (0 : Int32)))) (J0 : (¬ ((65535 : Int32) < c0))) (D0 : ((122 : Int32) < c0)) :
    Con l Z (⟨"com/example/anteriorita/anteriorita/PatentRecordIsLanguageCodePinLaw", "lower", "(C)Z"⟩ : MethodName) method_3_code 2 (some .boolean) ({ frames := 0, cells := 0, slots := 0, locals := 0 } : Room) #[(.int c0)] h0 (Q_low3 Z zC vF c0 h0) := by
  refine Con.intro pn1 ?_
  intro p e s m below meth c T0 X0 hx hby hml hown0 hnm hret hlk hZ0 e0
  have N0 := Fr.nil Z.heap.size
  refine castGo (g' := mkF m 0 #[.val (.int c0), .unset] []) (by first | rfl | (simp [entryFrame, mkF, argsToLocals, Value.category]; done)) ?_
  show Go _ _ _ _ (T0.setTop (mkF m 0 #[.val (.int c0), .unset] []))
  refine iL X0 hx (hb hby d_method_3_0) (q := 1) rfl rfl ?_
  refine bI X0 hx (hb hby d_method_3_1) (q := 3) rfl (z := (97 : Int32)) rfl ?_
  refine g_isub X0 hx (hb hby d_method_3_3) (q := 4) rfl rfl ?_
  refine g_i2c X0 hx (hb hby d_method_3_4) (q := 5) rfl rfl ?_
  refine sI X0 hx (hb hby d_method_3_5) (q := 6) rfl (Ls' := #[.val (.int c0), .val (.int ((c0 - (97 : Int32)).toUInt32.toUInt16.toUInt32.toInt32))]) rfl ?_
  refine iL X0 hx (hb hby d_method_3_6) (q := 7) rfl rfl ?_
  refine bI X0 hx (hb hby d_method_3_7) (q := 9) rfl (z := (26 : Int32)) rfl ?_
  refine icY X0 hx (hb hby d_method_3_9) (q := 16) (by decide) (by decide) (flt (low_no H0 J0 (Or.inr D0))).2.1 ?_
  refine cI X0 hx (hb hby d_method_3_16) (q := 17) rfl (z := (0 : Int32)) rfl ?_
  refine endP X0 hlk (fun h => by rw [hret] at h; cases h) (lastN X0 hx (t := .boolean) (z' := (0 : Int32)) hret (by simp) (by decide) (hb hby d_method_3_17)) ?_ (by decide) (by decide)
  rw [e0]
  exact ⟨rfl, N0, rfl⟩
theorem own_n (x : Int32) : x &&& 3 = 0 ∨ x &&& 3 = 1 ∨ x &&& 3 = 2 ∨ x &&& 3 = 3 := by
  have h := c_mask x 3 2 (by decide) (by decide)
  rw [show (2 ^ 2 : Nat) = 4 from by decide] at h
  have c0 : (0 : Int32).toInt = 0 := by decide
  have c1 : (1 : Int32).toInt = 1 := by decide
  have c2 : (2 : Int32).toInt = 2 := by decide
  have c3 : (3 : Int32).toInt = 3 := by decide
  simp only [← Int32.toInt_inj, c0, c1, c2, c3]
  omega
theorem wd0 {a0 : Array Value} {Z : State} (hw : ∀ d ∈ tables_1, d.before a0 Z = true) : ((Jvm.Cond.constant "com/example/anteriorita/anteriorita/PatentRecordIsLanguageCodePinLaw" (7 : Nat) (65535 : Int32)) : Jvm.Cond).before a0 Z = true := hw _ (List.mem_of_getElem? (i := 0) rfl)
theorem wd1 {a0 : Array Value} {Z : State} (hw : ∀ d ∈ tables_1, d.before a0 Z = true) : ((Jvm.Cond.classLink "com/example/anteriorita/anteriorita/PatentRecordIsLanguageCodePinLaw" (8 : Nat) "java/lang/String") : Jvm.Cond).before a0 Z = true := hw _ (List.mem_of_getElem? (i := 1) rfl)
theorem wd7 {a0 : Array Value} {Z : State} (hw : ∀ d ∈ tables_1, d.before a0 Z = true) : ((Jvm.Cond.code ({ cls := "com/example/anteriorita/anteriorita/PatentRecordIsLanguageCodePinLaw", name := "chars", desc := "(ICCC)[C" } : Jvm.MethodName) method_4_code (4 : Nat) (Option.some (Jvm.ClassFile.FieldType.array Jvm.ClassFile.FieldType.char))) : Jvm.Cond).before a0 Z = true := hw _ (List.mem_of_getElem? (i := 7) rfl)
theorem wd6 {a0 : Array Value} {Z : State} (hw : ∀ d ∈ tables_1, d.before a0 Z = true) : ((Jvm.Cond.initialized "com/example/anteriorita/anteriorita/PatentRecordIsLanguageCodePinLaw") : Jvm.Cond).before a0 Z = true := hw _ (List.mem_of_getElem? (i := 6) rfl)
theorem pd16 : parseMethodDescriptor "(ICCC)[C" = some ⟨[.int, .char, .char, .char], some (.array .char)⟩ := by decide +kernel
theorem wd4 {a0 : Array Value} {Z : State} (hw : ∀ d ∈ tables_1, d.before a0 Z = true) : ((Jvm.Cond.methodLink "com/example/anteriorita/anteriorita/PatentRecordIsLanguageCodePinLaw" (10 : Nat) ({ cls := "com/example/anteriorita/anteriorita/PatentRecordIsLanguageCodePinLaw", name := "chars", desc := "(ICCC)[C" } : Jvm.MethodName)) : Jvm.Cond).before a0 Z = true := hw _ (List.mem_of_getElem? (i := 4) rfl)
theorem wd5 {a0 : Array Value} {Z : State} (hw : ∀ d ∈ tables_1, d.before a0 Z = true) : ((Jvm.Cond.static ({ cls := "com/example/anteriorita/anteriorita/PatentRecordIsLanguageCodePinLaw", name := "chars", desc := "(ICCC)[C" } : Jvm.MethodName)) : Jvm.Cond).before a0 Z = true := hw _ (List.mem_of_getElem? (i := 5) rfl)
theorem wd11 {a0 : Array Value} {Z : State} (hw : ∀ d ∈ tables_1, d.before a0 Z = true) : ((Jvm.Cond.code ({ cls := "java/lang/String", name := "<init>", desc := "([C)V" } : Jvm.MethodName) jdk_42_method_3_code (2 : Nat) (Option.none : Option Jvm.ClassFile.FieldType)) : Jvm.Cond).before a0 Z = true := hw _ (List.mem_of_getElem? (i := 11) rfl)
theorem pd17 : parseMethodDescriptor "([C)V" = some ⟨[(.array .char)], none⟩ := by decide +kernel
theorem wd9 {a0 : Array Value} {Z : State} (hw : ∀ d ∈ tables_1, d.before a0 Z = true) : ((Jvm.Cond.methodLink "com/example/anteriorita/anteriorita/PatentRecordIsLanguageCodePinLaw" (16 : Nat) ({ cls := "java/lang/String", name := "<init>", desc := "([C)V" } : Jvm.MethodName)) : Jvm.Cond).before a0 Z = true := hw _ (List.mem_of_getElem? (i := 9) rfl)
theorem wd10 {a0 : Array Value} {Z : State} (hw : ∀ d ∈ tables_1, d.before a0 Z = true) : ((Jvm.Cond.instanceMethod ({ cls := "java/lang/String", name := "<init>", desc := "([C)V" } : Jvm.MethodName)) : Jvm.Cond).before a0 Z = true := hw _ (List.mem_of_getElem? (i := 10) rfl)
theorem wd30 {a0 : Array Value} {Z : State} (hw : ∀ d ∈ tables_1, d.before a0 Z = true) : ((Jvm.Cond.code ({ cls := "com/example/anteriorita/anteriorita/PatentRecord", name := "isLanguageCode", desc := "(Ljava/lang/String;)Z" } : Jvm.MethodName) prog_13_method_4_code (1 : Nat) (Option.some Jvm.ClassFile.FieldType.boolean)) : Jvm.Cond).before a0 Z = true := hw _ (List.mem_of_getElem? (i := 30) rfl)
theorem wd29 {a0 : Array Value} {Z : State} (hw : ∀ d ∈ tables_1, d.before a0 Z = true) : ((Jvm.Cond.initialized "com/example/anteriorita/anteriorita/PatentRecord") : Jvm.Cond).before a0 Z = true := hw _ (List.mem_of_getElem? (i := 29) rfl)
theorem pd18 : parseMethodDescriptor "(Ljava/lang/String;)Z" = some ⟨[(.object "java/lang/String")], some .boolean⟩ := by decide +kernel
theorem wd27 {a0 : Array Value} {Z : State} (hw : ∀ d ∈ tables_1, d.before a0 Z = true) : ((Jvm.Cond.methodLink "com/example/anteriorita/anteriorita/PatentRecordIsLanguageCodePinLaw" (23 : Nat) ({ cls := "com/example/anteriorita/anteriorita/PatentRecord", name := "isLanguageCode", desc := "(Ljava/lang/String;)Z" } : Jvm.MethodName)) : Jvm.Cond).before a0 Z = true := hw _ (List.mem_of_getElem? (i := 27) rfl)
theorem wd28 {a0 : Array Value} {Z : State} (hw : ∀ d ∈ tables_1, d.before a0 Z = true) : ((Jvm.Cond.static ({ cls := "com/example/anteriorita/anteriorita/PatentRecord", name := "isLanguageCode", desc := "(Ljava/lang/String;)Z" } : Jvm.MethodName)) : Jvm.Cond).before a0 Z = true := hw _ (List.mem_of_getElem? (i := 28) rfl)
theorem wd73 {a0 : Array Value} {Z : State} (hw : ∀ d ∈ tables_1, d.before a0 Z = true) : ((Jvm.Cond.code ({ cls := "com/example/anteriorita/anteriorita/PatentRecordIsLanguageCodePinLaw", name := "lower", desc := "(C)Z" } : Jvm.MethodName) method_3_code (2 : Nat) (Option.some Jvm.ClassFile.FieldType.boolean)) : Jvm.Cond).before a0 Z = true := hw _ (List.mem_of_getElem? (i := 73) rfl)
theorem pd19 : parseMethodDescriptor "(C)Z" = some ⟨[.char], some .boolean⟩ := by decide +kernel
theorem wd71 {a0 : Array Value} {Z : State} (hw : ∀ d ∈ tables_1, d.before a0 Z = true) : ((Jvm.Cond.methodLink "com/example/anteriorita/anteriorita/PatentRecordIsLanguageCodePinLaw" (19 : Nat) ({ cls := "com/example/anteriorita/anteriorita/PatentRecordIsLanguageCodePinLaw", name := "lower", desc := "(C)Z" } : Jvm.MethodName)) : Jvm.Cond).before a0 Z = true := hw _ (List.mem_of_getElem? (i := 71) rfl)
theorem wd72 {a0 : Array Value} {Z : State} (hw : ∀ d ∈ tables_1, d.before a0 Z = true) : ((Jvm.Cond.static ({ cls := "com/example/anteriorita/anteriorita/PatentRecordIsLanguageCodePinLaw", name := "lower", desc := "(C)Z" } : Jvm.MethodName)) : Jvm.Cond).before a0 Z = true := hw _ (List.mem_of_getElem? (i := 72) rfl)
def Q_law (Z : State) (zC : Int32) (vF : Value) (p0 : Int32) (p1 : Int32) (p2 : Int32) (p3 : Int32) (h0 : Heap) (v : Option Value) (h : Heap) (L : List Loc) : Prop := v = some (.int (1 : Int32)) ∧ Fr Z.heap.size L ∧ Keep h0 h []
set_option maxRecDepth 65536 in
set_option maxHeartbeats 40000000 in
theorem rm_law (l : Launch) (Z : State) (a0 : Array Value) (hw : ∀ d ∈ tables_1, d.before a0 Z = true) (zC : Int32) (SC : Sta Z Z.heap "java/lang/String" "COMPACT_STRINGS" "Z" (.int zC)) (PC : ¬ zC = (0 : Int32)) (vF : Value) (rF : vF = .null ∨ ∃ a, vF = .ref a) (SF : Sta Z Z.heap "jdk/internal/util/Preconditions" "SIOOBE_FORMATTER" "Ljava/util/function/BiFunction;" vF) (SA : Sta Z Z.heap "java/lang/StringUTF16" "$assertionsDisabled" "Z" (.int (1 : Int32))) (SH : Sta Z Z.heap "java/lang/StringUTF16" "HI_BYTE_SHIFT" "I" (.int (0 : Int32))) (SL : Sta Z Z.heap "java/lang/StringUTF16" "LO_BYTE_SHIFT" "I" (.int (8 : Int32))) (p0 : Int32) (p1 : Int32) (p2 : Int32) (p3 : Int32) (h0 : Heap) (O0 : Old Z Z.heap.size h0)  :
    ConS l Z EL (⟨"com/example/anteriorita/anteriorita/PatentRecordIsLanguageCodePinLaw", "law", "(IIII)Z"⟩ : MethodName) code 10 (some .boolean) room_1 #[(.int p0), (.int p1), (.int p2), (.int p3)] h0 [] (Q_law Z zC vF p0 p1 p2 p3 h0) := by
  refine ConS.intro pn1 ?_
  intro p e s m below meth c T0 v0 X0 hx hby hml hown0 hnm hret hlk hZ0 e0 hS0 C0 hsl0
  have N0 := Fr.nil Z.heap.size
  refine castGo (g' := mkF m 0 #[.val (.int p0), .val (.int p1), .val (.int p2), .val (.int p3), .unset, .unset, .unset, .unset, .unset, .unset] []) (by first | rfl | (simp [entryFrame, mkF, argsToLocals, Value.category]; done)) ?_
  show Go _ _ _ _ (T0.setTop (mkF m 0 #[.val (.int p0), .val (.int p1), .val (.int p2), .val (.int p3), .unset, .unset, .unset, .unset, .unset, .unset] []))
  refine iL X0 hx (hb hby at_0) (q := 1) rfl rfl ?_
  refine cI X0 hx (hb hby at_1) (q := 2) rfl (z := (3 : Int32)) rfl ?_
  refine g_iand X0 hx (hb hby at_2) (q := 3) rfl rfl ?_
  rcases (own_n p0 : (p0 &&& (3 : Int32)) = (0 : Int32) ∨ (p0 &&& (3 : Int32)) = (1 : Int32) ∨ (p0 &&& (3 : Int32)) = (2 : Int32) ∨ (p0 &&& (3 : Int32)) = (3 : Int32)) with hk577 | hk578 | hk579 | hk580
  · rw [hk577]
    show Go _ _ _ _ (T0.setTop (mkF m 3 #[.val (.int p0), .val (.int p1), .val (.int p2), .val (.int p3), .unset, .unset, .unset, .unset, .unset, .unset] [(.int (0 : Int32))]))
    refine sIw X0 hx (hb hby at_3) (q := 5) rfl (Ls' := #[.val (.int p0), .val (.int p1), .val (.int p2), .val (.int p3), .val (.int (0 : Int32)), .unset, .unset, .unset, .unset, .unset]) rfl ?_
    refine iL X0 hx (hb hby at_5) (q := 6) rfl rfl ?_
    refine g_ldcI X0 hx (a1 := #[]) hZ0 hown0 (wd0 hw) (hb hby at_6) (q := 8) rfl ?_
    refine g_iand X0 hx (hb hby at_8) (q := 9) rfl rfl ?_
    refine g_i2c X0 hx (hb hby at_9) (q := 10) rfl rfl ?_
    obtain ⟨c0, ge581⟩ : ∃ c, c = ((p1 &&& (65535 : Int32)).toUInt32.toUInt16.toUInt32.toInt32) := ⟨_, rfl⟩
    rw [← ge581]
    have gp582 : ¬ (c0 < (0 : Int32)) := by rw [ge581]; exact (rng16 _).1
    have gp583 : ¬ ((65535 : Int32) < c0) := by rw [ge581]; exact (rng16 _).2
    show Go _ _ _ _ (T0.setTop (mkF m 10 #[.val (.int p0), .val (.int p1), .val (.int p2), .val (.int p3), .val (.int (0 : Int32)), .unset, .unset, .unset, .unset, .unset] [(.int c0)]))
    refine sIw X0 hx (hb hby at_10) (q := 12) rfl (Ls' := #[.val (.int p0), .val (.int p1), .val (.int p2), .val (.int p3), .val (.int (0 : Int32)), .val (.int c0), .unset, .unset, .unset, .unset]) rfl ?_
    refine iL X0 hx (hb hby at_12) (q := 13) rfl rfl ?_
    refine g_ldcI X0 hx (a1 := #[]) hZ0 hown0 (wd0 hw) (hb hby at_13) (q := 15) rfl ?_
    refine g_iand X0 hx (hb hby at_15) (q := 16) rfl rfl ?_
    refine g_i2c X0 hx (hb hby at_16) (q := 17) rfl rfl ?_
    obtain ⟨c1, ge584⟩ : ∃ c, c = ((p2 &&& (65535 : Int32)).toUInt32.toUInt16.toUInt32.toInt32) := ⟨_, rfl⟩
    rw [← ge584]
    have gp585 : ¬ (c1 < (0 : Int32)) := by rw [ge584]; exact (rng16 _).1
    have gp586 : ¬ ((65535 : Int32) < c1) := by rw [ge584]; exact (rng16 _).2
    show Go _ _ _ _ (T0.setTop (mkF m 17 #[.val (.int p0), .val (.int p1), .val (.int p2), .val (.int p3), .val (.int (0 : Int32)), .val (.int c0), .unset, .unset, .unset, .unset] [(.int c1)]))
    refine sIw X0 hx (hb hby at_17) (q := 19) rfl (Ls' := #[.val (.int p0), .val (.int p1), .val (.int p2), .val (.int p3), .val (.int (0 : Int32)), .val (.int c0), .val (.int c1), .unset, .unset, .unset]) rfl ?_
    refine iL X0 hx (hb hby at_19) (q := 20) rfl rfl ?_
    refine g_ldcI X0 hx (a1 := #[]) hZ0 hown0 (wd0 hw) (hb hby at_20) (q := 22) rfl ?_
    refine g_iand X0 hx (hb hby at_22) (q := 23) rfl rfl ?_
    refine g_i2c X0 hx (hb hby at_23) (q := 24) rfl rfl ?_
    obtain ⟨c2, ge587⟩ : ∃ c, c = ((p3 &&& (65535 : Int32)).toUInt32.toUInt16.toUInt32.toInt32) := ⟨_, rfl⟩
    rw [← ge587]
    have gp588 : ¬ (c2 < (0 : Int32)) := by rw [ge587]; exact (rng16 _).1
    have gp589 : ¬ ((65535 : Int32) < c2) := by rw [ge587]; exact (rng16 _).2
    show Go _ _ _ _ (T0.setTop (mkF m 24 #[.val (.int p0), .val (.int p1), .val (.int p2), .val (.int p3), .val (.int (0 : Int32)), .val (.int c0), .val (.int c1), .unset, .unset, .unset] [(.int c2)]))
    refine sIw X0 hx (hb hby at_24) (q := 26) rfl (Ls' := #[.val (.int p0), .val (.int p1), .val (.int p2), .val (.int p3), .val (.int (0 : Int32)), .val (.int c0), .val (.int c1), .val (.int c2), .unset, .unset]) rfl ?_
    show Go _ _ _ _ (T0.setTop (mkF m 26 #[.val (.int p0), .val (.int p1), .val (.int p2), .val (.int p3), .val (.int (0 : Int32)), .val (.int c0), .val (.int c1), .val (.int c2), .unset, .unset] []))
    refine g_new X0 hx hZ0 hown0 (wd1 hw) (wd2 hw) (wd3 hw) (by decide) (by decide) e0 (hb hby at_26) (q := 29) rfl ?_
    intro T590 h590 b590 g590 X590 e590 E590 A590 D590
    have sf591 : Safe Z EL v0 h0 b590 := Safe.new (Nat.le_of_eq g590.symm)
    have F590_21 := D590 (Or.inr (wd21 hw)) (ty := (.array .byte)) (by decide)
    have F590_22 := D590 (Or.inr (wd22 hw)) (ty := .byte) (by decide)
    refine g_dup X590 hx (hb hby at_29) (q := 30) rfl rfl ?_
    refine iLw X590 hx (hb hby at_30) (q := 32) rfl rfl ?_
    refine iLw X590 hx (hb hby at_32) (q := 34) rfl rfl ?_
    refine iLw X590 hx (hb hby at_34) (q := 36) rfl rfl ?_
    refine iLw X590 hx (hb hby at_36) (q := 38) rfl rfl ?_
    have f593 : Old Z Z.heap.size h590 := O0.ext E590
    refine g_st X590 hx hZ0 hown0 (wd4 hw) (wd5 hw) (wd6 hw) (wd7 hw) (by decide) e590 (Con.back (W := 2) (rm_chars0 l Z a0 hw zC SC PC vF rF SF SA SH SL c0 c1 c2 h590 f593 gp582 gp583 gp585 gp586 gp588 gp589) hZ0 (wd7 hw) (wd6 hw) (by decide) (by decide)) (by rw [hml]; rfl) (lenOf pd16 rfl) rfl (Nat.le_of_eq rfl) (hb hby at_38) (q := 41) rfl (by decide) (by decide) ?_
    intro v592 T592 L592 X592 Q592
    obtain ⟨a_592, kc_592, rfl, Nq592, K592q, q592_0, q592_1⟩ := Q592
    have N592 := Fr.app N0 Nq592
    show Go _ _ _ _ (T592.setTop (mkF m 41 #[.val (.int p0), .val (.int p1), .val (.int p2), .val (.int p3), .val (.int (0 : Int32)), .val (.int c0), .val (.int c1), .val (.int c2), .unset, .unset] [(.ref a_592), (.ref b590), (.ref b590)]))
    have f602 : Exa Z T592.heap b590 "java/lang/String" := A590.keep K592q
    have f603 : Fld Z T592.heap b590 "java/lang/String" "value" "[B" .null := F590_21.keep K592q nin0
    have f604 : Fld Z T592.heap b590 "java/lang/String" "coder" "B" (.int (0 : Int32)) := F590_22.keep K592q nin0
    have gz605 : Z.heap.size ≤ b590 := Nat.le_trans O0.2.1 (Nat.le_of_eq g590.symm)
    have f606 : Safe Z EL v0 h590 b590 := Safe.ext E590 C0.1 sf591
    have f607 : CHr Z EL s.vm s.heap v0 h590 := C0.trans (CHr.ext E590 C0.1)
    have f608 : Safe Z EL v0 T592.heap b590 := Safe.keep K592q sf0 f607.1 f606
    have f609 : Old Z Z.heap.size T592.heap := f593.keep K592q all0
    have f610 : CHr Z EL s.vm s.heap v0 T592.heap := f607.trans (CHr.keep K592q sf0 f607.1)
    have le611 : (h590).size ≤ (T592.heap).size := K592q.1
    refine g_spS X592 hx hZ0 hown0 hS0 (Nat.zero_le _) (wd9 hw) (wd10 hw) (wd11 hw) rfl (by decide) rfl (ConS.back (W := 1) (rm_new1e l Z a0 hw zC SC PC vF rF SF SA SH SL b590 a_592 kc_592 [] T592.heap f609 f602 f603 f604 gz605 q592_1) hZ0 (wd11 hw) (wd3 hw) (by decide) (by decide) (own_EW hw) f610.1 (sfS f608 sf0) (allS (Nat.lt_of_lt_of_le A590.lt le611) all0)) (by rw [hml]; rfl) (lenOf pd17 rfl) rfl (Nat.le_of_eq rfl) (hb hby at_41) (q := 44) rfl (by decide) (by decide) ?_
    rintro v601 T601 L601 ⟨X601, hS601, hZ601, hown601, R601⟩ Q601
    obtain ⟨t_601, kb_601, rfl, Nq601, K601q, q601_0, q601_1, q601_2, q601_3⟩ := Q601
    have N601 := Fr.app N592 Nq601
    show Go _ _ _ _ (T601.setTop (mkF m 44 #[.val (.int p0), .val (.int p1), .val (.int p2), .val (.int p3), .val (.int (0 : Int32)), .val (.int c0), .val (.int c1), .val (.int c2), .unset, .unset] [(.ref b590)]))
    refine sAw X601 hx (hb hby at_44) (q := 46) rfl rfl (Ls' := #[.val (.int p0), .val (.int p1), .val (.int p2), .val (.int p3), .val (.int (0 : Int32)), .val (.int c0), .val (.int c1), .val (.int c2), .val (.ref b590), .unset]) rfl ?_
    refine iLw X601 hx (hb hby at_46) (q := 48) rfl rfl ?_
    refine cI X601 hx (hb hby at_48) (q := 49) rfl (z := (2 : Int32)) rfl ?_
    refine icY X601 hx (hb hby at_49) (q := 72) (by decide) (by decide) (by decide) ?_
    refine cI X601 hx (hb hby at_72) (q := 73) rfl (z := (0 : Int32)) rfl ?_
    refine sIw X601 hx (hb hby at_73) (q := 75) rfl (Ls' := #[.val (.int p0), .val (.int p1), .val (.int p2), .val (.int p3), .val (.int (0 : Int32)), .val (.int c0), .val (.int c1), .val (.int c2), .val (.ref b590), .val (.int (0 : Int32))]) rfl ?_
    refine aLw X601 hx (hb hby at_75) (q := 77) rfl rfl rfl ?_
    have f613 : Old Z Z.heap.size T601.heap := f609.keep K601q (allS gz605 all0)
    refine g_st X601 hx hZ601 hown601 (wd27 hw) (wd28 hw) (wd29 hw) (wd30 hw) (by decide) rfl (Con.back (W := 0) (rm_ilc0_0 l Z a0 hw zC SC PC vF rF SF SA SH SL b590 t_601 kb_601 [] T601.heap f613 q601_0 q601_2 q601_1 q601_3) hZ601 (wd30 hw) (wd29 hw) (by decide) (by decide)) (by rw [hml]; rfl) (lenOf pd18 rfl) rfl (Nat.le_of_eq rfl) (hb hby at_77) (q := 80) rfl (by decide) (by decide) ?_
    intro v612 T612 L612 X612 Q612
    obtain ⟨rfl, Nq612, e612⟩ := Q612
    have N612 := Fr.app N601 Nq612
    show Go _ _ _ _ (T612.setTop (mkF m 80 #[.val (.int p0), .val (.int p1), .val (.int p2), .val (.int p3), .val (.int (0 : Int32)), .val (.int c0), .val (.int c1), .val (.int c2), .val (.ref b590), .val (.int (0 : Int32))] [(.int (0 : Int32))]))
    refine iLw X612 hx (hb hby at_80) (q := 82) rfl rfl ?_
    refine icN X612 hx (hb hby at_82) (q := 85) rfl (by decide) ?_
    refine cI X612 hx (hb hby at_85) (q := 86) rfl (z := (1 : Int32)) rfl ?_
    refine g_goto X612 hx (hb hby at_86) (q := 90) (by decide) (by decide) ?_
    have K614 : Keep h0 h590 [] := (Keep.refl h0 []).ext E590
    have K615 : Keep h0 T592.heap [] := K614.trans K592q all0
    have gh616 : h0.size ≤ b590 := Nat.le_trans (Nat.le_refl _) (Nat.le_of_eq g590.symm)
    have K617 : Keep h0 T601.heap [] := K615.trans K601q (allS (Or.inr gh616) all0)
    have f618 : CHr Z EL s.vm s.heap T601.vm T601.heap := f610.trans R601
    refine endC X612 hlk hS601 (by rw [e612]; exact (Nat.le_trans (Nat.le_refl _) (Nat.le_refl _))) hZ601 (own_EW hw) (by rw [e612]; exact f618) (fun h => by rw [hret] at h; cases h) (lastN X612 hx (t := .boolean) (z' := (1 : Int32)) hret (by simp) (by decide) (hb hby at_90)) ?_ (by decide) (by decide)
    rw [e612]
    exact ⟨rfl, N612, K617⟩
  · rw [hk578]
    show Go _ _ _ _ (T0.setTop (mkF m 3 #[.val (.int p0), .val (.int p1), .val (.int p2), .val (.int p3), .unset, .unset, .unset, .unset, .unset, .unset] [(.int (1 : Int32))]))
    refine sIw X0 hx (hb hby at_3) (q := 5) rfl (Ls' := #[.val (.int p0), .val (.int p1), .val (.int p2), .val (.int p3), .val (.int (1 : Int32)), .unset, .unset, .unset, .unset, .unset]) rfl ?_
    refine iL X0 hx (hb hby at_5) (q := 6) rfl rfl ?_
    refine g_ldcI X0 hx (a1 := #[]) hZ0 hown0 (wd0 hw) (hb hby at_6) (q := 8) rfl ?_
    refine g_iand X0 hx (hb hby at_8) (q := 9) rfl rfl ?_
    refine g_i2c X0 hx (hb hby at_9) (q := 10) rfl rfl ?_
    obtain ⟨c0, ge619⟩ : ∃ c, c = ((p1 &&& (65535 : Int32)).toUInt32.toUInt16.toUInt32.toInt32) := ⟨_, rfl⟩
    rw [← ge619]
    have gp620 : ¬ (c0 < (0 : Int32)) := by rw [ge619]; exact (rng16 _).1
    have gp621 : ¬ ((65535 : Int32) < c0) := by rw [ge619]; exact (rng16 _).2
    show Go _ _ _ _ (T0.setTop (mkF m 10 #[.val (.int p0), .val (.int p1), .val (.int p2), .val (.int p3), .val (.int (1 : Int32)), .unset, .unset, .unset, .unset, .unset] [(.int c0)]))
    refine sIw X0 hx (hb hby at_10) (q := 12) rfl (Ls' := #[.val (.int p0), .val (.int p1), .val (.int p2), .val (.int p3), .val (.int (1 : Int32)), .val (.int c0), .unset, .unset, .unset, .unset]) rfl ?_
    refine iL X0 hx (hb hby at_12) (q := 13) rfl rfl ?_
    refine g_ldcI X0 hx (a1 := #[]) hZ0 hown0 (wd0 hw) (hb hby at_13) (q := 15) rfl ?_
    refine g_iand X0 hx (hb hby at_15) (q := 16) rfl rfl ?_
    refine g_i2c X0 hx (hb hby at_16) (q := 17) rfl rfl ?_
    obtain ⟨c1, ge622⟩ : ∃ c, c = ((p2 &&& (65535 : Int32)).toUInt32.toUInt16.toUInt32.toInt32) := ⟨_, rfl⟩
    rw [← ge622]
    have gp623 : ¬ (c1 < (0 : Int32)) := by rw [ge622]; exact (rng16 _).1
    have gp624 : ¬ ((65535 : Int32) < c1) := by rw [ge622]; exact (rng16 _).2
    show Go _ _ _ _ (T0.setTop (mkF m 17 #[.val (.int p0), .val (.int p1), .val (.int p2), .val (.int p3), .val (.int (1 : Int32)), .val (.int c0), .unset, .unset, .unset, .unset] [(.int c1)]))
    refine sIw X0 hx (hb hby at_17) (q := 19) rfl (Ls' := #[.val (.int p0), .val (.int p1), .val (.int p2), .val (.int p3), .val (.int (1 : Int32)), .val (.int c0), .val (.int c1), .unset, .unset, .unset]) rfl ?_
    refine iL X0 hx (hb hby at_19) (q := 20) rfl rfl ?_
    refine g_ldcI X0 hx (a1 := #[]) hZ0 hown0 (wd0 hw) (hb hby at_20) (q := 22) rfl ?_
    refine g_iand X0 hx (hb hby at_22) (q := 23) rfl rfl ?_
    refine g_i2c X0 hx (hb hby at_23) (q := 24) rfl rfl ?_
    obtain ⟨c2, ge625⟩ : ∃ c, c = ((p3 &&& (65535 : Int32)).toUInt32.toUInt16.toUInt32.toInt32) := ⟨_, rfl⟩
    rw [← ge625]
    have gp626 : ¬ (c2 < (0 : Int32)) := by rw [ge625]; exact (rng16 _).1
    have gp627 : ¬ ((65535 : Int32) < c2) := by rw [ge625]; exact (rng16 _).2
    show Go _ _ _ _ (T0.setTop (mkF m 24 #[.val (.int p0), .val (.int p1), .val (.int p2), .val (.int p3), .val (.int (1 : Int32)), .val (.int c0), .val (.int c1), .unset, .unset, .unset] [(.int c2)]))
    refine sIw X0 hx (hb hby at_24) (q := 26) rfl (Ls' := #[.val (.int p0), .val (.int p1), .val (.int p2), .val (.int p3), .val (.int (1 : Int32)), .val (.int c0), .val (.int c1), .val (.int c2), .unset, .unset]) rfl ?_
    by_cases k628 : (255 : Int32) < c0
    · show Go _ _ _ _ (T0.setTop (mkF m 26 #[.val (.int p0), .val (.int p1), .val (.int p2), .val (.int p3), .val (.int (1 : Int32)), .val (.int c0), .val (.int c1), .val (.int c2), .unset, .unset] []))
      refine g_new X0 hx hZ0 hown0 (wd1 hw) (wd2 hw) (wd3 hw) (by decide) (by decide) e0 (hb hby at_26) (q := 29) rfl ?_
      intro T629 h629 b629 g629 X629 e629 E629 A629 D629
      have sf630 : Safe Z EL v0 h0 b629 := Safe.new (Nat.le_of_eq g629.symm)
      have F629_21 := D629 (Or.inr (wd21 hw)) (ty := (.array .byte)) (by decide)
      have F629_22 := D629 (Or.inr (wd22 hw)) (ty := .byte) (by decide)
      refine g_dup X629 hx (hb hby at_29) (q := 30) rfl rfl ?_
      refine iLw X629 hx (hb hby at_30) (q := 32) rfl rfl ?_
      refine iLw X629 hx (hb hby at_32) (q := 34) rfl rfl ?_
      refine iLw X629 hx (hb hby at_34) (q := 36) rfl rfl ?_
      refine iLw X629 hx (hb hby at_36) (q := 38) rfl rfl ?_
      have f632 : Old Z Z.heap.size h629 := O0.ext E629
      refine g_st X629 hx hZ0 hown0 (wd4 hw) (wd5 hw) (wd6 hw) (wd7 hw) (by decide) e629 (Con.back (W := 2) (rm_chars1 l Z a0 hw zC SC PC vF rF SF SA SH SL c0 c1 c2 h629 f632 gp620 gp621 gp623 gp624 gp626 gp627) hZ0 (wd7 hw) (wd6 hw) (by decide) (by decide)) (by rw [hml]; rfl) (lenOf pd16 rfl) rfl (Nat.le_of_eq rfl) (hb hby at_38) (q := 41) rfl (by decide) (by decide) ?_
      intro v631 T631 L631 X631 Q631
      obtain ⟨a_631, kc_631, rfl, Nq631, K631q, q631_0, q631_1⟩ := Q631
      have N631 := Fr.app N0 Nq631
      show Go _ _ _ _ (T631.setTop (mkF m 41 #[.val (.int p0), .val (.int p1), .val (.int p2), .val (.int p3), .val (.int (1 : Int32)), .val (.int c0), .val (.int c1), .val (.int c2), .unset, .unset] [(.ref a_631), (.ref b629), (.ref b629)]))
      have f645 : Exa Z T631.heap b629 "java/lang/String" := A629.keep K631q
      have f646 : Fld Z T631.heap b629 "java/lang/String" "value" "[B" .null := F629_21.keep K631q nin0
      have f647 : Fld Z T631.heap b629 "java/lang/String" "coder" "B" (.int (0 : Int32)) := F629_22.keep K631q nin0
      have gz648 : Z.heap.size ≤ b629 := Nat.le_trans O0.2.1 (Nat.le_of_eq g629.symm)
      have f649 : Old Z Z.heap.size T631.heap := f632.keep K631q all0
      refine g_sp X631 hx hZ0 hown0 (wd9 hw) (wd10 hw) (wd11 hw) rfl (by decide) rfl (Con.back (W := 1) (rm_new1w_1_0 l Z a0 hw zC SC PC vF rF SF SA SH SL b629 a_631 kc_631 c0 T631.heap f649 f645 f646 f647 gz648 q631_1 gp620 gp621 k628) hZ0 (wd11 hw) (wd3 hw) (by decide) (by decide)) (by rw [hml]; rfl) (lenOf pd17 rfl) rfl (Nat.le_of_eq rfl) (hb hby at_41) (q := 44) rfl (by decide) (by decide) ?_
      intro v644 T644 L644 X644 Q644
      obtain ⟨t_644, kb_644, rfl, Nq644, K644q, q644_0, q644_1, q644_2, q644_3, q644_4⟩ := Q644
      have N644 := Fr.app N631 Nq644
      show Go _ _ _ _ (T644.setTop (mkF m 44 #[.val (.int p0), .val (.int p1), .val (.int p2), .val (.int p3), .val (.int (1 : Int32)), .val (.int c0), .val (.int c1), .val (.int c2), .unset, .unset] [(.ref b629)]))
      refine sAw X644 hx (hb hby at_44) (q := 46) rfl rfl (Ls' := #[.val (.int p0), .val (.int p1), .val (.int p2), .val (.int p3), .val (.int (1 : Int32)), .val (.int c0), .val (.int c1), .val (.int c2), .val (.ref b629), .unset]) rfl ?_
      refine iLw X644 hx (hb hby at_46) (q := 48) rfl rfl ?_
      refine cI X644 hx (hb hby at_48) (q := 49) rfl (z := (2 : Int32)) rfl ?_
      refine icY X644 hx (hb hby at_49) (q := 72) (by decide) (by decide) (by decide) ?_
      refine cI X644 hx (hb hby at_72) (q := 73) rfl (z := (0 : Int32)) rfl ?_
      refine sIw X644 hx (hb hby at_73) (q := 75) rfl (Ls' := #[.val (.int p0), .val (.int p1), .val (.int p2), .val (.int p3), .val (.int (1 : Int32)), .val (.int c0), .val (.int c1), .val (.int c2), .val (.ref b629), .val (.int (0 : Int32))]) rfl ?_
      refine aLw X644 hx (hb hby at_75) (q := 77) rfl rfl rfl ?_
      have f651 : Old Z Z.heap.size T644.heap := f649.keep K644q (allS gz648 all0)
      refine g_st X644 hx hZ0 hown0 (wd27 hw) (wd28 hw) (wd29 hw) (wd30 hw) (by decide) rfl (Con.back (W := 0) (rm_ilc1_2 l Z a0 hw zC SC PC vF rF SF SA SH SL b629 t_644 kb_644 [(.int (StrChars.lo8 c0)), (.int (StrChars.hi8 c0))] T644.heap f651 q644_1 q644_3 q644_2 q644_4) hZ0 (wd30 hw) (wd29 hw) (by decide) (by decide)) (by rw [hml]; rfl) (lenOf pd18 rfl) rfl (Nat.le_of_eq rfl) (hb hby at_77) (q := 80) rfl (by decide) (by decide) ?_
      intro v650 T650 L650 X650 Q650
      obtain ⟨rfl, Nq650, e650⟩ := Q650
      have N650 := Fr.app N644 Nq650
      show Go _ _ _ _ (T650.setTop (mkF m 80 #[.val (.int p0), .val (.int p1), .val (.int p2), .val (.int p3), .val (.int (1 : Int32)), .val (.int c0), .val (.int c1), .val (.int c2), .val (.ref b629), .val (.int (0 : Int32))] [(.int (0 : Int32))]))
      refine iLw X650 hx (hb hby at_80) (q := 82) rfl rfl ?_
      refine icN X650 hx (hb hby at_82) (q := 85) rfl (by decide) ?_
      refine cI X650 hx (hb hby at_85) (q := 86) rfl (z := (1 : Int32)) rfl ?_
      refine g_goto X650 hx (hb hby at_86) (q := 90) (by decide) (by decide) ?_
      have K652 : Keep h0 h629 [] := (Keep.refl h0 []).ext E629
      have K653 : Keep h0 T631.heap [] := K652.trans K631q all0
      have gh654 : h0.size ≤ b629 := Nat.le_trans (Nat.le_refl _) (Nat.le_of_eq g629.symm)
      have K655 : Keep h0 T644.heap [] := K653.trans K644q (allS (Or.inr gh654) all0)
      have f656 : CHr Z EL s.vm s.heap v0 h629 := C0.trans (CHr.ext E629 C0.1)
      have f657 : CHr Z EL s.vm s.heap v0 T631.heap := f656.trans (CHr.keep K631q sf0 f656.1)
      have f658 : Safe Z EL v0 h629 b629 := Safe.ext E629 C0.1 sf630
      have f659 : Safe Z EL v0 T631.heap b629 := Safe.keep K631q sf0 f656.1 f658
      have f660 : CHr Z EL s.vm s.heap v0 T644.heap := f657.trans (CHr.keep K644q (sfS f659 sf0) f657.1)
      refine endC X650 hlk hS0 (by rw [e650]; exact (Nat.zero_le _)) hZ0 (own_EW hw) (by rw [e650]; exact f660) (fun h => by rw [hret] at h; cases h) (lastN X650 hx (t := .boolean) (z' := (1 : Int32)) hret (by simp) (by decide) (hb hby at_90)) ?_ (by decide) (by decide)
      rw [e650]
      exact ⟨rfl, N650, K655⟩
    · show Go _ _ _ _ (T0.setTop (mkF m 26 #[.val (.int p0), .val (.int p1), .val (.int p2), .val (.int p3), .val (.int (1 : Int32)), .val (.int c0), .val (.int c1), .val (.int c2), .unset, .unset] []))
      refine g_new X0 hx hZ0 hown0 (wd1 hw) (wd2 hw) (wd3 hw) (by decide) (by decide) e0 (hb hby at_26) (q := 29) rfl ?_
      intro T661 h661 b661 g661 X661 e661 E661 A661 D661
      have sf662 : Safe Z EL v0 h0 b661 := Safe.new (Nat.le_of_eq g661.symm)
      have F661_21 := D661 (Or.inr (wd21 hw)) (ty := (.array .byte)) (by decide)
      have F661_22 := D661 (Or.inr (wd22 hw)) (ty := .byte) (by decide)
      refine g_dup X661 hx (hb hby at_29) (q := 30) rfl rfl ?_
      refine iLw X661 hx (hb hby at_30) (q := 32) rfl rfl ?_
      refine iLw X661 hx (hb hby at_32) (q := 34) rfl rfl ?_
      refine iLw X661 hx (hb hby at_34) (q := 36) rfl rfl ?_
      refine iLw X661 hx (hb hby at_36) (q := 38) rfl rfl ?_
      have f664 : Old Z Z.heap.size h661 := O0.ext E661
      refine g_st X661 hx hZ0 hown0 (wd4 hw) (wd5 hw) (wd6 hw) (wd7 hw) (by decide) e661 (Con.back (W := 2) (rm_chars1 l Z a0 hw zC SC PC vF rF SF SA SH SL c0 c1 c2 h661 f664 gp620 gp621 gp623 gp624 gp626 gp627) hZ0 (wd7 hw) (wd6 hw) (by decide) (by decide)) (by rw [hml]; rfl) (lenOf pd16 rfl) rfl (Nat.le_of_eq rfl) (hb hby at_38) (q := 41) rfl (by decide) (by decide) ?_
      intro v663 T663 L663 X663 Q663
      obtain ⟨a_663, kc_663, rfl, Nq663, K663q, q663_0, q663_1⟩ := Q663
      have N663 := Fr.app N0 Nq663
      show Go _ _ _ _ (T663.setTop (mkF m 41 #[.val (.int p0), .val (.int p1), .val (.int p2), .val (.int p3), .val (.int (1 : Int32)), .val (.int c0), .val (.int c1), .val (.int c2), .unset, .unset] [(.ref a_663), (.ref b661), (.ref b661)]))
      have f666 : Old Z Z.heap.size T663.heap := f664.keep K663q all0
      have gz667 : Z.heap.size ≤ b661 := Nat.le_trans O0.2.1 (Nat.le_of_eq g661.symm)
      have f668 : Exa Z T663.heap b661 "java/lang/String" := A661.keep K663q
      have f669 : Fld Z T663.heap b661 "java/lang/String" "value" "[B" .null := F661_21.keep K663q nin0
      have f670 : Fld Z T663.heap b661 "java/lang/String" "coder" "B" (.int (0 : Int32)) := F661_22.keep K663q nin0
      refine g_sp X663 hx hZ0 hown0 (wd9 hw) (wd10 hw) (wd11 hw) rfl (by decide) rfl (StrChars.Road.backV (W := 1) hZ0 (own_wStr hw) (kI := 4) (wd2 hw) (cs := ([c0] : List Int32)) (bs := (([c0] : List Int32).map (fun c => c.toInt8.toInt32))) (n := 1) gz667 f666.2.1 f668 f669 f670 q663_1 (SC.ext f666.2) PC rfl rfl (by decide) (by decide) (alS ⟨gp620, k628⟩ al0) rfl (by decide) (by decide)) (a := b661) (argsL := [.ref a_663]) (W := 1) (nk := 1) (ns := 1) (Qc := StrChars.Road.QV Z b661 (1 : Int32) (([c0] : List Int32).map (fun c => c.toInt8.toInt32)) T663.heap Z.heap.size) (by rw [hml]; rfl) (lenOf pd17 rfl) rfl (Nat.le_of_eq rfl) (hb hby at_41) (q := 44) rfl (by decide) (by decide) ?_
      intro v665 T665 L665 X665 Q665
      obtain ⟨rfl, Nq665, K665q, E665q, C665q, t665, kb665, tz665, tg665, tn665, Fv665, Va665⟩ := Q665
      have N665 := Fr.app N663 Nq665
      have Vb665 : Arv Z T665.heap t665 kb665 .byte (1 : Int32) [(.int (StrChars.lo8 c0))] (.int 0) := Va665
      show Go _ _ _ _ (T665.setTop (mkF m 44 #[.val (.int p0), .val (.int p1), .val (.int p2), .val (.int p3), .val (.int (1 : Int32)), .val (.int c0), .val (.int c1), .val (.int c2), .unset, .unset] [(.ref b661)]))
      refine sAw X665 hx (hb hby at_44) (q := 46) rfl rfl (Ls' := #[.val (.int p0), .val (.int p1), .val (.int p2), .val (.int p3), .val (.int (1 : Int32)), .val (.int c0), .val (.int c1), .val (.int c2), .val (.ref b661), .unset]) rfl ?_
      refine iLw X665 hx (hb hby at_46) (q := 48) rfl rfl ?_
      refine cI X665 hx (hb hby at_48) (q := 49) rfl (z := (2 : Int32)) rfl ?_
      refine icY X665 hx (hb hby at_49) (q := 72) (by decide) (by decide) (by decide) ?_
      refine cI X665 hx (hb hby at_72) (q := 73) rfl (z := (0 : Int32)) rfl ?_
      refine sIw X665 hx (hb hby at_73) (q := 75) rfl (Ls' := #[.val (.int p0), .val (.int p1), .val (.int p2), .val (.int p3), .val (.int (1 : Int32)), .val (.int c0), .val (.int c1), .val (.int c2), .val (.ref b661), .val (.int (0 : Int32))]) rfl ?_
      refine aLw X665 hx (hb hby at_75) (q := 77) rfl rfl rfl ?_
      have f672 : Old Z Z.heap.size T665.heap := f666.keep K665q (allS gz667 all0)
      refine g_st X665 hx hZ0 hown0 (wd27 hw) (wd28 hw) (wd29 hw) (wd30 hw) (by decide) rfl (Con.back (W := 0) (rm_ilc0_1 l Z a0 hw zC SC PC vF rF SF SA SH SL b661 t665 kb665 [(.int (StrChars.lo8 c0))] T665.heap f672 E665q C665q Fv665 Vb665) hZ0 (wd30 hw) (wd29 hw) (by decide) (by decide)) (by rw [hml]; rfl) (lenOf pd18 rfl) rfl (Nat.le_of_eq rfl) (hb hby at_77) (q := 80) rfl (by decide) (by decide) ?_
      intro v671 T671 L671 X671 Q671
      obtain ⟨rfl, Nq671, e671⟩ := Q671
      have N671 := Fr.app N665 Nq671
      show Go _ _ _ _ (T671.setTop (mkF m 80 #[.val (.int p0), .val (.int p1), .val (.int p2), .val (.int p3), .val (.int (1 : Int32)), .val (.int c0), .val (.int c1), .val (.int c2), .val (.ref b661), .val (.int (0 : Int32))] [(.int (0 : Int32))]))
      refine iLw X671 hx (hb hby at_80) (q := 82) rfl rfl ?_
      refine icN X671 hx (hb hby at_82) (q := 85) rfl (by decide) ?_
      refine cI X671 hx (hb hby at_85) (q := 86) rfl (z := (1 : Int32)) rfl ?_
      refine g_goto X671 hx (hb hby at_86) (q := 90) (by decide) (by decide) ?_
      have K673 : Keep h0 h661 [] := (Keep.refl h0 []).ext E661
      have K674 : Keep h0 T663.heap [] := K673.trans K663q all0
      have gh675 : h0.size ≤ b661 := Nat.le_trans (Nat.le_refl _) (Nat.le_of_eq g661.symm)
      have K676 : Keep h0 T665.heap [] := K674.trans K665q (allS (Or.inr gh675) all0)
      have f677 : CHr Z EL s.vm s.heap v0 h661 := C0.trans (CHr.ext E661 C0.1)
      have f678 : CHr Z EL s.vm s.heap v0 T663.heap := f677.trans (CHr.keep K663q sf0 f677.1)
      have f679 : Safe Z EL v0 h661 b661 := Safe.ext E661 C0.1 sf662
      have f680 : Safe Z EL v0 T663.heap b661 := Safe.keep K663q sf0 f677.1 f679
      have f681 : CHr Z EL s.vm s.heap v0 T665.heap := f678.trans (CHr.keep K665q (sfS f680 sf0) f678.1)
      refine endC X671 hlk hS0 (by rw [e671]; exact (Nat.zero_le _)) hZ0 (own_EW hw) (by rw [e671]; exact f681) (fun h => by rw [hret] at h; cases h) (lastN X671 hx (t := .boolean) (z' := (1 : Int32)) hret (by simp) (by decide) (hb hby at_90)) ?_ (by decide) (by decide)
      rw [e671]
      exact ⟨rfl, N671, K676⟩
  · rw [hk579]
    show Go _ _ _ _ (T0.setTop (mkF m 3 #[.val (.int p0), .val (.int p1), .val (.int p2), .val (.int p3), .unset, .unset, .unset, .unset, .unset, .unset] [(.int (2 : Int32))]))
    refine sIw X0 hx (hb hby at_3) (q := 5) rfl (Ls' := #[.val (.int p0), .val (.int p1), .val (.int p2), .val (.int p3), .val (.int (2 : Int32)), .unset, .unset, .unset, .unset, .unset]) rfl ?_
    refine iL X0 hx (hb hby at_5) (q := 6) rfl rfl ?_
    refine g_ldcI X0 hx (a1 := #[]) hZ0 hown0 (wd0 hw) (hb hby at_6) (q := 8) rfl ?_
    refine g_iand X0 hx (hb hby at_8) (q := 9) rfl rfl ?_
    refine g_i2c X0 hx (hb hby at_9) (q := 10) rfl rfl ?_
    obtain ⟨c0, ge682⟩ : ∃ c, c = ((p1 &&& (65535 : Int32)).toUInt32.toUInt16.toUInt32.toInt32) := ⟨_, rfl⟩
    rw [← ge682]
    have gp683 : ¬ (c0 < (0 : Int32)) := by rw [ge682]; exact (rng16 _).1
    have gp684 : ¬ ((65535 : Int32) < c0) := by rw [ge682]; exact (rng16 _).2
    show Go _ _ _ _ (T0.setTop (mkF m 10 #[.val (.int p0), .val (.int p1), .val (.int p2), .val (.int p3), .val (.int (2 : Int32)), .unset, .unset, .unset, .unset, .unset] [(.int c0)]))
    refine sIw X0 hx (hb hby at_10) (q := 12) rfl (Ls' := #[.val (.int p0), .val (.int p1), .val (.int p2), .val (.int p3), .val (.int (2 : Int32)), .val (.int c0), .unset, .unset, .unset, .unset]) rfl ?_
    refine iL X0 hx (hb hby at_12) (q := 13) rfl rfl ?_
    refine g_ldcI X0 hx (a1 := #[]) hZ0 hown0 (wd0 hw) (hb hby at_13) (q := 15) rfl ?_
    refine g_iand X0 hx (hb hby at_15) (q := 16) rfl rfl ?_
    refine g_i2c X0 hx (hb hby at_16) (q := 17) rfl rfl ?_
    obtain ⟨c1, ge685⟩ : ∃ c, c = ((p2 &&& (65535 : Int32)).toUInt32.toUInt16.toUInt32.toInt32) := ⟨_, rfl⟩
    rw [← ge685]
    have gp686 : ¬ (c1 < (0 : Int32)) := by rw [ge685]; exact (rng16 _).1
    have gp687 : ¬ ((65535 : Int32) < c1) := by rw [ge685]; exact (rng16 _).2
    show Go _ _ _ _ (T0.setTop (mkF m 17 #[.val (.int p0), .val (.int p1), .val (.int p2), .val (.int p3), .val (.int (2 : Int32)), .val (.int c0), .unset, .unset, .unset, .unset] [(.int c1)]))
    refine sIw X0 hx (hb hby at_17) (q := 19) rfl (Ls' := #[.val (.int p0), .val (.int p1), .val (.int p2), .val (.int p3), .val (.int (2 : Int32)), .val (.int c0), .val (.int c1), .unset, .unset, .unset]) rfl ?_
    refine iL X0 hx (hb hby at_19) (q := 20) rfl rfl ?_
    refine g_ldcI X0 hx (a1 := #[]) hZ0 hown0 (wd0 hw) (hb hby at_20) (q := 22) rfl ?_
    refine g_iand X0 hx (hb hby at_22) (q := 23) rfl rfl ?_
    refine g_i2c X0 hx (hb hby at_23) (q := 24) rfl rfl ?_
    obtain ⟨c2, ge688⟩ : ∃ c, c = ((p3 &&& (65535 : Int32)).toUInt32.toUInt16.toUInt32.toInt32) := ⟨_, rfl⟩
    rw [← ge688]
    have gp689 : ¬ (c2 < (0 : Int32)) := by rw [ge688]; exact (rng16 _).1
    have gp690 : ¬ ((65535 : Int32) < c2) := by rw [ge688]; exact (rng16 _).2
    show Go _ _ _ _ (T0.setTop (mkF m 24 #[.val (.int p0), .val (.int p1), .val (.int p2), .val (.int p3), .val (.int (2 : Int32)), .val (.int c0), .val (.int c1), .unset, .unset, .unset] [(.int c2)]))
    refine sIw X0 hx (hb hby at_24) (q := 26) rfl (Ls' := #[.val (.int p0), .val (.int p1), .val (.int p2), .val (.int p3), .val (.int (2 : Int32)), .val (.int c0), .val (.int c1), .val (.int c2), .unset, .unset]) rfl ?_
    rcases four c0 with ⟨k691a, k691b, k691c⟩ | ⟨k692a, k692b, k692c⟩ | ⟨k693a, k693b, k693c⟩ | ⟨k694a, k694b, k694c⟩
    · rcases four c1 with ⟨k695a, k695b, k695c⟩ | ⟨k696a, k696b, k696c⟩ | ⟨k697a, k697b, k697c⟩ | ⟨k698a, k698b, k698c⟩
      · show Go _ _ _ _ (T0.setTop (mkF m 26 #[.val (.int p0), .val (.int p1), .val (.int p2), .val (.int p3), .val (.int (2 : Int32)), .val (.int c0), .val (.int c1), .val (.int c2), .unset, .unset] []))
        refine g_new X0 hx hZ0 hown0 (wd1 hw) (wd2 hw) (wd3 hw) (by decide) (by decide) e0 (hb hby at_26) (q := 29) rfl ?_
        intro T699 h699 b699 g699 X699 e699 E699 A699 D699
        have sf700 : Safe Z EL v0 h0 b699 := Safe.new (Nat.le_of_eq g699.symm)
        have F699_21 := D699 (Or.inr (wd21 hw)) (ty := (.array .byte)) (by decide)
        have F699_22 := D699 (Or.inr (wd22 hw)) (ty := .byte) (by decide)
        refine g_dup X699 hx (hb hby at_29) (q := 30) rfl rfl ?_
        refine iLw X699 hx (hb hby at_30) (q := 32) rfl rfl ?_
        refine iLw X699 hx (hb hby at_32) (q := 34) rfl rfl ?_
        refine iLw X699 hx (hb hby at_34) (q := 36) rfl rfl ?_
        refine iLw X699 hx (hb hby at_36) (q := 38) rfl rfl ?_
        have f702 : Old Z Z.heap.size h699 := O0.ext E699
        refine g_st X699 hx hZ0 hown0 (wd4 hw) (wd5 hw) (wd6 hw) (wd7 hw) (by decide) e699 (Con.back (W := 2) (rm_chars2 l Z a0 hw zC SC PC vF rF SF SA SH SL c0 c1 c2 h699 f702 gp683 gp684 gp686 gp687 gp689 gp690) hZ0 (wd7 hw) (wd6 hw) (by decide) (by decide)) (by rw [hml]; rfl) (lenOf pd16 rfl) rfl (Nat.le_of_eq rfl) (hb hby at_38) (q := 41) rfl (by decide) (by decide) ?_
        intro v701 T701 L701 X701 Q701
        obtain ⟨a_701, kc_701, rfl, Nq701, K701q, q701_0, q701_1⟩ := Q701
        have N701 := Fr.app N0 Nq701
        show Go _ _ _ _ (T701.setTop (mkF m 41 #[.val (.int p0), .val (.int p1), .val (.int p2), .val (.int p3), .val (.int (2 : Int32)), .val (.int c0), .val (.int c1), .val (.int c2), .unset, .unset] [(.ref a_701), (.ref b699), (.ref b699)]))
        have f704 : Old Z Z.heap.size T701.heap := f702.keep K701q all0
        have gz705 : Z.heap.size ≤ b699 := Nat.le_trans O0.2.1 (Nat.le_of_eq g699.symm)
        have f706 : Exa Z T701.heap b699 "java/lang/String" := A699.keep K701q
        have f707 : Fld Z T701.heap b699 "java/lang/String" "value" "[B" .null := F699_21.keep K701q nin0
        have f708 : Fld Z T701.heap b699 "java/lang/String" "coder" "B" (.int (0 : Int32)) := F699_22.keep K701q nin0
        refine g_sp X701 hx hZ0 hown0 (wd9 hw) (wd10 hw) (wd11 hw) rfl (by decide) rfl (StrChars.Road.backV (W := 1) hZ0 (own_wStr hw) (kI := 4) (wd2 hw) (cs := ([c0, c1] : List Int32)) (bs := (([c0, c1] : List Int32).map (fun c => c.toInt8.toInt32))) (n := 2) gz705 f704.2.1 f706 f707 f708 q701_1 (SC.ext f704.2) PC rfl rfl (by decide) (by decide) (alS ⟨gp683, k691c⟩ (alS ⟨gp686, k695c⟩ al0)) rfl (by decide) (by decide)) (a := b699) (argsL := [.ref a_701]) (W := 1) (nk := 1) (ns := 2) (Qc := StrChars.Road.QV Z b699 (2 : Int32) (([c0, c1] : List Int32).map (fun c => c.toInt8.toInt32)) T701.heap Z.heap.size) (by rw [hml]; rfl) (lenOf pd17 rfl) rfl (Nat.le_of_eq rfl) (hb hby at_41) (q := 44) rfl (by decide) (by decide) ?_
        intro v703 T703 L703 X703 Q703
        obtain ⟨rfl, Nq703, K703q, E703q, C703q, t703, kb703, tz703, tg703, tn703, Fv703, Va703⟩ := Q703
        have N703 := Fr.app N701 Nq703
        have Vb703 : Arv Z T703.heap t703 kb703 .byte (2 : Int32) [(.int (StrChars.lo8 c0)), (.int (StrChars.lo8 c1))] (.int 0) := Va703
        show Go _ _ _ _ (T703.setTop (mkF m 44 #[.val (.int p0), .val (.int p1), .val (.int p2), .val (.int p3), .val (.int (2 : Int32)), .val (.int c0), .val (.int c1), .val (.int c2), .unset, .unset] [(.ref b699)]))
        refine sAw X703 hx (hb hby at_44) (q := 46) rfl rfl (Ls' := #[.val (.int p0), .val (.int p1), .val (.int p2), .val (.int p3), .val (.int (2 : Int32)), .val (.int c0), .val (.int c1), .val (.int c2), .val (.ref b699), .unset]) rfl ?_
        refine iLw X703 hx (hb hby at_46) (q := 48) rfl rfl ?_
        refine cI X703 hx (hb hby at_48) (q := 49) rfl (z := (2 : Int32)) rfl ?_
        refine icN X703 hx (hb hby at_49) (q := 52) rfl (by decide) ?_
        refine iLw X703 hx (hb hby at_52) (q := 54) rfl rfl ?_
        have f710 : Old Z Z.heap.size T703.heap := f704.keep K703q (allS gz705 all0)
        refine g_st X703 hx hZ0 hown0 (wd71 hw) (wd72 hw) (wd6 hw) (wd73 hw) (by decide) rfl (Con.back (W := 0) (rm_low2 l Z a0 hw zC SC PC vF rF SF SA SH SL c0 T703.heap f710 gp683 gp684 k691a) hZ0 (wd73 hw) (wd6 hw) (by decide) (by decide)) (by rw [hml]; rfl) (lenOf pd19 rfl) rfl (Nat.le_of_eq rfl) (hb hby at_54) (q := 57) rfl (by decide) (by decide) ?_
        intro v709 T709 L709 X709 Q709
        obtain ⟨rfl, Nq709, e709⟩ := Q709
        have N709 := Fr.app N703 Nq709
        show Go _ _ _ _ (T709.setTop (mkF m 57 #[.val (.int p0), .val (.int p1), .val (.int p2), .val (.int p3), .val (.int (2 : Int32)), .val (.int c0), .val (.int c1), .val (.int c2), .val (.ref b699), .unset] [(.int (0 : Int32))]))
        refine ifY X709 hx (hb hby at_57) (q := 72) (by decide) (by decide) (by decide) ?_
        refine cI X709 hx (hb hby at_72) (q := 73) rfl (z := (0 : Int32)) rfl ?_
        refine sIw X709 hx (hb hby at_73) (q := 75) rfl (Ls' := #[.val (.int p0), .val (.int p1), .val (.int p2), .val (.int p3), .val (.int (2 : Int32)), .val (.int c0), .val (.int c1), .val (.int c2), .val (.ref b699), .val (.int (0 : Int32))]) rfl ?_
        refine aLw X709 hx (hb hby at_75) (q := 77) rfl rfl rfl ?_
        refine g_st X709 hx hZ0 hown0 (wd27 hw) (wd28 hw) (wd29 hw) (wd30 hw) (by decide) e709 (Con.back (W := 0) (rm_ilc0a l Z a0 hw zC SC PC vF rF SF SA SH SL b699 t703 kb703 c0 c1 T703.heap f710 E703q C703q Fv703 Vb703 gp683 gp684 gp686 gp687 k691c k695c k691a) hZ0 (wd30 hw) (wd29 hw) (by decide) (by decide)) (by rw [hml]; rfl) (lenOf pd18 rfl) rfl (Nat.le_of_eq rfl) (hb hby at_77) (q := 80) rfl (by decide) (by decide) ?_
        intro v711 T711 L711 X711 Q711
        obtain ⟨rfl, Nq711, e711⟩ := Q711
        have N711 := Fr.app N709 Nq711
        show Go _ _ _ _ (T711.setTop (mkF m 80 #[.val (.int p0), .val (.int p1), .val (.int p2), .val (.int p3), .val (.int (2 : Int32)), .val (.int c0), .val (.int c1), .val (.int c2), .val (.ref b699), .val (.int (0 : Int32))] [(.int (0 : Int32))]))
        refine iLw X711 hx (hb hby at_80) (q := 82) rfl rfl ?_
        refine icN X711 hx (hb hby at_82) (q := 85) rfl (by decide) ?_
        refine cI X711 hx (hb hby at_85) (q := 86) rfl (z := (1 : Int32)) rfl ?_
        refine g_goto X711 hx (hb hby at_86) (q := 90) (by decide) (by decide) ?_
        have K712 : Keep h0 h699 [] := (Keep.refl h0 []).ext E699
        have K713 : Keep h0 T701.heap [] := K712.trans K701q all0
        have gh714 : h0.size ≤ b699 := Nat.le_trans (Nat.le_refl _) (Nat.le_of_eq g699.symm)
        have K715 : Keep h0 T703.heap [] := K713.trans K703q (allS (Or.inr gh714) all0)
        have f716 : CHr Z EL s.vm s.heap v0 h699 := C0.trans (CHr.ext E699 C0.1)
        have f717 : CHr Z EL s.vm s.heap v0 T701.heap := f716.trans (CHr.keep K701q sf0 f716.1)
        have f718 : Safe Z EL v0 h699 b699 := Safe.ext E699 C0.1 sf700
        have f719 : Safe Z EL v0 T701.heap b699 := Safe.keep K701q sf0 f716.1 f718
        have f720 : CHr Z EL s.vm s.heap v0 T703.heap := f717.trans (CHr.keep K703q (sfS f719 sf0) f717.1)
        refine endC X711 hlk hS0 (by rw [e711]; exact (Nat.zero_le _)) hZ0 (own_EW hw) (by rw [e711]; exact f720) (fun h => by rw [hret] at h; cases h) (lastN X711 hx (t := .boolean) (z' := (1 : Int32)) hret (by simp) (by decide) (hb hby at_90)) ?_ (by decide) (by decide)
        rw [e711]
        exact ⟨rfl, N711, K715⟩
      · show Go _ _ _ _ (T0.setTop (mkF m 26 #[.val (.int p0), .val (.int p1), .val (.int p2), .val (.int p3), .val (.int (2 : Int32)), .val (.int c0), .val (.int c1), .val (.int c2), .unset, .unset] []))
        refine g_new X0 hx hZ0 hown0 (wd1 hw) (wd2 hw) (wd3 hw) (by decide) (by decide) e0 (hb hby at_26) (q := 29) rfl ?_
        intro T721 h721 b721 g721 X721 e721 E721 A721 D721
        have sf722 : Safe Z EL v0 h0 b721 := Safe.new (Nat.le_of_eq g721.symm)
        have F721_21 := D721 (Or.inr (wd21 hw)) (ty := (.array .byte)) (by decide)
        have F721_22 := D721 (Or.inr (wd22 hw)) (ty := .byte) (by decide)
        refine g_dup X721 hx (hb hby at_29) (q := 30) rfl rfl ?_
        refine iLw X721 hx (hb hby at_30) (q := 32) rfl rfl ?_
        refine iLw X721 hx (hb hby at_32) (q := 34) rfl rfl ?_
        refine iLw X721 hx (hb hby at_34) (q := 36) rfl rfl ?_
        refine iLw X721 hx (hb hby at_36) (q := 38) rfl rfl ?_
        have f724 : Old Z Z.heap.size h721 := O0.ext E721
        refine g_st X721 hx hZ0 hown0 (wd4 hw) (wd5 hw) (wd6 hw) (wd7 hw) (by decide) e721 (Con.back (W := 2) (rm_chars2 l Z a0 hw zC SC PC vF rF SF SA SH SL c0 c1 c2 h721 f724 gp683 gp684 gp686 gp687 gp689 gp690) hZ0 (wd7 hw) (wd6 hw) (by decide) (by decide)) (by rw [hml]; rfl) (lenOf pd16 rfl) rfl (Nat.le_of_eq rfl) (hb hby at_38) (q := 41) rfl (by decide) (by decide) ?_
        intro v723 T723 L723 X723 Q723
        obtain ⟨a_723, kc_723, rfl, Nq723, K723q, q723_0, q723_1⟩ := Q723
        have N723 := Fr.app N0 Nq723
        show Go _ _ _ _ (T723.setTop (mkF m 41 #[.val (.int p0), .val (.int p1), .val (.int p2), .val (.int p3), .val (.int (2 : Int32)), .val (.int c0), .val (.int c1), .val (.int c2), .unset, .unset] [(.ref a_723), (.ref b721), (.ref b721)]))
        have f726 : Old Z Z.heap.size T723.heap := f724.keep K723q all0
        have gz727 : Z.heap.size ≤ b721 := Nat.le_trans O0.2.1 (Nat.le_of_eq g721.symm)
        have f728 : Exa Z T723.heap b721 "java/lang/String" := A721.keep K723q
        have f729 : Fld Z T723.heap b721 "java/lang/String" "value" "[B" .null := F721_21.keep K723q nin0
        have f730 : Fld Z T723.heap b721 "java/lang/String" "coder" "B" (.int (0 : Int32)) := F721_22.keep K723q nin0
        refine g_sp X723 hx hZ0 hown0 (wd9 hw) (wd10 hw) (wd11 hw) rfl (by decide) rfl (StrChars.Road.backV (W := 1) hZ0 (own_wStr hw) (kI := 4) (wd2 hw) (cs := ([c0, c1] : List Int32)) (bs := (([c0, c1] : List Int32).map (fun c => c.toInt8.toInt32))) (n := 2) gz727 f726.2.1 f728 f729 f730 q723_1 (SC.ext f726.2) PC rfl rfl (by decide) (by decide) (alS ⟨gp683, k691c⟩ (alS ⟨gp686, k696c⟩ al0)) rfl (by decide) (by decide)) (a := b721) (argsL := [.ref a_723]) (W := 1) (nk := 1) (ns := 2) (Qc := StrChars.Road.QV Z b721 (2 : Int32) (([c0, c1] : List Int32).map (fun c => c.toInt8.toInt32)) T723.heap Z.heap.size) (by rw [hml]; rfl) (lenOf pd17 rfl) rfl (Nat.le_of_eq rfl) (hb hby at_41) (q := 44) rfl (by decide) (by decide) ?_
        intro v725 T725 L725 X725 Q725
        obtain ⟨rfl, Nq725, K725q, E725q, C725q, t725, kb725, tz725, tg725, tn725, Fv725, Va725⟩ := Q725
        have N725 := Fr.app N723 Nq725
        have Vb725 : Arv Z T725.heap t725 kb725 .byte (2 : Int32) [(.int (StrChars.lo8 c0)), (.int (StrChars.lo8 c1))] (.int 0) := Va725
        show Go _ _ _ _ (T725.setTop (mkF m 44 #[.val (.int p0), .val (.int p1), .val (.int p2), .val (.int p3), .val (.int (2 : Int32)), .val (.int c0), .val (.int c1), .val (.int c2), .unset, .unset] [(.ref b721)]))
        refine sAw X725 hx (hb hby at_44) (q := 46) rfl rfl (Ls' := #[.val (.int p0), .val (.int p1), .val (.int p2), .val (.int p3), .val (.int (2 : Int32)), .val (.int c0), .val (.int c1), .val (.int c2), .val (.ref b721), .unset]) rfl ?_
        refine iLw X725 hx (hb hby at_46) (q := 48) rfl rfl ?_
        refine cI X725 hx (hb hby at_48) (q := 49) rfl (z := (2 : Int32)) rfl ?_
        refine icN X725 hx (hb hby at_49) (q := 52) rfl (by decide) ?_
        refine iLw X725 hx (hb hby at_52) (q := 54) rfl rfl ?_
        have f732 : Old Z Z.heap.size T725.heap := f726.keep K725q (allS gz727 all0)
        refine g_st X725 hx hZ0 hown0 (wd71 hw) (wd72 hw) (wd6 hw) (wd73 hw) (by decide) rfl (Con.back (W := 0) (rm_low2 l Z a0 hw zC SC PC vF rF SF SA SH SL c0 T725.heap f732 gp683 gp684 k691a) hZ0 (wd73 hw) (wd6 hw) (by decide) (by decide)) (by rw [hml]; rfl) (lenOf pd19 rfl) rfl (Nat.le_of_eq rfl) (hb hby at_54) (q := 57) rfl (by decide) (by decide) ?_
        intro v731 T731 L731 X731 Q731
        obtain ⟨rfl, Nq731, e731⟩ := Q731
        have N731 := Fr.app N725 Nq731
        show Go _ _ _ _ (T731.setTop (mkF m 57 #[.val (.int p0), .val (.int p1), .val (.int p2), .val (.int p3), .val (.int (2 : Int32)), .val (.int c0), .val (.int c1), .val (.int c2), .val (.ref b721), .unset] [(.int (0 : Int32))]))
        refine ifY X731 hx (hb hby at_57) (q := 72) (by decide) (by decide) (by decide) ?_
        refine cI X731 hx (hb hby at_72) (q := 73) rfl (z := (0 : Int32)) rfl ?_
        refine sIw X731 hx (hb hby at_73) (q := 75) rfl (Ls' := #[.val (.int p0), .val (.int p1), .val (.int p2), .val (.int p3), .val (.int (2 : Int32)), .val (.int c0), .val (.int c1), .val (.int c2), .val (.ref b721), .val (.int (0 : Int32))]) rfl ?_
        refine aLw X731 hx (hb hby at_75) (q := 77) rfl rfl rfl ?_
        refine g_st X731 hx hZ0 hown0 (wd27 hw) (wd28 hw) (wd29 hw) (wd30 hw) (by decide) e731 (Con.back (W := 0) (rm_ilc0a l Z a0 hw zC SC PC vF rF SF SA SH SL b721 t725 kb725 c0 c1 T725.heap f732 E725q C725q Fv725 Vb725 gp683 gp684 gp686 gp687 k691c k696c k691a) hZ0 (wd30 hw) (wd29 hw) (by decide) (by decide)) (by rw [hml]; rfl) (lenOf pd18 rfl) rfl (Nat.le_of_eq rfl) (hb hby at_77) (q := 80) rfl (by decide) (by decide) ?_
        intro v733 T733 L733 X733 Q733
        obtain ⟨rfl, Nq733, e733⟩ := Q733
        have N733 := Fr.app N731 Nq733
        show Go _ _ _ _ (T733.setTop (mkF m 80 #[.val (.int p0), .val (.int p1), .val (.int p2), .val (.int p3), .val (.int (2 : Int32)), .val (.int c0), .val (.int c1), .val (.int c2), .val (.ref b721), .val (.int (0 : Int32))] [(.int (0 : Int32))]))
        refine iLw X733 hx (hb hby at_80) (q := 82) rfl rfl ?_
        refine icN X733 hx (hb hby at_82) (q := 85) rfl (by decide) ?_
        refine cI X733 hx (hb hby at_85) (q := 86) rfl (z := (1 : Int32)) rfl ?_
        refine g_goto X733 hx (hb hby at_86) (q := 90) (by decide) (by decide) ?_
        have K734 : Keep h0 h721 [] := (Keep.refl h0 []).ext E721
        have K735 : Keep h0 T723.heap [] := K734.trans K723q all0
        have gh736 : h0.size ≤ b721 := Nat.le_trans (Nat.le_refl _) (Nat.le_of_eq g721.symm)
        have K737 : Keep h0 T725.heap [] := K735.trans K725q (allS (Or.inr gh736) all0)
        have f738 : CHr Z EL s.vm s.heap v0 h721 := C0.trans (CHr.ext E721 C0.1)
        have f739 : CHr Z EL s.vm s.heap v0 T723.heap := f738.trans (CHr.keep K723q sf0 f738.1)
        have f740 : Safe Z EL v0 h721 b721 := Safe.ext E721 C0.1 sf722
        have f741 : Safe Z EL v0 T723.heap b721 := Safe.keep K723q sf0 f738.1 f740
        have f742 : CHr Z EL s.vm s.heap v0 T725.heap := f739.trans (CHr.keep K725q (sfS f741 sf0) f739.1)
        refine endC X733 hlk hS0 (by rw [e733]; exact (Nat.zero_le _)) hZ0 (own_EW hw) (by rw [e733]; exact f742) (fun h => by rw [hret] at h; cases h) (lastN X733 hx (t := .boolean) (z' := (1 : Int32)) hret (by simp) (by decide) (hb hby at_90)) ?_ (by decide) (by decide)
        rw [e733]
        exact ⟨rfl, N733, K737⟩
      · show Go _ _ _ _ (T0.setTop (mkF m 26 #[.val (.int p0), .val (.int p1), .val (.int p2), .val (.int p3), .val (.int (2 : Int32)), .val (.int c0), .val (.int c1), .val (.int c2), .unset, .unset] []))
        refine g_new X0 hx hZ0 hown0 (wd1 hw) (wd2 hw) (wd3 hw) (by decide) (by decide) e0 (hb hby at_26) (q := 29) rfl ?_
        intro T743 h743 b743 g743 X743 e743 E743 A743 D743
        have sf744 : Safe Z EL v0 h0 b743 := Safe.new (Nat.le_of_eq g743.symm)
        have F743_21 := D743 (Or.inr (wd21 hw)) (ty := (.array .byte)) (by decide)
        have F743_22 := D743 (Or.inr (wd22 hw)) (ty := .byte) (by decide)
        refine g_dup X743 hx (hb hby at_29) (q := 30) rfl rfl ?_
        refine iLw X743 hx (hb hby at_30) (q := 32) rfl rfl ?_
        refine iLw X743 hx (hb hby at_32) (q := 34) rfl rfl ?_
        refine iLw X743 hx (hb hby at_34) (q := 36) rfl rfl ?_
        refine iLw X743 hx (hb hby at_36) (q := 38) rfl rfl ?_
        have f746 : Old Z Z.heap.size h743 := O0.ext E743
        refine g_st X743 hx hZ0 hown0 (wd4 hw) (wd5 hw) (wd6 hw) (wd7 hw) (by decide) e743 (Con.back (W := 2) (rm_chars2 l Z a0 hw zC SC PC vF rF SF SA SH SL c0 c1 c2 h743 f746 gp683 gp684 gp686 gp687 gp689 gp690) hZ0 (wd7 hw) (wd6 hw) (by decide) (by decide)) (by rw [hml]; rfl) (lenOf pd16 rfl) rfl (Nat.le_of_eq rfl) (hb hby at_38) (q := 41) rfl (by decide) (by decide) ?_
        intro v745 T745 L745 X745 Q745
        obtain ⟨a_745, kc_745, rfl, Nq745, K745q, q745_0, q745_1⟩ := Q745
        have N745 := Fr.app N0 Nq745
        show Go _ _ _ _ (T745.setTop (mkF m 41 #[.val (.int p0), .val (.int p1), .val (.int p2), .val (.int p3), .val (.int (2 : Int32)), .val (.int c0), .val (.int c1), .val (.int c2), .unset, .unset] [(.ref a_745), (.ref b743), (.ref b743)]))
        have f748 : Old Z Z.heap.size T745.heap := f746.keep K745q all0
        have gz749 : Z.heap.size ≤ b743 := Nat.le_trans O0.2.1 (Nat.le_of_eq g743.symm)
        have f750 : Exa Z T745.heap b743 "java/lang/String" := A743.keep K745q
        have f751 : Fld Z T745.heap b743 "java/lang/String" "value" "[B" .null := F743_21.keep K745q nin0
        have f752 : Fld Z T745.heap b743 "java/lang/String" "coder" "B" (.int (0 : Int32)) := F743_22.keep K745q nin0
        refine g_sp X745 hx hZ0 hown0 (wd9 hw) (wd10 hw) (wd11 hw) rfl (by decide) rfl (StrChars.Road.backV (W := 1) hZ0 (own_wStr hw) (kI := 4) (wd2 hw) (cs := ([c0, c1] : List Int32)) (bs := (([c0, c1] : List Int32).map (fun c => c.toInt8.toInt32))) (n := 2) gz749 f748.2.1 f750 f751 f752 q745_1 (SC.ext f748.2) PC rfl rfl (by decide) (by decide) (alS ⟨gp683, k691c⟩ (alS ⟨gp686, k697c⟩ al0)) rfl (by decide) (by decide)) (a := b743) (argsL := [.ref a_745]) (W := 1) (nk := 1) (ns := 2) (Qc := StrChars.Road.QV Z b743 (2 : Int32) (([c0, c1] : List Int32).map (fun c => c.toInt8.toInt32)) T745.heap Z.heap.size) (by rw [hml]; rfl) (lenOf pd17 rfl) rfl (Nat.le_of_eq rfl) (hb hby at_41) (q := 44) rfl (by decide) (by decide) ?_
        intro v747 T747 L747 X747 Q747
        obtain ⟨rfl, Nq747, K747q, E747q, C747q, t747, kb747, tz747, tg747, tn747, Fv747, Va747⟩ := Q747
        have N747 := Fr.app N745 Nq747
        have Vb747 : Arv Z T747.heap t747 kb747 .byte (2 : Int32) [(.int (StrChars.lo8 c0)), (.int (StrChars.lo8 c1))] (.int 0) := Va747
        show Go _ _ _ _ (T747.setTop (mkF m 44 #[.val (.int p0), .val (.int p1), .val (.int p2), .val (.int p3), .val (.int (2 : Int32)), .val (.int c0), .val (.int c1), .val (.int c2), .unset, .unset] [(.ref b743)]))
        refine sAw X747 hx (hb hby at_44) (q := 46) rfl rfl (Ls' := #[.val (.int p0), .val (.int p1), .val (.int p2), .val (.int p3), .val (.int (2 : Int32)), .val (.int c0), .val (.int c1), .val (.int c2), .val (.ref b743), .unset]) rfl ?_
        refine iLw X747 hx (hb hby at_46) (q := 48) rfl rfl ?_
        refine cI X747 hx (hb hby at_48) (q := 49) rfl (z := (2 : Int32)) rfl ?_
        refine icN X747 hx (hb hby at_49) (q := 52) rfl (by decide) ?_
        refine iLw X747 hx (hb hby at_52) (q := 54) rfl rfl ?_
        have f754 : Old Z Z.heap.size T747.heap := f748.keep K747q (allS gz749 all0)
        refine g_st X747 hx hZ0 hown0 (wd71 hw) (wd72 hw) (wd6 hw) (wd73 hw) (by decide) rfl (Con.back (W := 0) (rm_low2 l Z a0 hw zC SC PC vF rF SF SA SH SL c0 T747.heap f754 gp683 gp684 k691a) hZ0 (wd73 hw) (wd6 hw) (by decide) (by decide)) (by rw [hml]; rfl) (lenOf pd19 rfl) rfl (Nat.le_of_eq rfl) (hb hby at_54) (q := 57) rfl (by decide) (by decide) ?_
        intro v753 T753 L753 X753 Q753
        obtain ⟨rfl, Nq753, e753⟩ := Q753
        have N753 := Fr.app N747 Nq753
        show Go _ _ _ _ (T753.setTop (mkF m 57 #[.val (.int p0), .val (.int p1), .val (.int p2), .val (.int p3), .val (.int (2 : Int32)), .val (.int c0), .val (.int c1), .val (.int c2), .val (.ref b743), .unset] [(.int (0 : Int32))]))
        refine ifY X753 hx (hb hby at_57) (q := 72) (by decide) (by decide) (by decide) ?_
        refine cI X753 hx (hb hby at_72) (q := 73) rfl (z := (0 : Int32)) rfl ?_
        refine sIw X753 hx (hb hby at_73) (q := 75) rfl (Ls' := #[.val (.int p0), .val (.int p1), .val (.int p2), .val (.int p3), .val (.int (2 : Int32)), .val (.int c0), .val (.int c1), .val (.int c2), .val (.ref b743), .val (.int (0 : Int32))]) rfl ?_
        refine aLw X753 hx (hb hby at_75) (q := 77) rfl rfl rfl ?_
        refine g_st X753 hx hZ0 hown0 (wd27 hw) (wd28 hw) (wd29 hw) (wd30 hw) (by decide) e753 (Con.back (W := 0) (rm_ilc0a l Z a0 hw zC SC PC vF rF SF SA SH SL b743 t747 kb747 c0 c1 T747.heap f754 E747q C747q Fv747 Vb747 gp683 gp684 gp686 gp687 k691c k697c k691a) hZ0 (wd30 hw) (wd29 hw) (by decide) (by decide)) (by rw [hml]; rfl) (lenOf pd18 rfl) rfl (Nat.le_of_eq rfl) (hb hby at_77) (q := 80) rfl (by decide) (by decide) ?_
        intro v755 T755 L755 X755 Q755
        obtain ⟨rfl, Nq755, e755⟩ := Q755
        have N755 := Fr.app N753 Nq755
        show Go _ _ _ _ (T755.setTop (mkF m 80 #[.val (.int p0), .val (.int p1), .val (.int p2), .val (.int p3), .val (.int (2 : Int32)), .val (.int c0), .val (.int c1), .val (.int c2), .val (.ref b743), .val (.int (0 : Int32))] [(.int (0 : Int32))]))
        refine iLw X755 hx (hb hby at_80) (q := 82) rfl rfl ?_
        refine icN X755 hx (hb hby at_82) (q := 85) rfl (by decide) ?_
        refine cI X755 hx (hb hby at_85) (q := 86) rfl (z := (1 : Int32)) rfl ?_
        refine g_goto X755 hx (hb hby at_86) (q := 90) (by decide) (by decide) ?_
        have K756 : Keep h0 h743 [] := (Keep.refl h0 []).ext E743
        have K757 : Keep h0 T745.heap [] := K756.trans K745q all0
        have gh758 : h0.size ≤ b743 := Nat.le_trans (Nat.le_refl _) (Nat.le_of_eq g743.symm)
        have K759 : Keep h0 T747.heap [] := K757.trans K747q (allS (Or.inr gh758) all0)
        have f760 : CHr Z EL s.vm s.heap v0 h743 := C0.trans (CHr.ext E743 C0.1)
        have f761 : CHr Z EL s.vm s.heap v0 T745.heap := f760.trans (CHr.keep K745q sf0 f760.1)
        have f762 : Safe Z EL v0 h743 b743 := Safe.ext E743 C0.1 sf744
        have f763 : Safe Z EL v0 T745.heap b743 := Safe.keep K745q sf0 f760.1 f762
        have f764 : CHr Z EL s.vm s.heap v0 T747.heap := f761.trans (CHr.keep K747q (sfS f763 sf0) f761.1)
        refine endC X755 hlk hS0 (by rw [e755]; exact (Nat.zero_le _)) hZ0 (own_EW hw) (by rw [e755]; exact f764) (fun h => by rw [hret] at h; cases h) (lastN X755 hx (t := .boolean) (z' := (1 : Int32)) hret (by simp) (by decide) (hb hby at_90)) ?_ (by decide) (by decide)
        rw [e755]
        exact ⟨rfl, N755, K759⟩
      · show Go _ _ _ _ (T0.setTop (mkF m 26 #[.val (.int p0), .val (.int p1), .val (.int p2), .val (.int p3), .val (.int (2 : Int32)), .val (.int c0), .val (.int c1), .val (.int c2), .unset, .unset] []))
        refine g_new X0 hx hZ0 hown0 (wd1 hw) (wd2 hw) (wd3 hw) (by decide) (by decide) e0 (hb hby at_26) (q := 29) rfl ?_
        intro T765 h765 b765 g765 X765 e765 E765 A765 D765
        have sf766 : Safe Z EL v0 h0 b765 := Safe.new (Nat.le_of_eq g765.symm)
        have F765_21 := D765 (Or.inr (wd21 hw)) (ty := (.array .byte)) (by decide)
        have F765_22 := D765 (Or.inr (wd22 hw)) (ty := .byte) (by decide)
        refine g_dup X765 hx (hb hby at_29) (q := 30) rfl rfl ?_
        refine iLw X765 hx (hb hby at_30) (q := 32) rfl rfl ?_
        refine iLw X765 hx (hb hby at_32) (q := 34) rfl rfl ?_
        refine iLw X765 hx (hb hby at_34) (q := 36) rfl rfl ?_
        refine iLw X765 hx (hb hby at_36) (q := 38) rfl rfl ?_
        have f768 : Old Z Z.heap.size h765 := O0.ext E765
        refine g_st X765 hx hZ0 hown0 (wd4 hw) (wd5 hw) (wd6 hw) (wd7 hw) (by decide) e765 (Con.back (W := 2) (rm_chars2 l Z a0 hw zC SC PC vF rF SF SA SH SL c0 c1 c2 h765 f768 gp683 gp684 gp686 gp687 gp689 gp690) hZ0 (wd7 hw) (wd6 hw) (by decide) (by decide)) (by rw [hml]; rfl) (lenOf pd16 rfl) rfl (Nat.le_of_eq rfl) (hb hby at_38) (q := 41) rfl (by decide) (by decide) ?_
        intro v767 T767 L767 X767 Q767
        obtain ⟨a_767, kc_767, rfl, Nq767, K767q, q767_0, q767_1⟩ := Q767
        have N767 := Fr.app N0 Nq767
        show Go _ _ _ _ (T767.setTop (mkF m 41 #[.val (.int p0), .val (.int p1), .val (.int p2), .val (.int p3), .val (.int (2 : Int32)), .val (.int c0), .val (.int c1), .val (.int c2), .unset, .unset] [(.ref a_767), (.ref b765), (.ref b765)]))
        have f789 : Exa Z T767.heap b765 "java/lang/String" := A765.keep K767q
        have f790 : Fld Z T767.heap b765 "java/lang/String" "value" "[B" .null := F765_21.keep K767q nin0
        have f791 : Fld Z T767.heap b765 "java/lang/String" "coder" "B" (.int (0 : Int32)) := F765_22.keep K767q nin0
        have gz792 : Z.heap.size ≤ b765 := Nat.le_trans O0.2.1 (Nat.le_of_eq g765.symm)
        have f793 : Old Z Z.heap.size T767.heap := f768.keep K767q all0
        refine g_sp X767 hx hZ0 hown0 (wd9 hw) (wd10 hw) (wd11 hw) rfl (by decide) rfl (Con.back (W := 1) (rm_new1w_2_1 l Z a0 hw zC SC PC vF rF SF SA SH SL b765 a_767 kc_767 c0 c1 T767.heap f793 f789 f790 f791 gz792 q767_1 gp683 gp684 gp686 gp687 k691c k698c) hZ0 (wd11 hw) (wd3 hw) (by decide) (by decide)) (by rw [hml]; rfl) (lenOf pd17 rfl) rfl (Nat.le_of_eq rfl) (hb hby at_41) (q := 44) rfl (by decide) (by decide) ?_
        intro v788 T788 L788 X788 Q788
        obtain ⟨t_788, kb_788, rfl, Nq788, K788q, q788_0, q788_1, q788_2, q788_3, q788_4⟩ := Q788
        have N788 := Fr.app N767 Nq788
        show Go _ _ _ _ (T788.setTop (mkF m 44 #[.val (.int p0), .val (.int p1), .val (.int p2), .val (.int p3), .val (.int (2 : Int32)), .val (.int c0), .val (.int c1), .val (.int c2), .unset, .unset] [(.ref b765)]))
        refine sAw X788 hx (hb hby at_44) (q := 46) rfl rfl (Ls' := #[.val (.int p0), .val (.int p1), .val (.int p2), .val (.int p3), .val (.int (2 : Int32)), .val (.int c0), .val (.int c1), .val (.int c2), .val (.ref b765), .unset]) rfl ?_
        refine iLw X788 hx (hb hby at_46) (q := 48) rfl rfl ?_
        refine cI X788 hx (hb hby at_48) (q := 49) rfl (z := (2 : Int32)) rfl ?_
        refine icN X788 hx (hb hby at_49) (q := 52) rfl (by decide) ?_
        refine iLw X788 hx (hb hby at_52) (q := 54) rfl rfl ?_
        have f795 : Old Z Z.heap.size T788.heap := f793.keep K788q (allS gz792 all0)
        refine g_st X788 hx hZ0 hown0 (wd71 hw) (wd72 hw) (wd6 hw) (wd73 hw) (by decide) rfl (Con.back (W := 0) (rm_low2 l Z a0 hw zC SC PC vF rF SF SA SH SL c0 T788.heap f795 gp683 gp684 k691a) hZ0 (wd73 hw) (wd6 hw) (by decide) (by decide)) (by rw [hml]; rfl) (lenOf pd19 rfl) rfl (Nat.le_of_eq rfl) (hb hby at_54) (q := 57) rfl (by decide) (by decide) ?_
        intro v794 T794 L794 X794 Q794
        obtain ⟨rfl, Nq794, e794⟩ := Q794
        have N794 := Fr.app N788 Nq794
        show Go _ _ _ _ (T794.setTop (mkF m 57 #[.val (.int p0), .val (.int p1), .val (.int p2), .val (.int p3), .val (.int (2 : Int32)), .val (.int c0), .val (.int c1), .val (.int c2), .val (.ref b765), .unset] [(.int (0 : Int32))]))
        refine ifY X794 hx (hb hby at_57) (q := 72) (by decide) (by decide) (by decide) ?_
        refine cI X794 hx (hb hby at_72) (q := 73) rfl (z := (0 : Int32)) rfl ?_
        refine sIw X794 hx (hb hby at_73) (q := 75) rfl (Ls' := #[.val (.int p0), .val (.int p1), .val (.int p2), .val (.int p3), .val (.int (2 : Int32)), .val (.int c0), .val (.int c1), .val (.int c2), .val (.ref b765), .val (.int (0 : Int32))]) rfl ?_
        refine aLw X794 hx (hb hby at_75) (q := 77) rfl rfl rfl ?_
        refine g_st X794 hx hZ0 hown0 (wd27 hw) (wd28 hw) (wd29 hw) (wd30 hw) (by decide) e794 (Con.back (W := 0) (rm_ilc1a l Z a0 hw zC SC PC vF rF SF SA SH SL b765 t_788 kb_788 c0 c1 T788.heap f795 q788_1 q788_3 q788_2 q788_4 gp683 gp684 gp686 gp687 k691a) hZ0 (wd30 hw) (wd29 hw) (by decide) (by decide)) (by rw [hml]; rfl) (lenOf pd18 rfl) rfl (Nat.le_of_eq rfl) (hb hby at_77) (q := 80) rfl (by decide) (by decide) ?_
        intro v796 T796 L796 X796 Q796
        obtain ⟨rfl, Nq796, e796⟩ := Q796
        have N796 := Fr.app N794 Nq796
        show Go _ _ _ _ (T796.setTop (mkF m 80 #[.val (.int p0), .val (.int p1), .val (.int p2), .val (.int p3), .val (.int (2 : Int32)), .val (.int c0), .val (.int c1), .val (.int c2), .val (.ref b765), .val (.int (0 : Int32))] [(.int (0 : Int32))]))
        refine iLw X796 hx (hb hby at_80) (q := 82) rfl rfl ?_
        refine icN X796 hx (hb hby at_82) (q := 85) rfl (by decide) ?_
        refine cI X796 hx (hb hby at_85) (q := 86) rfl (z := (1 : Int32)) rfl ?_
        refine g_goto X796 hx (hb hby at_86) (q := 90) (by decide) (by decide) ?_
        have K797 : Keep h0 h765 [] := (Keep.refl h0 []).ext E765
        have K798 : Keep h0 T767.heap [] := K797.trans K767q all0
        have gh799 : h0.size ≤ b765 := Nat.le_trans (Nat.le_refl _) (Nat.le_of_eq g765.symm)
        have K800 : Keep h0 T788.heap [] := K798.trans K788q (allS (Or.inr gh799) all0)
        have f801 : CHr Z EL s.vm s.heap v0 h765 := C0.trans (CHr.ext E765 C0.1)
        have f802 : CHr Z EL s.vm s.heap v0 T767.heap := f801.trans (CHr.keep K767q sf0 f801.1)
        have f803 : Safe Z EL v0 h765 b765 := Safe.ext E765 C0.1 sf766
        have f804 : Safe Z EL v0 T767.heap b765 := Safe.keep K767q sf0 f801.1 f803
        have f805 : CHr Z EL s.vm s.heap v0 T788.heap := f802.trans (CHr.keep K788q (sfS f804 sf0) f802.1)
        refine endC X796 hlk hS0 (by rw [e796]; exact (Nat.zero_le _)) hZ0 (own_EW hw) (by rw [e796]; exact f805) (fun h => by rw [hret] at h; cases h) (lastN X796 hx (t := .boolean) (z' := (1 : Int32)) hret (by simp) (by decide) (hb hby at_90)) ?_ (by decide) (by decide)
        rw [e796]
        exact ⟨rfl, N796, K800⟩
    · rcases four c1 with ⟨k806a, k806b, k806c⟩ | ⟨k807a, k807b, k807c⟩ | ⟨k808a, k808b, k808c⟩ | ⟨k809a, k809b, k809c⟩
      · show Go _ _ _ _ (T0.setTop (mkF m 26 #[.val (.int p0), .val (.int p1), .val (.int p2), .val (.int p3), .val (.int (2 : Int32)), .val (.int c0), .val (.int c1), .val (.int c2), .unset, .unset] []))
        refine g_new X0 hx hZ0 hown0 (wd1 hw) (wd2 hw) (wd3 hw) (by decide) (by decide) e0 (hb hby at_26) (q := 29) rfl ?_
        intro T810 h810 b810 g810 X810 e810 E810 A810 D810
        have sf811 : Safe Z EL v0 h0 b810 := Safe.new (Nat.le_of_eq g810.symm)
        have F810_21 := D810 (Or.inr (wd21 hw)) (ty := (.array .byte)) (by decide)
        have F810_22 := D810 (Or.inr (wd22 hw)) (ty := .byte) (by decide)
        refine g_dup X810 hx (hb hby at_29) (q := 30) rfl rfl ?_
        refine iLw X810 hx (hb hby at_30) (q := 32) rfl rfl ?_
        refine iLw X810 hx (hb hby at_32) (q := 34) rfl rfl ?_
        refine iLw X810 hx (hb hby at_34) (q := 36) rfl rfl ?_
        refine iLw X810 hx (hb hby at_36) (q := 38) rfl rfl ?_
        have f813 : Old Z Z.heap.size h810 := O0.ext E810
        refine g_st X810 hx hZ0 hown0 (wd4 hw) (wd5 hw) (wd6 hw) (wd7 hw) (by decide) e810 (Con.back (W := 2) (rm_chars2 l Z a0 hw zC SC PC vF rF SF SA SH SL c0 c1 c2 h810 f813 gp683 gp684 gp686 gp687 gp689 gp690) hZ0 (wd7 hw) (wd6 hw) (by decide) (by decide)) (by rw [hml]; rfl) (lenOf pd16 rfl) rfl (Nat.le_of_eq rfl) (hb hby at_38) (q := 41) rfl (by decide) (by decide) ?_
        intro v812 T812 L812 X812 Q812
        obtain ⟨a_812, kc_812, rfl, Nq812, K812q, q812_0, q812_1⟩ := Q812
        have N812 := Fr.app N0 Nq812
        show Go _ _ _ _ (T812.setTop (mkF m 41 #[.val (.int p0), .val (.int p1), .val (.int p2), .val (.int p3), .val (.int (2 : Int32)), .val (.int c0), .val (.int c1), .val (.int c2), .unset, .unset] [(.ref a_812), (.ref b810), (.ref b810)]))
        have f815 : Old Z Z.heap.size T812.heap := f813.keep K812q all0
        have gz816 : Z.heap.size ≤ b810 := Nat.le_trans O0.2.1 (Nat.le_of_eq g810.symm)
        have f817 : Exa Z T812.heap b810 "java/lang/String" := A810.keep K812q
        have f818 : Fld Z T812.heap b810 "java/lang/String" "value" "[B" .null := F810_21.keep K812q nin0
        have f819 : Fld Z T812.heap b810 "java/lang/String" "coder" "B" (.int (0 : Int32)) := F810_22.keep K812q nin0
        refine g_sp X812 hx hZ0 hown0 (wd9 hw) (wd10 hw) (wd11 hw) rfl (by decide) rfl (StrChars.Road.backV (W := 1) hZ0 (own_wStr hw) (kI := 4) (wd2 hw) (cs := ([c0, c1] : List Int32)) (bs := (([c0, c1] : List Int32).map (fun c => c.toInt8.toInt32))) (n := 2) gz816 f815.2.1 f817 f818 f819 q812_1 (SC.ext f815.2) PC rfl rfl (by decide) (by decide) (alS ⟨gp683, k692c⟩ (alS ⟨gp686, k806c⟩ al0)) rfl (by decide) (by decide)) (a := b810) (argsL := [.ref a_812]) (W := 1) (nk := 1) (ns := 2) (Qc := StrChars.Road.QV Z b810 (2 : Int32) (([c0, c1] : List Int32).map (fun c => c.toInt8.toInt32)) T812.heap Z.heap.size) (by rw [hml]; rfl) (lenOf pd17 rfl) rfl (Nat.le_of_eq rfl) (hb hby at_41) (q := 44) rfl (by decide) (by decide) ?_
        intro v814 T814 L814 X814 Q814
        obtain ⟨rfl, Nq814, K814q, E814q, C814q, t814, kb814, tz814, tg814, tn814, Fv814, Va814⟩ := Q814
        have N814 := Fr.app N812 Nq814
        have Vb814 : Arv Z T814.heap t814 kb814 .byte (2 : Int32) [(.int (StrChars.lo8 c0)), (.int (StrChars.lo8 c1))] (.int 0) := Va814
        show Go _ _ _ _ (T814.setTop (mkF m 44 #[.val (.int p0), .val (.int p1), .val (.int p2), .val (.int p3), .val (.int (2 : Int32)), .val (.int c0), .val (.int c1), .val (.int c2), .unset, .unset] [(.ref b810)]))
        refine sAw X814 hx (hb hby at_44) (q := 46) rfl rfl (Ls' := #[.val (.int p0), .val (.int p1), .val (.int p2), .val (.int p3), .val (.int (2 : Int32)), .val (.int c0), .val (.int c1), .val (.int c2), .val (.ref b810), .unset]) rfl ?_
        refine iLw X814 hx (hb hby at_46) (q := 48) rfl rfl ?_
        refine cI X814 hx (hb hby at_48) (q := 49) rfl (z := (2 : Int32)) rfl ?_
        refine icN X814 hx (hb hby at_49) (q := 52) rfl (by decide) ?_
        refine iLw X814 hx (hb hby at_52) (q := 54) rfl rfl ?_
        have f821 : Old Z Z.heap.size T814.heap := f815.keep K814q (allS gz816 all0)
        refine g_st X814 hx hZ0 hown0 (wd71 hw) (wd72 hw) (wd6 hw) (wd73 hw) (by decide) rfl (Con.back (W := 0) (rm_low1 l Z a0 hw zC SC PC vF rF SF SA SH SL c0 T814.heap f821 gp683 gp684 k692a k692b) hZ0 (wd73 hw) (wd6 hw) (by decide) (by decide)) (by rw [hml]; rfl) (lenOf pd19 rfl) rfl (Nat.le_of_eq rfl) (hb hby at_54) (q := 57) rfl (by decide) (by decide) ?_
        intro v820 T820 L820 X820 Q820
        obtain ⟨rfl, Nq820, e820⟩ := Q820
        have N820 := Fr.app N814 Nq820
        show Go _ _ _ _ (T820.setTop (mkF m 57 #[.val (.int p0), .val (.int p1), .val (.int p2), .val (.int p3), .val (.int (2 : Int32)), .val (.int c0), .val (.int c1), .val (.int c2), .val (.ref b810), .unset] [(.int (1 : Int32))]))
        refine ifN X820 hx (hb hby at_57) (q := 60) rfl (by decide) ?_
        refine iLw X820 hx (hb hby at_60) (q := 62) rfl rfl ?_
        refine g_st X820 hx hZ0 hown0 (wd71 hw) (wd72 hw) (wd6 hw) (wd73 hw) (by decide) e820 (Con.back (W := 0) (rm_low2 l Z a0 hw zC SC PC vF rF SF SA SH SL c1 T814.heap f821 gp686 gp687 k806a) hZ0 (wd73 hw) (wd6 hw) (by decide) (by decide)) (by rw [hml]; rfl) (lenOf pd19 rfl) rfl (Nat.le_of_eq rfl) (hb hby at_62) (q := 65) rfl (by decide) (by decide) ?_
        intro v822 T822 L822 X822 Q822
        obtain ⟨rfl, Nq822, e822⟩ := Q822
        have N822 := Fr.app N820 Nq822
        show Go _ _ _ _ (T822.setTop (mkF m 65 #[.val (.int p0), .val (.int p1), .val (.int p2), .val (.int p3), .val (.int (2 : Int32)), .val (.int c0), .val (.int c1), .val (.int c2), .val (.ref b810), .unset] [(.int (0 : Int32))]))
        refine ifY X822 hx (hb hby at_65) (q := 72) (by decide) (by decide) (by decide) ?_
        refine cI X822 hx (hb hby at_72) (q := 73) rfl (z := (0 : Int32)) rfl ?_
        refine sIw X822 hx (hb hby at_73) (q := 75) rfl (Ls' := #[.val (.int p0), .val (.int p1), .val (.int p2), .val (.int p3), .val (.int (2 : Int32)), .val (.int c0), .val (.int c1), .val (.int c2), .val (.ref b810), .val (.int (0 : Int32))]) rfl ?_
        refine aLw X822 hx (hb hby at_75) (q := 77) rfl rfl rfl ?_
        refine g_st X822 hx hZ0 hown0 (wd27 hw) (wd28 hw) (wd29 hw) (wd30 hw) (by decide) e822 (Con.back (W := 0) (rm_ilc0c l Z a0 hw zC SC PC vF rF SF SA SH SL b810 t814 kb814 c0 c1 T814.heap f821 E814q C814q Fv814 Vb814 gp683 gp684 gp686 gp687 k692c k806c k692a k692b k806a) hZ0 (wd30 hw) (wd29 hw) (by decide) (by decide)) (by rw [hml]; rfl) (lenOf pd18 rfl) rfl (Nat.le_of_eq rfl) (hb hby at_77) (q := 80) rfl (by decide) (by decide) ?_
        intro v823 T823 L823 X823 Q823
        obtain ⟨rfl, Nq823, e823⟩ := Q823
        have N823 := Fr.app N822 Nq823
        show Go _ _ _ _ (T823.setTop (mkF m 80 #[.val (.int p0), .val (.int p1), .val (.int p2), .val (.int p3), .val (.int (2 : Int32)), .val (.int c0), .val (.int c1), .val (.int c2), .val (.ref b810), .val (.int (0 : Int32))] [(.int (0 : Int32))]))
        refine iLw X823 hx (hb hby at_80) (q := 82) rfl rfl ?_
        refine icN X823 hx (hb hby at_82) (q := 85) rfl (by decide) ?_
        refine cI X823 hx (hb hby at_85) (q := 86) rfl (z := (1 : Int32)) rfl ?_
        refine g_goto X823 hx (hb hby at_86) (q := 90) (by decide) (by decide) ?_
        have K824 : Keep h0 h810 [] := (Keep.refl h0 []).ext E810
        have K825 : Keep h0 T812.heap [] := K824.trans K812q all0
        have gh826 : h0.size ≤ b810 := Nat.le_trans (Nat.le_refl _) (Nat.le_of_eq g810.symm)
        have K827 : Keep h0 T814.heap [] := K825.trans K814q (allS (Or.inr gh826) all0)
        have f828 : CHr Z EL s.vm s.heap v0 h810 := C0.trans (CHr.ext E810 C0.1)
        have f829 : CHr Z EL s.vm s.heap v0 T812.heap := f828.trans (CHr.keep K812q sf0 f828.1)
        have f830 : Safe Z EL v0 h810 b810 := Safe.ext E810 C0.1 sf811
        have f831 : Safe Z EL v0 T812.heap b810 := Safe.keep K812q sf0 f828.1 f830
        have f832 : CHr Z EL s.vm s.heap v0 T814.heap := f829.trans (CHr.keep K814q (sfS f831 sf0) f829.1)
        refine endC X823 hlk hS0 (by rw [e823]; exact (Nat.zero_le _)) hZ0 (own_EW hw) (by rw [e823]; exact f832) (fun h => by rw [hret] at h; cases h) (lastN X823 hx (t := .boolean) (z' := (1 : Int32)) hret (by simp) (by decide) (hb hby at_90)) ?_ (by decide) (by decide)
        rw [e823]
        exact ⟨rfl, N823, K827⟩
      · show Go _ _ _ _ (T0.setTop (mkF m 26 #[.val (.int p0), .val (.int p1), .val (.int p2), .val (.int p3), .val (.int (2 : Int32)), .val (.int c0), .val (.int c1), .val (.int c2), .unset, .unset] []))
        refine g_new X0 hx hZ0 hown0 (wd1 hw) (wd2 hw) (wd3 hw) (by decide) (by decide) e0 (hb hby at_26) (q := 29) rfl ?_
        intro T833 h833 b833 g833 X833 e833 E833 A833 D833
        have sf834 : Safe Z EL v0 h0 b833 := Safe.new (Nat.le_of_eq g833.symm)
        have F833_21 := D833 (Or.inr (wd21 hw)) (ty := (.array .byte)) (by decide)
        have F833_22 := D833 (Or.inr (wd22 hw)) (ty := .byte) (by decide)
        refine g_dup X833 hx (hb hby at_29) (q := 30) rfl rfl ?_
        refine iLw X833 hx (hb hby at_30) (q := 32) rfl rfl ?_
        refine iLw X833 hx (hb hby at_32) (q := 34) rfl rfl ?_
        refine iLw X833 hx (hb hby at_34) (q := 36) rfl rfl ?_
        refine iLw X833 hx (hb hby at_36) (q := 38) rfl rfl ?_
        have f836 : Old Z Z.heap.size h833 := O0.ext E833
        refine g_st X833 hx hZ0 hown0 (wd4 hw) (wd5 hw) (wd6 hw) (wd7 hw) (by decide) e833 (Con.back (W := 2) (rm_chars2 l Z a0 hw zC SC PC vF rF SF SA SH SL c0 c1 c2 h833 f836 gp683 gp684 gp686 gp687 gp689 gp690) hZ0 (wd7 hw) (wd6 hw) (by decide) (by decide)) (by rw [hml]; rfl) (lenOf pd16 rfl) rfl (Nat.le_of_eq rfl) (hb hby at_38) (q := 41) rfl (by decide) (by decide) ?_
        intro v835 T835 L835 X835 Q835
        obtain ⟨a_835, kc_835, rfl, Nq835, K835q, q835_0, q835_1⟩ := Q835
        have N835 := Fr.app N0 Nq835
        show Go _ _ _ _ (T835.setTop (mkF m 41 #[.val (.int p0), .val (.int p1), .val (.int p2), .val (.int p3), .val (.int (2 : Int32)), .val (.int c0), .val (.int c1), .val (.int c2), .unset, .unset] [(.ref a_835), (.ref b833), (.ref b833)]))
        have f838 : Old Z Z.heap.size T835.heap := f836.keep K835q all0
        have gz839 : Z.heap.size ≤ b833 := Nat.le_trans O0.2.1 (Nat.le_of_eq g833.symm)
        have f840 : Exa Z T835.heap b833 "java/lang/String" := A833.keep K835q
        have f841 : Fld Z T835.heap b833 "java/lang/String" "value" "[B" .null := F833_21.keep K835q nin0
        have f842 : Fld Z T835.heap b833 "java/lang/String" "coder" "B" (.int (0 : Int32)) := F833_22.keep K835q nin0
        refine g_sp X835 hx hZ0 hown0 (wd9 hw) (wd10 hw) (wd11 hw) rfl (by decide) rfl (StrChars.Road.backV (W := 1) hZ0 (own_wStr hw) (kI := 4) (wd2 hw) (cs := ([c0, c1] : List Int32)) (bs := (([c0, c1] : List Int32).map (fun c => c.toInt8.toInt32))) (n := 2) gz839 f838.2.1 f840 f841 f842 q835_1 (SC.ext f838.2) PC rfl rfl (by decide) (by decide) (alS ⟨gp683, k692c⟩ (alS ⟨gp686, k807c⟩ al0)) rfl (by decide) (by decide)) (a := b833) (argsL := [.ref a_835]) (W := 1) (nk := 1) (ns := 2) (Qc := StrChars.Road.QV Z b833 (2 : Int32) (([c0, c1] : List Int32).map (fun c => c.toInt8.toInt32)) T835.heap Z.heap.size) (by rw [hml]; rfl) (lenOf pd17 rfl) rfl (Nat.le_of_eq rfl) (hb hby at_41) (q := 44) rfl (by decide) (by decide) ?_
        intro v837 T837 L837 X837 Q837
        obtain ⟨rfl, Nq837, K837q, E837q, C837q, t837, kb837, tz837, tg837, tn837, Fv837, Va837⟩ := Q837
        have N837 := Fr.app N835 Nq837
        have Vb837 : Arv Z T837.heap t837 kb837 .byte (2 : Int32) [(.int (StrChars.lo8 c0)), (.int (StrChars.lo8 c1))] (.int 0) := Va837
        show Go _ _ _ _ (T837.setTop (mkF m 44 #[.val (.int p0), .val (.int p1), .val (.int p2), .val (.int p3), .val (.int (2 : Int32)), .val (.int c0), .val (.int c1), .val (.int c2), .unset, .unset] [(.ref b833)]))
        refine sAw X837 hx (hb hby at_44) (q := 46) rfl rfl (Ls' := #[.val (.int p0), .val (.int p1), .val (.int p2), .val (.int p3), .val (.int (2 : Int32)), .val (.int c0), .val (.int c1), .val (.int c2), .val (.ref b833), .unset]) rfl ?_
        refine iLw X837 hx (hb hby at_46) (q := 48) rfl rfl ?_
        refine cI X837 hx (hb hby at_48) (q := 49) rfl (z := (2 : Int32)) rfl ?_
        refine icN X837 hx (hb hby at_49) (q := 52) rfl (by decide) ?_
        refine iLw X837 hx (hb hby at_52) (q := 54) rfl rfl ?_
        have f844 : Old Z Z.heap.size T837.heap := f838.keep K837q (allS gz839 all0)
        refine g_st X837 hx hZ0 hown0 (wd71 hw) (wd72 hw) (wd6 hw) (wd73 hw) (by decide) rfl (Con.back (W := 0) (rm_low1 l Z a0 hw zC SC PC vF rF SF SA SH SL c0 T837.heap f844 gp683 gp684 k692a k692b) hZ0 (wd73 hw) (wd6 hw) (by decide) (by decide)) (by rw [hml]; rfl) (lenOf pd19 rfl) rfl (Nat.le_of_eq rfl) (hb hby at_54) (q := 57) rfl (by decide) (by decide) ?_
        intro v843 T843 L843 X843 Q843
        obtain ⟨rfl, Nq843, e843⟩ := Q843
        have N843 := Fr.app N837 Nq843
        show Go _ _ _ _ (T843.setTop (mkF m 57 #[.val (.int p0), .val (.int p1), .val (.int p2), .val (.int p3), .val (.int (2 : Int32)), .val (.int c0), .val (.int c1), .val (.int c2), .val (.ref b833), .unset] [(.int (1 : Int32))]))
        refine ifN X843 hx (hb hby at_57) (q := 60) rfl (by decide) ?_
        refine iLw X843 hx (hb hby at_60) (q := 62) rfl rfl ?_
        refine g_st X843 hx hZ0 hown0 (wd71 hw) (wd72 hw) (wd6 hw) (wd73 hw) (by decide) e843 (Con.back (W := 0) (rm_low1 l Z a0 hw zC SC PC vF rF SF SA SH SL c1 T837.heap f844 gp686 gp687 k807a k807b) hZ0 (wd73 hw) (wd6 hw) (by decide) (by decide)) (by rw [hml]; rfl) (lenOf pd19 rfl) rfl (Nat.le_of_eq rfl) (hb hby at_62) (q := 65) rfl (by decide) (by decide) ?_
        intro v845 T845 L845 X845 Q845
        obtain ⟨rfl, Nq845, e845⟩ := Q845
        have N845 := Fr.app N843 Nq845
        show Go _ _ _ _ (T845.setTop (mkF m 65 #[.val (.int p0), .val (.int p1), .val (.int p2), .val (.int p3), .val (.int (2 : Int32)), .val (.int c0), .val (.int c1), .val (.int c2), .val (.ref b833), .unset] [(.int (1 : Int32))]))
        refine ifN X845 hx (hb hby at_65) (q := 68) rfl (by decide) ?_
        refine cI X845 hx (hb hby at_68) (q := 69) rfl (z := (1 : Int32)) rfl ?_
        refine g_goto X845 hx (hb hby at_69) (q := 73) (by decide) (by decide) ?_
        refine sIw X845 hx (hb hby at_73) (q := 75) rfl (Ls' := #[.val (.int p0), .val (.int p1), .val (.int p2), .val (.int p3), .val (.int (2 : Int32)), .val (.int c0), .val (.int c1), .val (.int c2), .val (.ref b833), .val (.int (1 : Int32))]) rfl ?_
        refine aLw X845 hx (hb hby at_75) (q := 77) rfl rfl rfl ?_
        refine g_st X845 hx hZ0 hown0 (wd27 hw) (wd28 hw) (wd29 hw) (wd30 hw) (by decide) e845 (Con.back (W := 0) (rm_ilc0e l Z a0 hw zC SC PC vF rF SF SA SH SL b833 t837 kb837 c0 c1 T837.heap f844 E837q C837q Fv837 Vb837 gp683 gp684 gp686 gp687 k692c k807c k692a k692b k807a k807b) hZ0 (wd30 hw) (wd29 hw) (by decide) (by decide)) (by rw [hml]; rfl) (lenOf pd18 rfl) rfl (Nat.le_of_eq rfl) (hb hby at_77) (q := 80) rfl (by decide) (by decide) ?_
        intro v846 T846 L846 X846 Q846
        obtain ⟨rfl, Nq846, e846⟩ := Q846
        have N846 := Fr.app N845 Nq846
        show Go _ _ _ _ (T846.setTop (mkF m 80 #[.val (.int p0), .val (.int p1), .val (.int p2), .val (.int p3), .val (.int (2 : Int32)), .val (.int c0), .val (.int c1), .val (.int c2), .val (.ref b833), .val (.int (1 : Int32))] [(.int (1 : Int32))]))
        refine iLw X846 hx (hb hby at_80) (q := 82) rfl rfl ?_
        refine icN X846 hx (hb hby at_82) (q := 85) rfl (by decide) ?_
        refine cI X846 hx (hb hby at_85) (q := 86) rfl (z := (1 : Int32)) rfl ?_
        refine g_goto X846 hx (hb hby at_86) (q := 90) (by decide) (by decide) ?_
        have K847 : Keep h0 h833 [] := (Keep.refl h0 []).ext E833
        have K848 : Keep h0 T835.heap [] := K847.trans K835q all0
        have gh849 : h0.size ≤ b833 := Nat.le_trans (Nat.le_refl _) (Nat.le_of_eq g833.symm)
        have K850 : Keep h0 T837.heap [] := K848.trans K837q (allS (Or.inr gh849) all0)
        have f851 : CHr Z EL s.vm s.heap v0 h833 := C0.trans (CHr.ext E833 C0.1)
        have f852 : CHr Z EL s.vm s.heap v0 T835.heap := f851.trans (CHr.keep K835q sf0 f851.1)
        have f853 : Safe Z EL v0 h833 b833 := Safe.ext E833 C0.1 sf834
        have f854 : Safe Z EL v0 T835.heap b833 := Safe.keep K835q sf0 f851.1 f853
        have f855 : CHr Z EL s.vm s.heap v0 T837.heap := f852.trans (CHr.keep K837q (sfS f854 sf0) f852.1)
        refine endC X846 hlk hS0 (by rw [e846]; exact (Nat.zero_le _)) hZ0 (own_EW hw) (by rw [e846]; exact f855) (fun h => by rw [hret] at h; cases h) (lastN X846 hx (t := .boolean) (z' := (1 : Int32)) hret (by simp) (by decide) (hb hby at_90)) ?_ (by decide) (by decide)
        rw [e846]
        exact ⟨rfl, N846, K850⟩
      · show Go _ _ _ _ (T0.setTop (mkF m 26 #[.val (.int p0), .val (.int p1), .val (.int p2), .val (.int p3), .val (.int (2 : Int32)), .val (.int c0), .val (.int c1), .val (.int c2), .unset, .unset] []))
        refine g_new X0 hx hZ0 hown0 (wd1 hw) (wd2 hw) (wd3 hw) (by decide) (by decide) e0 (hb hby at_26) (q := 29) rfl ?_
        intro T856 h856 b856 g856 X856 e856 E856 A856 D856
        have sf857 : Safe Z EL v0 h0 b856 := Safe.new (Nat.le_of_eq g856.symm)
        have F856_21 := D856 (Or.inr (wd21 hw)) (ty := (.array .byte)) (by decide)
        have F856_22 := D856 (Or.inr (wd22 hw)) (ty := .byte) (by decide)
        refine g_dup X856 hx (hb hby at_29) (q := 30) rfl rfl ?_
        refine iLw X856 hx (hb hby at_30) (q := 32) rfl rfl ?_
        refine iLw X856 hx (hb hby at_32) (q := 34) rfl rfl ?_
        refine iLw X856 hx (hb hby at_34) (q := 36) rfl rfl ?_
        refine iLw X856 hx (hb hby at_36) (q := 38) rfl rfl ?_
        have f859 : Old Z Z.heap.size h856 := O0.ext E856
        refine g_st X856 hx hZ0 hown0 (wd4 hw) (wd5 hw) (wd6 hw) (wd7 hw) (by decide) e856 (Con.back (W := 2) (rm_chars2 l Z a0 hw zC SC PC vF rF SF SA SH SL c0 c1 c2 h856 f859 gp683 gp684 gp686 gp687 gp689 gp690) hZ0 (wd7 hw) (wd6 hw) (by decide) (by decide)) (by rw [hml]; rfl) (lenOf pd16 rfl) rfl (Nat.le_of_eq rfl) (hb hby at_38) (q := 41) rfl (by decide) (by decide) ?_
        intro v858 T858 L858 X858 Q858
        obtain ⟨a_858, kc_858, rfl, Nq858, K858q, q858_0, q858_1⟩ := Q858
        have N858 := Fr.app N0 Nq858
        show Go _ _ _ _ (T858.setTop (mkF m 41 #[.val (.int p0), .val (.int p1), .val (.int p2), .val (.int p3), .val (.int (2 : Int32)), .val (.int c0), .val (.int c1), .val (.int c2), .unset, .unset] [(.ref a_858), (.ref b856), (.ref b856)]))
        have f861 : Old Z Z.heap.size T858.heap := f859.keep K858q all0
        have gz862 : Z.heap.size ≤ b856 := Nat.le_trans O0.2.1 (Nat.le_of_eq g856.symm)
        have f863 : Exa Z T858.heap b856 "java/lang/String" := A856.keep K858q
        have f864 : Fld Z T858.heap b856 "java/lang/String" "value" "[B" .null := F856_21.keep K858q nin0
        have f865 : Fld Z T858.heap b856 "java/lang/String" "coder" "B" (.int (0 : Int32)) := F856_22.keep K858q nin0
        refine g_sp X858 hx hZ0 hown0 (wd9 hw) (wd10 hw) (wd11 hw) rfl (by decide) rfl (StrChars.Road.backV (W := 1) hZ0 (own_wStr hw) (kI := 4) (wd2 hw) (cs := ([c0, c1] : List Int32)) (bs := (([c0, c1] : List Int32).map (fun c => c.toInt8.toInt32))) (n := 2) gz862 f861.2.1 f863 f864 f865 q858_1 (SC.ext f861.2) PC rfl rfl (by decide) (by decide) (alS ⟨gp683, k692c⟩ (alS ⟨gp686, k808c⟩ al0)) rfl (by decide) (by decide)) (a := b856) (argsL := [.ref a_858]) (W := 1) (nk := 1) (ns := 2) (Qc := StrChars.Road.QV Z b856 (2 : Int32) (([c0, c1] : List Int32).map (fun c => c.toInt8.toInt32)) T858.heap Z.heap.size) (by rw [hml]; rfl) (lenOf pd17 rfl) rfl (Nat.le_of_eq rfl) (hb hby at_41) (q := 44) rfl (by decide) (by decide) ?_
        intro v860 T860 L860 X860 Q860
        obtain ⟨rfl, Nq860, K860q, E860q, C860q, t860, kb860, tz860, tg860, tn860, Fv860, Va860⟩ := Q860
        have N860 := Fr.app N858 Nq860
        have Vb860 : Arv Z T860.heap t860 kb860 .byte (2 : Int32) [(.int (StrChars.lo8 c0)), (.int (StrChars.lo8 c1))] (.int 0) := Va860
        show Go _ _ _ _ (T860.setTop (mkF m 44 #[.val (.int p0), .val (.int p1), .val (.int p2), .val (.int p3), .val (.int (2 : Int32)), .val (.int c0), .val (.int c1), .val (.int c2), .unset, .unset] [(.ref b856)]))
        refine sAw X860 hx (hb hby at_44) (q := 46) rfl rfl (Ls' := #[.val (.int p0), .val (.int p1), .val (.int p2), .val (.int p3), .val (.int (2 : Int32)), .val (.int c0), .val (.int c1), .val (.int c2), .val (.ref b856), .unset]) rfl ?_
        refine iLw X860 hx (hb hby at_46) (q := 48) rfl rfl ?_
        refine cI X860 hx (hb hby at_48) (q := 49) rfl (z := (2 : Int32)) rfl ?_
        refine icN X860 hx (hb hby at_49) (q := 52) rfl (by decide) ?_
        refine iLw X860 hx (hb hby at_52) (q := 54) rfl rfl ?_
        have f867 : Old Z Z.heap.size T860.heap := f861.keep K860q (allS gz862 all0)
        refine g_st X860 hx hZ0 hown0 (wd71 hw) (wd72 hw) (wd6 hw) (wd73 hw) (by decide) rfl (Con.back (W := 0) (rm_low1 l Z a0 hw zC SC PC vF rF SF SA SH SL c0 T860.heap f867 gp683 gp684 k692a k692b) hZ0 (wd73 hw) (wd6 hw) (by decide) (by decide)) (by rw [hml]; rfl) (lenOf pd19 rfl) rfl (Nat.le_of_eq rfl) (hb hby at_54) (q := 57) rfl (by decide) (by decide) ?_
        intro v866 T866 L866 X866 Q866
        obtain ⟨rfl, Nq866, e866⟩ := Q866
        have N866 := Fr.app N860 Nq866
        show Go _ _ _ _ (T866.setTop (mkF m 57 #[.val (.int p0), .val (.int p1), .val (.int p2), .val (.int p3), .val (.int (2 : Int32)), .val (.int c0), .val (.int c1), .val (.int c2), .val (.ref b856), .unset] [(.int (1 : Int32))]))
        refine ifN X866 hx (hb hby at_57) (q := 60) rfl (by decide) ?_
        refine iLw X866 hx (hb hby at_60) (q := 62) rfl rfl ?_
        refine g_st X866 hx hZ0 hown0 (wd71 hw) (wd72 hw) (wd6 hw) (wd73 hw) (by decide) e866 (Con.back (W := 0) (rm_low3 l Z a0 hw zC SC PC vF rF SF SA SH SL c1 T860.heap f867 gp686 gp687 k808b) hZ0 (wd73 hw) (wd6 hw) (by decide) (by decide)) (by rw [hml]; rfl) (lenOf pd19 rfl) rfl (Nat.le_of_eq rfl) (hb hby at_62) (q := 65) rfl (by decide) (by decide) ?_
        intro v868 T868 L868 X868 Q868
        obtain ⟨rfl, Nq868, e868⟩ := Q868
        have N868 := Fr.app N866 Nq868
        show Go _ _ _ _ (T868.setTop (mkF m 65 #[.val (.int p0), .val (.int p1), .val (.int p2), .val (.int p3), .val (.int (2 : Int32)), .val (.int c0), .val (.int c1), .val (.int c2), .val (.ref b856), .unset] [(.int (0 : Int32))]))
        refine ifY X868 hx (hb hby at_65) (q := 72) (by decide) (by decide) (by decide) ?_
        refine cI X868 hx (hb hby at_72) (q := 73) rfl (z := (0 : Int32)) rfl ?_
        refine sIw X868 hx (hb hby at_73) (q := 75) rfl (Ls' := #[.val (.int p0), .val (.int p1), .val (.int p2), .val (.int p3), .val (.int (2 : Int32)), .val (.int c0), .val (.int c1), .val (.int c2), .val (.ref b856), .val (.int (0 : Int32))]) rfl ?_
        refine aLw X868 hx (hb hby at_75) (q := 77) rfl rfl rfl ?_
        refine g_st X868 hx hZ0 hown0 (wd27 hw) (wd28 hw) (wd29 hw) (wd30 hw) (by decide) e868 (Con.back (W := 0) (rm_ilc0d l Z a0 hw zC SC PC vF rF SF SA SH SL b856 t860 kb860 c0 c1 T860.heap f867 E860q C860q Fv860 Vb860 gp683 gp684 gp686 gp687 k692c k808c k692a k692b k808a k808b) hZ0 (wd30 hw) (wd29 hw) (by decide) (by decide)) (by rw [hml]; rfl) (lenOf pd18 rfl) rfl (Nat.le_of_eq rfl) (hb hby at_77) (q := 80) rfl (by decide) (by decide) ?_
        intro v869 T869 L869 X869 Q869
        obtain ⟨rfl, Nq869, e869⟩ := Q869
        have N869 := Fr.app N868 Nq869
        show Go _ _ _ _ (T869.setTop (mkF m 80 #[.val (.int p0), .val (.int p1), .val (.int p2), .val (.int p3), .val (.int (2 : Int32)), .val (.int c0), .val (.int c1), .val (.int c2), .val (.ref b856), .val (.int (0 : Int32))] [(.int (0 : Int32))]))
        refine iLw X869 hx (hb hby at_80) (q := 82) rfl rfl ?_
        refine icN X869 hx (hb hby at_82) (q := 85) rfl (by decide) ?_
        refine cI X869 hx (hb hby at_85) (q := 86) rfl (z := (1 : Int32)) rfl ?_
        refine g_goto X869 hx (hb hby at_86) (q := 90) (by decide) (by decide) ?_
        have K870 : Keep h0 h856 [] := (Keep.refl h0 []).ext E856
        have K871 : Keep h0 T858.heap [] := K870.trans K858q all0
        have gh872 : h0.size ≤ b856 := Nat.le_trans (Nat.le_refl _) (Nat.le_of_eq g856.symm)
        have K873 : Keep h0 T860.heap [] := K871.trans K860q (allS (Or.inr gh872) all0)
        have f874 : CHr Z EL s.vm s.heap v0 h856 := C0.trans (CHr.ext E856 C0.1)
        have f875 : CHr Z EL s.vm s.heap v0 T858.heap := f874.trans (CHr.keep K858q sf0 f874.1)
        have f876 : Safe Z EL v0 h856 b856 := Safe.ext E856 C0.1 sf857
        have f877 : Safe Z EL v0 T858.heap b856 := Safe.keep K858q sf0 f874.1 f876
        have f878 : CHr Z EL s.vm s.heap v0 T860.heap := f875.trans (CHr.keep K860q (sfS f877 sf0) f875.1)
        refine endC X869 hlk hS0 (by rw [e869]; exact (Nat.zero_le _)) hZ0 (own_EW hw) (by rw [e869]; exact f878) (fun h => by rw [hret] at h; cases h) (lastN X869 hx (t := .boolean) (z' := (1 : Int32)) hret (by simp) (by decide) (hb hby at_90)) ?_ (by decide) (by decide)
        rw [e869]
        exact ⟨rfl, N869, K873⟩
      · show Go _ _ _ _ (T0.setTop (mkF m 26 #[.val (.int p0), .val (.int p1), .val (.int p2), .val (.int p3), .val (.int (2 : Int32)), .val (.int c0), .val (.int c1), .val (.int c2), .unset, .unset] []))
        refine g_new X0 hx hZ0 hown0 (wd1 hw) (wd2 hw) (wd3 hw) (by decide) (by decide) e0 (hb hby at_26) (q := 29) rfl ?_
        intro T879 h879 b879 g879 X879 e879 E879 A879 D879
        have sf880 : Safe Z EL v0 h0 b879 := Safe.new (Nat.le_of_eq g879.symm)
        have F879_21 := D879 (Or.inr (wd21 hw)) (ty := (.array .byte)) (by decide)
        have F879_22 := D879 (Or.inr (wd22 hw)) (ty := .byte) (by decide)
        refine g_dup X879 hx (hb hby at_29) (q := 30) rfl rfl ?_
        refine iLw X879 hx (hb hby at_30) (q := 32) rfl rfl ?_
        refine iLw X879 hx (hb hby at_32) (q := 34) rfl rfl ?_
        refine iLw X879 hx (hb hby at_34) (q := 36) rfl rfl ?_
        refine iLw X879 hx (hb hby at_36) (q := 38) rfl rfl ?_
        have f882 : Old Z Z.heap.size h879 := O0.ext E879
        refine g_st X879 hx hZ0 hown0 (wd4 hw) (wd5 hw) (wd6 hw) (wd7 hw) (by decide) e879 (Con.back (W := 2) (rm_chars2 l Z a0 hw zC SC PC vF rF SF SA SH SL c0 c1 c2 h879 f882 gp683 gp684 gp686 gp687 gp689 gp690) hZ0 (wd7 hw) (wd6 hw) (by decide) (by decide)) (by rw [hml]; rfl) (lenOf pd16 rfl) rfl (Nat.le_of_eq rfl) (hb hby at_38) (q := 41) rfl (by decide) (by decide) ?_
        intro v881 T881 L881 X881 Q881
        obtain ⟨a_881, kc_881, rfl, Nq881, K881q, q881_0, q881_1⟩ := Q881
        have N881 := Fr.app N0 Nq881
        show Go _ _ _ _ (T881.setTop (mkF m 41 #[.val (.int p0), .val (.int p1), .val (.int p2), .val (.int p3), .val (.int (2 : Int32)), .val (.int c0), .val (.int c1), .val (.int c2), .unset, .unset] [(.ref a_881), (.ref b879), (.ref b879)]))
        have f903 : Exa Z T881.heap b879 "java/lang/String" := A879.keep K881q
        have f904 : Fld Z T881.heap b879 "java/lang/String" "value" "[B" .null := F879_21.keep K881q nin0
        have f905 : Fld Z T881.heap b879 "java/lang/String" "coder" "B" (.int (0 : Int32)) := F879_22.keep K881q nin0
        have gz906 : Z.heap.size ≤ b879 := Nat.le_trans O0.2.1 (Nat.le_of_eq g879.symm)
        have f907 : Old Z Z.heap.size T881.heap := f882.keep K881q all0
        refine g_sp X881 hx hZ0 hown0 (wd9 hw) (wd10 hw) (wd11 hw) rfl (by decide) rfl (Con.back (W := 1) (rm_new1w_2_1 l Z a0 hw zC SC PC vF rF SF SA SH SL b879 a_881 kc_881 c0 c1 T881.heap f907 f903 f904 f905 gz906 q881_1 gp683 gp684 gp686 gp687 k692c k809c) hZ0 (wd11 hw) (wd3 hw) (by decide) (by decide)) (by rw [hml]; rfl) (lenOf pd17 rfl) rfl (Nat.le_of_eq rfl) (hb hby at_41) (q := 44) rfl (by decide) (by decide) ?_
        intro v902 T902 L902 X902 Q902
        obtain ⟨t_902, kb_902, rfl, Nq902, K902q, q902_0, q902_1, q902_2, q902_3, q902_4⟩ := Q902
        have N902 := Fr.app N881 Nq902
        show Go _ _ _ _ (T902.setTop (mkF m 44 #[.val (.int p0), .val (.int p1), .val (.int p2), .val (.int p3), .val (.int (2 : Int32)), .val (.int c0), .val (.int c1), .val (.int c2), .unset, .unset] [(.ref b879)]))
        refine sAw X902 hx (hb hby at_44) (q := 46) rfl rfl (Ls' := #[.val (.int p0), .val (.int p1), .val (.int p2), .val (.int p3), .val (.int (2 : Int32)), .val (.int c0), .val (.int c1), .val (.int c2), .val (.ref b879), .unset]) rfl ?_
        refine iLw X902 hx (hb hby at_46) (q := 48) rfl rfl ?_
        refine cI X902 hx (hb hby at_48) (q := 49) rfl (z := (2 : Int32)) rfl ?_
        refine icN X902 hx (hb hby at_49) (q := 52) rfl (by decide) ?_
        refine iLw X902 hx (hb hby at_52) (q := 54) rfl rfl ?_
        have f909 : Old Z Z.heap.size T902.heap := f907.keep K902q (allS gz906 all0)
        refine g_st X902 hx hZ0 hown0 (wd71 hw) (wd72 hw) (wd6 hw) (wd73 hw) (by decide) rfl (Con.back (W := 0) (rm_low1 l Z a0 hw zC SC PC vF rF SF SA SH SL c0 T902.heap f909 gp683 gp684 k692a k692b) hZ0 (wd73 hw) (wd6 hw) (by decide) (by decide)) (by rw [hml]; rfl) (lenOf pd19 rfl) rfl (Nat.le_of_eq rfl) (hb hby at_54) (q := 57) rfl (by decide) (by decide) ?_
        intro v908 T908 L908 X908 Q908
        obtain ⟨rfl, Nq908, e908⟩ := Q908
        have N908 := Fr.app N902 Nq908
        show Go _ _ _ _ (T908.setTop (mkF m 57 #[.val (.int p0), .val (.int p1), .val (.int p2), .val (.int p3), .val (.int (2 : Int32)), .val (.int c0), .val (.int c1), .val (.int c2), .val (.ref b879), .unset] [(.int (1 : Int32))]))
        refine ifN X908 hx (hb hby at_57) (q := 60) rfl (by decide) ?_
        refine iLw X908 hx (hb hby at_60) (q := 62) rfl rfl ?_
        refine g_st X908 hx hZ0 hown0 (wd71 hw) (wd72 hw) (wd6 hw) (wd73 hw) (by decide) e908 (Con.back (W := 0) (rm_low3 l Z a0 hw zC SC PC vF rF SF SA SH SL c1 T902.heap f909 gp686 gp687 k809b) hZ0 (wd73 hw) (wd6 hw) (by decide) (by decide)) (by rw [hml]; rfl) (lenOf pd19 rfl) rfl (Nat.le_of_eq rfl) (hb hby at_62) (q := 65) rfl (by decide) (by decide) ?_
        intro v910 T910 L910 X910 Q910
        obtain ⟨rfl, Nq910, e910⟩ := Q910
        have N910 := Fr.app N908 Nq910
        show Go _ _ _ _ (T910.setTop (mkF m 65 #[.val (.int p0), .val (.int p1), .val (.int p2), .val (.int p3), .val (.int (2 : Int32)), .val (.int c0), .val (.int c1), .val (.int c2), .val (.ref b879), .unset] [(.int (0 : Int32))]))
        refine ifY X910 hx (hb hby at_65) (q := 72) (by decide) (by decide) (by decide) ?_
        refine cI X910 hx (hb hby at_72) (q := 73) rfl (z := (0 : Int32)) rfl ?_
        refine sIw X910 hx (hb hby at_73) (q := 75) rfl (Ls' := #[.val (.int p0), .val (.int p1), .val (.int p2), .val (.int p3), .val (.int (2 : Int32)), .val (.int c0), .val (.int c1), .val (.int c2), .val (.ref b879), .val (.int (0 : Int32))]) rfl ?_
        refine aLw X910 hx (hb hby at_75) (q := 77) rfl rfl rfl ?_
        refine g_st X910 hx hZ0 hown0 (wd27 hw) (wd28 hw) (wd29 hw) (wd30 hw) (by decide) e910 (Con.back (W := 0) (rm_ilc1d l Z a0 hw zC SC PC vF rF SF SA SH SL b879 t_902 kb_902 c0 c1 T902.heap f909 q902_1 q902_3 q902_2 q902_4 gp683 gp684 gp686 gp687 k692a k692b k809a k809b) hZ0 (wd30 hw) (wd29 hw) (by decide) (by decide)) (by rw [hml]; rfl) (lenOf pd18 rfl) rfl (Nat.le_of_eq rfl) (hb hby at_77) (q := 80) rfl (by decide) (by decide) ?_
        intro v911 T911 L911 X911 Q911
        obtain ⟨rfl, Nq911, e911⟩ := Q911
        have N911 := Fr.app N910 Nq911
        show Go _ _ _ _ (T911.setTop (mkF m 80 #[.val (.int p0), .val (.int p1), .val (.int p2), .val (.int p3), .val (.int (2 : Int32)), .val (.int c0), .val (.int c1), .val (.int c2), .val (.ref b879), .val (.int (0 : Int32))] [(.int (0 : Int32))]))
        refine iLw X911 hx (hb hby at_80) (q := 82) rfl rfl ?_
        refine icN X911 hx (hb hby at_82) (q := 85) rfl (by decide) ?_
        refine cI X911 hx (hb hby at_85) (q := 86) rfl (z := (1 : Int32)) rfl ?_
        refine g_goto X911 hx (hb hby at_86) (q := 90) (by decide) (by decide) ?_
        have K912 : Keep h0 h879 [] := (Keep.refl h0 []).ext E879
        have K913 : Keep h0 T881.heap [] := K912.trans K881q all0
        have gh914 : h0.size ≤ b879 := Nat.le_trans (Nat.le_refl _) (Nat.le_of_eq g879.symm)
        have K915 : Keep h0 T902.heap [] := K913.trans K902q (allS (Or.inr gh914) all0)
        have f916 : CHr Z EL s.vm s.heap v0 h879 := C0.trans (CHr.ext E879 C0.1)
        have f917 : CHr Z EL s.vm s.heap v0 T881.heap := f916.trans (CHr.keep K881q sf0 f916.1)
        have f918 : Safe Z EL v0 h879 b879 := Safe.ext E879 C0.1 sf880
        have f919 : Safe Z EL v0 T881.heap b879 := Safe.keep K881q sf0 f916.1 f918
        have f920 : CHr Z EL s.vm s.heap v0 T902.heap := f917.trans (CHr.keep K902q (sfS f919 sf0) f917.1)
        refine endC X911 hlk hS0 (by rw [e911]; exact (Nat.zero_le _)) hZ0 (own_EW hw) (by rw [e911]; exact f920) (fun h => by rw [hret] at h; cases h) (lastN X911 hx (t := .boolean) (z' := (1 : Int32)) hret (by simp) (by decide) (hb hby at_90)) ?_ (by decide) (by decide)
        rw [e911]
        exact ⟨rfl, N911, K915⟩
    · rcases four c1 with ⟨k921a, k921b, k921c⟩ | ⟨k922a, k922b, k922c⟩ | ⟨k923a, k923b, k923c⟩ | ⟨k924a, k924b, k924c⟩
      · show Go _ _ _ _ (T0.setTop (mkF m 26 #[.val (.int p0), .val (.int p1), .val (.int p2), .val (.int p3), .val (.int (2 : Int32)), .val (.int c0), .val (.int c1), .val (.int c2), .unset, .unset] []))
        refine g_new X0 hx hZ0 hown0 (wd1 hw) (wd2 hw) (wd3 hw) (by decide) (by decide) e0 (hb hby at_26) (q := 29) rfl ?_
        intro T925 h925 b925 g925 X925 e925 E925 A925 D925
        have sf926 : Safe Z EL v0 h0 b925 := Safe.new (Nat.le_of_eq g925.symm)
        have F925_21 := D925 (Or.inr (wd21 hw)) (ty := (.array .byte)) (by decide)
        have F925_22 := D925 (Or.inr (wd22 hw)) (ty := .byte) (by decide)
        refine g_dup X925 hx (hb hby at_29) (q := 30) rfl rfl ?_
        refine iLw X925 hx (hb hby at_30) (q := 32) rfl rfl ?_
        refine iLw X925 hx (hb hby at_32) (q := 34) rfl rfl ?_
        refine iLw X925 hx (hb hby at_34) (q := 36) rfl rfl ?_
        refine iLw X925 hx (hb hby at_36) (q := 38) rfl rfl ?_
        have f928 : Old Z Z.heap.size h925 := O0.ext E925
        refine g_st X925 hx hZ0 hown0 (wd4 hw) (wd5 hw) (wd6 hw) (wd7 hw) (by decide) e925 (Con.back (W := 2) (rm_chars2 l Z a0 hw zC SC PC vF rF SF SA SH SL c0 c1 c2 h925 f928 gp683 gp684 gp686 gp687 gp689 gp690) hZ0 (wd7 hw) (wd6 hw) (by decide) (by decide)) (by rw [hml]; rfl) (lenOf pd16 rfl) rfl (Nat.le_of_eq rfl) (hb hby at_38) (q := 41) rfl (by decide) (by decide) ?_
        intro v927 T927 L927 X927 Q927
        obtain ⟨a_927, kc_927, rfl, Nq927, K927q, q927_0, q927_1⟩ := Q927
        have N927 := Fr.app N0 Nq927
        show Go _ _ _ _ (T927.setTop (mkF m 41 #[.val (.int p0), .val (.int p1), .val (.int p2), .val (.int p3), .val (.int (2 : Int32)), .val (.int c0), .val (.int c1), .val (.int c2), .unset, .unset] [(.ref a_927), (.ref b925), (.ref b925)]))
        have f930 : Old Z Z.heap.size T927.heap := f928.keep K927q all0
        have gz931 : Z.heap.size ≤ b925 := Nat.le_trans O0.2.1 (Nat.le_of_eq g925.symm)
        have f932 : Exa Z T927.heap b925 "java/lang/String" := A925.keep K927q
        have f933 : Fld Z T927.heap b925 "java/lang/String" "value" "[B" .null := F925_21.keep K927q nin0
        have f934 : Fld Z T927.heap b925 "java/lang/String" "coder" "B" (.int (0 : Int32)) := F925_22.keep K927q nin0
        refine g_sp X927 hx hZ0 hown0 (wd9 hw) (wd10 hw) (wd11 hw) rfl (by decide) rfl (StrChars.Road.backV (W := 1) hZ0 (own_wStr hw) (kI := 4) (wd2 hw) (cs := ([c0, c1] : List Int32)) (bs := (([c0, c1] : List Int32).map (fun c => c.toInt8.toInt32))) (n := 2) gz931 f930.2.1 f932 f933 f934 q927_1 (SC.ext f930.2) PC rfl rfl (by decide) (by decide) (alS ⟨gp683, k693c⟩ (alS ⟨gp686, k921c⟩ al0)) rfl (by decide) (by decide)) (a := b925) (argsL := [.ref a_927]) (W := 1) (nk := 1) (ns := 2) (Qc := StrChars.Road.QV Z b925 (2 : Int32) (([c0, c1] : List Int32).map (fun c => c.toInt8.toInt32)) T927.heap Z.heap.size) (by rw [hml]; rfl) (lenOf pd17 rfl) rfl (Nat.le_of_eq rfl) (hb hby at_41) (q := 44) rfl (by decide) (by decide) ?_
        intro v929 T929 L929 X929 Q929
        obtain ⟨rfl, Nq929, K929q, E929q, C929q, t929, kb929, tz929, tg929, tn929, Fv929, Va929⟩ := Q929
        have N929 := Fr.app N927 Nq929
        have Vb929 : Arv Z T929.heap t929 kb929 .byte (2 : Int32) [(.int (StrChars.lo8 c0)), (.int (StrChars.lo8 c1))] (.int 0) := Va929
        show Go _ _ _ _ (T929.setTop (mkF m 44 #[.val (.int p0), .val (.int p1), .val (.int p2), .val (.int p3), .val (.int (2 : Int32)), .val (.int c0), .val (.int c1), .val (.int c2), .unset, .unset] [(.ref b925)]))
        refine sAw X929 hx (hb hby at_44) (q := 46) rfl rfl (Ls' := #[.val (.int p0), .val (.int p1), .val (.int p2), .val (.int p3), .val (.int (2 : Int32)), .val (.int c0), .val (.int c1), .val (.int c2), .val (.ref b925), .unset]) rfl ?_
        refine iLw X929 hx (hb hby at_46) (q := 48) rfl rfl ?_
        refine cI X929 hx (hb hby at_48) (q := 49) rfl (z := (2 : Int32)) rfl ?_
        refine icN X929 hx (hb hby at_49) (q := 52) rfl (by decide) ?_
        refine iLw X929 hx (hb hby at_52) (q := 54) rfl rfl ?_
        have f936 : Old Z Z.heap.size T929.heap := f930.keep K929q (allS gz931 all0)
        refine g_st X929 hx hZ0 hown0 (wd71 hw) (wd72 hw) (wd6 hw) (wd73 hw) (by decide) rfl (Con.back (W := 0) (rm_low3 l Z a0 hw zC SC PC vF rF SF SA SH SL c0 T929.heap f936 gp683 gp684 k693b) hZ0 (wd73 hw) (wd6 hw) (by decide) (by decide)) (by rw [hml]; rfl) (lenOf pd19 rfl) rfl (Nat.le_of_eq rfl) (hb hby at_54) (q := 57) rfl (by decide) (by decide) ?_
        intro v935 T935 L935 X935 Q935
        obtain ⟨rfl, Nq935, e935⟩ := Q935
        have N935 := Fr.app N929 Nq935
        show Go _ _ _ _ (T935.setTop (mkF m 57 #[.val (.int p0), .val (.int p1), .val (.int p2), .val (.int p3), .val (.int (2 : Int32)), .val (.int c0), .val (.int c1), .val (.int c2), .val (.ref b925), .unset] [(.int (0 : Int32))]))
        refine ifY X935 hx (hb hby at_57) (q := 72) (by decide) (by decide) (by decide) ?_
        refine cI X935 hx (hb hby at_72) (q := 73) rfl (z := (0 : Int32)) rfl ?_
        refine sIw X935 hx (hb hby at_73) (q := 75) rfl (Ls' := #[.val (.int p0), .val (.int p1), .val (.int p2), .val (.int p3), .val (.int (2 : Int32)), .val (.int c0), .val (.int c1), .val (.int c2), .val (.ref b925), .val (.int (0 : Int32))]) rfl ?_
        refine aLw X935 hx (hb hby at_75) (q := 77) rfl rfl rfl ?_
        refine g_st X935 hx hZ0 hown0 (wd27 hw) (wd28 hw) (wd29 hw) (wd30 hw) (by decide) e935 (Con.back (W := 0) (rm_ilc0b l Z a0 hw zC SC PC vF rF SF SA SH SL b925 t929 kb929 c0 c1 T929.heap f936 E929q C929q Fv929 Vb929 gp683 gp684 gp686 gp687 k693c k921c k693a k693b) hZ0 (wd30 hw) (wd29 hw) (by decide) (by decide)) (by rw [hml]; rfl) (lenOf pd18 rfl) rfl (Nat.le_of_eq rfl) (hb hby at_77) (q := 80) rfl (by decide) (by decide) ?_
        intro v937 T937 L937 X937 Q937
        obtain ⟨rfl, Nq937, e937⟩ := Q937
        have N937 := Fr.app N935 Nq937
        show Go _ _ _ _ (T937.setTop (mkF m 80 #[.val (.int p0), .val (.int p1), .val (.int p2), .val (.int p3), .val (.int (2 : Int32)), .val (.int c0), .val (.int c1), .val (.int c2), .val (.ref b925), .val (.int (0 : Int32))] [(.int (0 : Int32))]))
        refine iLw X937 hx (hb hby at_80) (q := 82) rfl rfl ?_
        refine icN X937 hx (hb hby at_82) (q := 85) rfl (by decide) ?_
        refine cI X937 hx (hb hby at_85) (q := 86) rfl (z := (1 : Int32)) rfl ?_
        refine g_goto X937 hx (hb hby at_86) (q := 90) (by decide) (by decide) ?_
        have K938 : Keep h0 h925 [] := (Keep.refl h0 []).ext E925
        have K939 : Keep h0 T927.heap [] := K938.trans K927q all0
        have gh940 : h0.size ≤ b925 := Nat.le_trans (Nat.le_refl _) (Nat.le_of_eq g925.symm)
        have K941 : Keep h0 T929.heap [] := K939.trans K929q (allS (Or.inr gh940) all0)
        have f942 : CHr Z EL s.vm s.heap v0 h925 := C0.trans (CHr.ext E925 C0.1)
        have f943 : CHr Z EL s.vm s.heap v0 T927.heap := f942.trans (CHr.keep K927q sf0 f942.1)
        have f944 : Safe Z EL v0 h925 b925 := Safe.ext E925 C0.1 sf926
        have f945 : Safe Z EL v0 T927.heap b925 := Safe.keep K927q sf0 f942.1 f944
        have f946 : CHr Z EL s.vm s.heap v0 T929.heap := f943.trans (CHr.keep K929q (sfS f945 sf0) f943.1)
        refine endC X937 hlk hS0 (by rw [e937]; exact (Nat.zero_le _)) hZ0 (own_EW hw) (by rw [e937]; exact f946) (fun h => by rw [hret] at h; cases h) (lastN X937 hx (t := .boolean) (z' := (1 : Int32)) hret (by simp) (by decide) (hb hby at_90)) ?_ (by decide) (by decide)
        rw [e937]
        exact ⟨rfl, N937, K941⟩
      · show Go _ _ _ _ (T0.setTop (mkF m 26 #[.val (.int p0), .val (.int p1), .val (.int p2), .val (.int p3), .val (.int (2 : Int32)), .val (.int c0), .val (.int c1), .val (.int c2), .unset, .unset] []))
        refine g_new X0 hx hZ0 hown0 (wd1 hw) (wd2 hw) (wd3 hw) (by decide) (by decide) e0 (hb hby at_26) (q := 29) rfl ?_
        intro T947 h947 b947 g947 X947 e947 E947 A947 D947
        have sf948 : Safe Z EL v0 h0 b947 := Safe.new (Nat.le_of_eq g947.symm)
        have F947_21 := D947 (Or.inr (wd21 hw)) (ty := (.array .byte)) (by decide)
        have F947_22 := D947 (Or.inr (wd22 hw)) (ty := .byte) (by decide)
        refine g_dup X947 hx (hb hby at_29) (q := 30) rfl rfl ?_
        refine iLw X947 hx (hb hby at_30) (q := 32) rfl rfl ?_
        refine iLw X947 hx (hb hby at_32) (q := 34) rfl rfl ?_
        refine iLw X947 hx (hb hby at_34) (q := 36) rfl rfl ?_
        refine iLw X947 hx (hb hby at_36) (q := 38) rfl rfl ?_
        have f950 : Old Z Z.heap.size h947 := O0.ext E947
        refine g_st X947 hx hZ0 hown0 (wd4 hw) (wd5 hw) (wd6 hw) (wd7 hw) (by decide) e947 (Con.back (W := 2) (rm_chars2 l Z a0 hw zC SC PC vF rF SF SA SH SL c0 c1 c2 h947 f950 gp683 gp684 gp686 gp687 gp689 gp690) hZ0 (wd7 hw) (wd6 hw) (by decide) (by decide)) (by rw [hml]; rfl) (lenOf pd16 rfl) rfl (Nat.le_of_eq rfl) (hb hby at_38) (q := 41) rfl (by decide) (by decide) ?_
        intro v949 T949 L949 X949 Q949
        obtain ⟨a_949, kc_949, rfl, Nq949, K949q, q949_0, q949_1⟩ := Q949
        have N949 := Fr.app N0 Nq949
        show Go _ _ _ _ (T949.setTop (mkF m 41 #[.val (.int p0), .val (.int p1), .val (.int p2), .val (.int p3), .val (.int (2 : Int32)), .val (.int c0), .val (.int c1), .val (.int c2), .unset, .unset] [(.ref a_949), (.ref b947), (.ref b947)]))
        have f952 : Old Z Z.heap.size T949.heap := f950.keep K949q all0
        have gz953 : Z.heap.size ≤ b947 := Nat.le_trans O0.2.1 (Nat.le_of_eq g947.symm)
        have f954 : Exa Z T949.heap b947 "java/lang/String" := A947.keep K949q
        have f955 : Fld Z T949.heap b947 "java/lang/String" "value" "[B" .null := F947_21.keep K949q nin0
        have f956 : Fld Z T949.heap b947 "java/lang/String" "coder" "B" (.int (0 : Int32)) := F947_22.keep K949q nin0
        refine g_sp X949 hx hZ0 hown0 (wd9 hw) (wd10 hw) (wd11 hw) rfl (by decide) rfl (StrChars.Road.backV (W := 1) hZ0 (own_wStr hw) (kI := 4) (wd2 hw) (cs := ([c0, c1] : List Int32)) (bs := (([c0, c1] : List Int32).map (fun c => c.toInt8.toInt32))) (n := 2) gz953 f952.2.1 f954 f955 f956 q949_1 (SC.ext f952.2) PC rfl rfl (by decide) (by decide) (alS ⟨gp683, k693c⟩ (alS ⟨gp686, k922c⟩ al0)) rfl (by decide) (by decide)) (a := b947) (argsL := [.ref a_949]) (W := 1) (nk := 1) (ns := 2) (Qc := StrChars.Road.QV Z b947 (2 : Int32) (([c0, c1] : List Int32).map (fun c => c.toInt8.toInt32)) T949.heap Z.heap.size) (by rw [hml]; rfl) (lenOf pd17 rfl) rfl (Nat.le_of_eq rfl) (hb hby at_41) (q := 44) rfl (by decide) (by decide) ?_
        intro v951 T951 L951 X951 Q951
        obtain ⟨rfl, Nq951, K951q, E951q, C951q, t951, kb951, tz951, tg951, tn951, Fv951, Va951⟩ := Q951
        have N951 := Fr.app N949 Nq951
        have Vb951 : Arv Z T951.heap t951 kb951 .byte (2 : Int32) [(.int (StrChars.lo8 c0)), (.int (StrChars.lo8 c1))] (.int 0) := Va951
        show Go _ _ _ _ (T951.setTop (mkF m 44 #[.val (.int p0), .val (.int p1), .val (.int p2), .val (.int p3), .val (.int (2 : Int32)), .val (.int c0), .val (.int c1), .val (.int c2), .unset, .unset] [(.ref b947)]))
        refine sAw X951 hx (hb hby at_44) (q := 46) rfl rfl (Ls' := #[.val (.int p0), .val (.int p1), .val (.int p2), .val (.int p3), .val (.int (2 : Int32)), .val (.int c0), .val (.int c1), .val (.int c2), .val (.ref b947), .unset]) rfl ?_
        refine iLw X951 hx (hb hby at_46) (q := 48) rfl rfl ?_
        refine cI X951 hx (hb hby at_48) (q := 49) rfl (z := (2 : Int32)) rfl ?_
        refine icN X951 hx (hb hby at_49) (q := 52) rfl (by decide) ?_
        refine iLw X951 hx (hb hby at_52) (q := 54) rfl rfl ?_
        have f958 : Old Z Z.heap.size T951.heap := f952.keep K951q (allS gz953 all0)
        refine g_st X951 hx hZ0 hown0 (wd71 hw) (wd72 hw) (wd6 hw) (wd73 hw) (by decide) rfl (Con.back (W := 0) (rm_low3 l Z a0 hw zC SC PC vF rF SF SA SH SL c0 T951.heap f958 gp683 gp684 k693b) hZ0 (wd73 hw) (wd6 hw) (by decide) (by decide)) (by rw [hml]; rfl) (lenOf pd19 rfl) rfl (Nat.le_of_eq rfl) (hb hby at_54) (q := 57) rfl (by decide) (by decide) ?_
        intro v957 T957 L957 X957 Q957
        obtain ⟨rfl, Nq957, e957⟩ := Q957
        have N957 := Fr.app N951 Nq957
        show Go _ _ _ _ (T957.setTop (mkF m 57 #[.val (.int p0), .val (.int p1), .val (.int p2), .val (.int p3), .val (.int (2 : Int32)), .val (.int c0), .val (.int c1), .val (.int c2), .val (.ref b947), .unset] [(.int (0 : Int32))]))
        refine ifY X957 hx (hb hby at_57) (q := 72) (by decide) (by decide) (by decide) ?_
        refine cI X957 hx (hb hby at_72) (q := 73) rfl (z := (0 : Int32)) rfl ?_
        refine sIw X957 hx (hb hby at_73) (q := 75) rfl (Ls' := #[.val (.int p0), .val (.int p1), .val (.int p2), .val (.int p3), .val (.int (2 : Int32)), .val (.int c0), .val (.int c1), .val (.int c2), .val (.ref b947), .val (.int (0 : Int32))]) rfl ?_
        refine aLw X957 hx (hb hby at_75) (q := 77) rfl rfl rfl ?_
        refine g_st X957 hx hZ0 hown0 (wd27 hw) (wd28 hw) (wd29 hw) (wd30 hw) (by decide) e957 (Con.back (W := 0) (rm_ilc0b l Z a0 hw zC SC PC vF rF SF SA SH SL b947 t951 kb951 c0 c1 T951.heap f958 E951q C951q Fv951 Vb951 gp683 gp684 gp686 gp687 k693c k922c k693a k693b) hZ0 (wd30 hw) (wd29 hw) (by decide) (by decide)) (by rw [hml]; rfl) (lenOf pd18 rfl) rfl (Nat.le_of_eq rfl) (hb hby at_77) (q := 80) rfl (by decide) (by decide) ?_
        intro v959 T959 L959 X959 Q959
        obtain ⟨rfl, Nq959, e959⟩ := Q959
        have N959 := Fr.app N957 Nq959
        show Go _ _ _ _ (T959.setTop (mkF m 80 #[.val (.int p0), .val (.int p1), .val (.int p2), .val (.int p3), .val (.int (2 : Int32)), .val (.int c0), .val (.int c1), .val (.int c2), .val (.ref b947), .val (.int (0 : Int32))] [(.int (0 : Int32))]))
        refine iLw X959 hx (hb hby at_80) (q := 82) rfl rfl ?_
        refine icN X959 hx (hb hby at_82) (q := 85) rfl (by decide) ?_
        refine cI X959 hx (hb hby at_85) (q := 86) rfl (z := (1 : Int32)) rfl ?_
        refine g_goto X959 hx (hb hby at_86) (q := 90) (by decide) (by decide) ?_
        have K960 : Keep h0 h947 [] := (Keep.refl h0 []).ext E947
        have K961 : Keep h0 T949.heap [] := K960.trans K949q all0
        have gh962 : h0.size ≤ b947 := Nat.le_trans (Nat.le_refl _) (Nat.le_of_eq g947.symm)
        have K963 : Keep h0 T951.heap [] := K961.trans K951q (allS (Or.inr gh962) all0)
        have f964 : CHr Z EL s.vm s.heap v0 h947 := C0.trans (CHr.ext E947 C0.1)
        have f965 : CHr Z EL s.vm s.heap v0 T949.heap := f964.trans (CHr.keep K949q sf0 f964.1)
        have f966 : Safe Z EL v0 h947 b947 := Safe.ext E947 C0.1 sf948
        have f967 : Safe Z EL v0 T949.heap b947 := Safe.keep K949q sf0 f964.1 f966
        have f968 : CHr Z EL s.vm s.heap v0 T951.heap := f965.trans (CHr.keep K951q (sfS f967 sf0) f965.1)
        refine endC X959 hlk hS0 (by rw [e959]; exact (Nat.zero_le _)) hZ0 (own_EW hw) (by rw [e959]; exact f968) (fun h => by rw [hret] at h; cases h) (lastN X959 hx (t := .boolean) (z' := (1 : Int32)) hret (by simp) (by decide) (hb hby at_90)) ?_ (by decide) (by decide)
        rw [e959]
        exact ⟨rfl, N959, K963⟩
      · show Go _ _ _ _ (T0.setTop (mkF m 26 #[.val (.int p0), .val (.int p1), .val (.int p2), .val (.int p3), .val (.int (2 : Int32)), .val (.int c0), .val (.int c1), .val (.int c2), .unset, .unset] []))
        refine g_new X0 hx hZ0 hown0 (wd1 hw) (wd2 hw) (wd3 hw) (by decide) (by decide) e0 (hb hby at_26) (q := 29) rfl ?_
        intro T969 h969 b969 g969 X969 e969 E969 A969 D969
        have sf970 : Safe Z EL v0 h0 b969 := Safe.new (Nat.le_of_eq g969.symm)
        have F969_21 := D969 (Or.inr (wd21 hw)) (ty := (.array .byte)) (by decide)
        have F969_22 := D969 (Or.inr (wd22 hw)) (ty := .byte) (by decide)
        refine g_dup X969 hx (hb hby at_29) (q := 30) rfl rfl ?_
        refine iLw X969 hx (hb hby at_30) (q := 32) rfl rfl ?_
        refine iLw X969 hx (hb hby at_32) (q := 34) rfl rfl ?_
        refine iLw X969 hx (hb hby at_34) (q := 36) rfl rfl ?_
        refine iLw X969 hx (hb hby at_36) (q := 38) rfl rfl ?_
        have f972 : Old Z Z.heap.size h969 := O0.ext E969
        refine g_st X969 hx hZ0 hown0 (wd4 hw) (wd5 hw) (wd6 hw) (wd7 hw) (by decide) e969 (Con.back (W := 2) (rm_chars2 l Z a0 hw zC SC PC vF rF SF SA SH SL c0 c1 c2 h969 f972 gp683 gp684 gp686 gp687 gp689 gp690) hZ0 (wd7 hw) (wd6 hw) (by decide) (by decide)) (by rw [hml]; rfl) (lenOf pd16 rfl) rfl (Nat.le_of_eq rfl) (hb hby at_38) (q := 41) rfl (by decide) (by decide) ?_
        intro v971 T971 L971 X971 Q971
        obtain ⟨a_971, kc_971, rfl, Nq971, K971q, q971_0, q971_1⟩ := Q971
        have N971 := Fr.app N0 Nq971
        show Go _ _ _ _ (T971.setTop (mkF m 41 #[.val (.int p0), .val (.int p1), .val (.int p2), .val (.int p3), .val (.int (2 : Int32)), .val (.int c0), .val (.int c1), .val (.int c2), .unset, .unset] [(.ref a_971), (.ref b969), (.ref b969)]))
        have f974 : Old Z Z.heap.size T971.heap := f972.keep K971q all0
        have gz975 : Z.heap.size ≤ b969 := Nat.le_trans O0.2.1 (Nat.le_of_eq g969.symm)
        have f976 : Exa Z T971.heap b969 "java/lang/String" := A969.keep K971q
        have f977 : Fld Z T971.heap b969 "java/lang/String" "value" "[B" .null := F969_21.keep K971q nin0
        have f978 : Fld Z T971.heap b969 "java/lang/String" "coder" "B" (.int (0 : Int32)) := F969_22.keep K971q nin0
        refine g_sp X971 hx hZ0 hown0 (wd9 hw) (wd10 hw) (wd11 hw) rfl (by decide) rfl (StrChars.Road.backV (W := 1) hZ0 (own_wStr hw) (kI := 4) (wd2 hw) (cs := ([c0, c1] : List Int32)) (bs := (([c0, c1] : List Int32).map (fun c => c.toInt8.toInt32))) (n := 2) gz975 f974.2.1 f976 f977 f978 q971_1 (SC.ext f974.2) PC rfl rfl (by decide) (by decide) (alS ⟨gp683, k693c⟩ (alS ⟨gp686, k923c⟩ al0)) rfl (by decide) (by decide)) (a := b969) (argsL := [.ref a_971]) (W := 1) (nk := 1) (ns := 2) (Qc := StrChars.Road.QV Z b969 (2 : Int32) (([c0, c1] : List Int32).map (fun c => c.toInt8.toInt32)) T971.heap Z.heap.size) (by rw [hml]; rfl) (lenOf pd17 rfl) rfl (Nat.le_of_eq rfl) (hb hby at_41) (q := 44) rfl (by decide) (by decide) ?_
        intro v973 T973 L973 X973 Q973
        obtain ⟨rfl, Nq973, K973q, E973q, C973q, t973, kb973, tz973, tg973, tn973, Fv973, Va973⟩ := Q973
        have N973 := Fr.app N971 Nq973
        have Vb973 : Arv Z T973.heap t973 kb973 .byte (2 : Int32) [(.int (StrChars.lo8 c0)), (.int (StrChars.lo8 c1))] (.int 0) := Va973
        show Go _ _ _ _ (T973.setTop (mkF m 44 #[.val (.int p0), .val (.int p1), .val (.int p2), .val (.int p3), .val (.int (2 : Int32)), .val (.int c0), .val (.int c1), .val (.int c2), .unset, .unset] [(.ref b969)]))
        refine sAw X973 hx (hb hby at_44) (q := 46) rfl rfl (Ls' := #[.val (.int p0), .val (.int p1), .val (.int p2), .val (.int p3), .val (.int (2 : Int32)), .val (.int c0), .val (.int c1), .val (.int c2), .val (.ref b969), .unset]) rfl ?_
        refine iLw X973 hx (hb hby at_46) (q := 48) rfl rfl ?_
        refine cI X973 hx (hb hby at_48) (q := 49) rfl (z := (2 : Int32)) rfl ?_
        refine icN X973 hx (hb hby at_49) (q := 52) rfl (by decide) ?_
        refine iLw X973 hx (hb hby at_52) (q := 54) rfl rfl ?_
        have f980 : Old Z Z.heap.size T973.heap := f974.keep K973q (allS gz975 all0)
        refine g_st X973 hx hZ0 hown0 (wd71 hw) (wd72 hw) (wd6 hw) (wd73 hw) (by decide) rfl (Con.back (W := 0) (rm_low3 l Z a0 hw zC SC PC vF rF SF SA SH SL c0 T973.heap f980 gp683 gp684 k693b) hZ0 (wd73 hw) (wd6 hw) (by decide) (by decide)) (by rw [hml]; rfl) (lenOf pd19 rfl) rfl (Nat.le_of_eq rfl) (hb hby at_54) (q := 57) rfl (by decide) (by decide) ?_
        intro v979 T979 L979 X979 Q979
        obtain ⟨rfl, Nq979, e979⟩ := Q979
        have N979 := Fr.app N973 Nq979
        show Go _ _ _ _ (T979.setTop (mkF m 57 #[.val (.int p0), .val (.int p1), .val (.int p2), .val (.int p3), .val (.int (2 : Int32)), .val (.int c0), .val (.int c1), .val (.int c2), .val (.ref b969), .unset] [(.int (0 : Int32))]))
        refine ifY X979 hx (hb hby at_57) (q := 72) (by decide) (by decide) (by decide) ?_
        refine cI X979 hx (hb hby at_72) (q := 73) rfl (z := (0 : Int32)) rfl ?_
        refine sIw X979 hx (hb hby at_73) (q := 75) rfl (Ls' := #[.val (.int p0), .val (.int p1), .val (.int p2), .val (.int p3), .val (.int (2 : Int32)), .val (.int c0), .val (.int c1), .val (.int c2), .val (.ref b969), .val (.int (0 : Int32))]) rfl ?_
        refine aLw X979 hx (hb hby at_75) (q := 77) rfl rfl rfl ?_
        refine g_st X979 hx hZ0 hown0 (wd27 hw) (wd28 hw) (wd29 hw) (wd30 hw) (by decide) e979 (Con.back (W := 0) (rm_ilc0b l Z a0 hw zC SC PC vF rF SF SA SH SL b969 t973 kb973 c0 c1 T973.heap f980 E973q C973q Fv973 Vb973 gp683 gp684 gp686 gp687 k693c k923c k693a k693b) hZ0 (wd30 hw) (wd29 hw) (by decide) (by decide)) (by rw [hml]; rfl) (lenOf pd18 rfl) rfl (Nat.le_of_eq rfl) (hb hby at_77) (q := 80) rfl (by decide) (by decide) ?_
        intro v981 T981 L981 X981 Q981
        obtain ⟨rfl, Nq981, e981⟩ := Q981
        have N981 := Fr.app N979 Nq981
        show Go _ _ _ _ (T981.setTop (mkF m 80 #[.val (.int p0), .val (.int p1), .val (.int p2), .val (.int p3), .val (.int (2 : Int32)), .val (.int c0), .val (.int c1), .val (.int c2), .val (.ref b969), .val (.int (0 : Int32))] [(.int (0 : Int32))]))
        refine iLw X981 hx (hb hby at_80) (q := 82) rfl rfl ?_
        refine icN X981 hx (hb hby at_82) (q := 85) rfl (by decide) ?_
        refine cI X981 hx (hb hby at_85) (q := 86) rfl (z := (1 : Int32)) rfl ?_
        refine g_goto X981 hx (hb hby at_86) (q := 90) (by decide) (by decide) ?_
        have K982 : Keep h0 h969 [] := (Keep.refl h0 []).ext E969
        have K983 : Keep h0 T971.heap [] := K982.trans K971q all0
        have gh984 : h0.size ≤ b969 := Nat.le_trans (Nat.le_refl _) (Nat.le_of_eq g969.symm)
        have K985 : Keep h0 T973.heap [] := K983.trans K973q (allS (Or.inr gh984) all0)
        have f986 : CHr Z EL s.vm s.heap v0 h969 := C0.trans (CHr.ext E969 C0.1)
        have f987 : CHr Z EL s.vm s.heap v0 T971.heap := f986.trans (CHr.keep K971q sf0 f986.1)
        have f988 : Safe Z EL v0 h969 b969 := Safe.ext E969 C0.1 sf970
        have f989 : Safe Z EL v0 T971.heap b969 := Safe.keep K971q sf0 f986.1 f988
        have f990 : CHr Z EL s.vm s.heap v0 T973.heap := f987.trans (CHr.keep K973q (sfS f989 sf0) f987.1)
        refine endC X981 hlk hS0 (by rw [e981]; exact (Nat.zero_le _)) hZ0 (own_EW hw) (by rw [e981]; exact f990) (fun h => by rw [hret] at h; cases h) (lastN X981 hx (t := .boolean) (z' := (1 : Int32)) hret (by simp) (by decide) (hb hby at_90)) ?_ (by decide) (by decide)
        rw [e981]
        exact ⟨rfl, N981, K985⟩
      · show Go _ _ _ _ (T0.setTop (mkF m 26 #[.val (.int p0), .val (.int p1), .val (.int p2), .val (.int p3), .val (.int (2 : Int32)), .val (.int c0), .val (.int c1), .val (.int c2), .unset, .unset] []))
        refine g_new X0 hx hZ0 hown0 (wd1 hw) (wd2 hw) (wd3 hw) (by decide) (by decide) e0 (hb hby at_26) (q := 29) rfl ?_
        intro T991 h991 b991 g991 X991 e991 E991 A991 D991
        have sf992 : Safe Z EL v0 h0 b991 := Safe.new (Nat.le_of_eq g991.symm)
        have F991_21 := D991 (Or.inr (wd21 hw)) (ty := (.array .byte)) (by decide)
        have F991_22 := D991 (Or.inr (wd22 hw)) (ty := .byte) (by decide)
        refine g_dup X991 hx (hb hby at_29) (q := 30) rfl rfl ?_
        refine iLw X991 hx (hb hby at_30) (q := 32) rfl rfl ?_
        refine iLw X991 hx (hb hby at_32) (q := 34) rfl rfl ?_
        refine iLw X991 hx (hb hby at_34) (q := 36) rfl rfl ?_
        refine iLw X991 hx (hb hby at_36) (q := 38) rfl rfl ?_
        have f994 : Old Z Z.heap.size h991 := O0.ext E991
        refine g_st X991 hx hZ0 hown0 (wd4 hw) (wd5 hw) (wd6 hw) (wd7 hw) (by decide) e991 (Con.back (W := 2) (rm_chars2 l Z a0 hw zC SC PC vF rF SF SA SH SL c0 c1 c2 h991 f994 gp683 gp684 gp686 gp687 gp689 gp690) hZ0 (wd7 hw) (wd6 hw) (by decide) (by decide)) (by rw [hml]; rfl) (lenOf pd16 rfl) rfl (Nat.le_of_eq rfl) (hb hby at_38) (q := 41) rfl (by decide) (by decide) ?_
        intro v993 T993 L993 X993 Q993
        obtain ⟨a_993, kc_993, rfl, Nq993, K993q, q993_0, q993_1⟩ := Q993
        have N993 := Fr.app N0 Nq993
        show Go _ _ _ _ (T993.setTop (mkF m 41 #[.val (.int p0), .val (.int p1), .val (.int p2), .val (.int p3), .val (.int (2 : Int32)), .val (.int c0), .val (.int c1), .val (.int c2), .unset, .unset] [(.ref a_993), (.ref b991), (.ref b991)]))
        have f1015 : Exa Z T993.heap b991 "java/lang/String" := A991.keep K993q
        have f1016 : Fld Z T993.heap b991 "java/lang/String" "value" "[B" .null := F991_21.keep K993q nin0
        have f1017 : Fld Z T993.heap b991 "java/lang/String" "coder" "B" (.int (0 : Int32)) := F991_22.keep K993q nin0
        have gz1018 : Z.heap.size ≤ b991 := Nat.le_trans O0.2.1 (Nat.le_of_eq g991.symm)
        have f1019 : Old Z Z.heap.size T993.heap := f994.keep K993q all0
        refine g_sp X993 hx hZ0 hown0 (wd9 hw) (wd10 hw) (wd11 hw) rfl (by decide) rfl (Con.back (W := 1) (rm_new1w_2_1 l Z a0 hw zC SC PC vF rF SF SA SH SL b991 a_993 kc_993 c0 c1 T993.heap f1019 f1015 f1016 f1017 gz1018 q993_1 gp683 gp684 gp686 gp687 k693c k924c) hZ0 (wd11 hw) (wd3 hw) (by decide) (by decide)) (by rw [hml]; rfl) (lenOf pd17 rfl) rfl (Nat.le_of_eq rfl) (hb hby at_41) (q := 44) rfl (by decide) (by decide) ?_
        intro v1014 T1014 L1014 X1014 Q1014
        obtain ⟨t_1014, kb_1014, rfl, Nq1014, K1014q, q1014_0, q1014_1, q1014_2, q1014_3, q1014_4⟩ := Q1014
        have N1014 := Fr.app N993 Nq1014
        show Go _ _ _ _ (T1014.setTop (mkF m 44 #[.val (.int p0), .val (.int p1), .val (.int p2), .val (.int p3), .val (.int (2 : Int32)), .val (.int c0), .val (.int c1), .val (.int c2), .unset, .unset] [(.ref b991)]))
        refine sAw X1014 hx (hb hby at_44) (q := 46) rfl rfl (Ls' := #[.val (.int p0), .val (.int p1), .val (.int p2), .val (.int p3), .val (.int (2 : Int32)), .val (.int c0), .val (.int c1), .val (.int c2), .val (.ref b991), .unset]) rfl ?_
        refine iLw X1014 hx (hb hby at_46) (q := 48) rfl rfl ?_
        refine cI X1014 hx (hb hby at_48) (q := 49) rfl (z := (2 : Int32)) rfl ?_
        refine icN X1014 hx (hb hby at_49) (q := 52) rfl (by decide) ?_
        refine iLw X1014 hx (hb hby at_52) (q := 54) rfl rfl ?_
        have f1021 : Old Z Z.heap.size T1014.heap := f1019.keep K1014q (allS gz1018 all0)
        refine g_st X1014 hx hZ0 hown0 (wd71 hw) (wd72 hw) (wd6 hw) (wd73 hw) (by decide) rfl (Con.back (W := 0) (rm_low3 l Z a0 hw zC SC PC vF rF SF SA SH SL c0 T1014.heap f1021 gp683 gp684 k693b) hZ0 (wd73 hw) (wd6 hw) (by decide) (by decide)) (by rw [hml]; rfl) (lenOf pd19 rfl) rfl (Nat.le_of_eq rfl) (hb hby at_54) (q := 57) rfl (by decide) (by decide) ?_
        intro v1020 T1020 L1020 X1020 Q1020
        obtain ⟨rfl, Nq1020, e1020⟩ := Q1020
        have N1020 := Fr.app N1014 Nq1020
        show Go _ _ _ _ (T1020.setTop (mkF m 57 #[.val (.int p0), .val (.int p1), .val (.int p2), .val (.int p3), .val (.int (2 : Int32)), .val (.int c0), .val (.int c1), .val (.int c2), .val (.ref b991), .unset] [(.int (0 : Int32))]))
        refine ifY X1020 hx (hb hby at_57) (q := 72) (by decide) (by decide) (by decide) ?_
        refine cI X1020 hx (hb hby at_72) (q := 73) rfl (z := (0 : Int32)) rfl ?_
        refine sIw X1020 hx (hb hby at_73) (q := 75) rfl (Ls' := #[.val (.int p0), .val (.int p1), .val (.int p2), .val (.int p3), .val (.int (2 : Int32)), .val (.int c0), .val (.int c1), .val (.int c2), .val (.ref b991), .val (.int (0 : Int32))]) rfl ?_
        refine aLw X1020 hx (hb hby at_75) (q := 77) rfl rfl rfl ?_
        refine g_st X1020 hx hZ0 hown0 (wd27 hw) (wd28 hw) (wd29 hw) (wd30 hw) (by decide) e1020 (Con.back (W := 0) (rm_ilc1b l Z a0 hw zC SC PC vF rF SF SA SH SL b991 t_1014 kb_1014 c0 c1 T1014.heap f1021 q1014_1 q1014_3 q1014_2 q1014_4 gp683 gp684 gp686 gp687 k693a k693b) hZ0 (wd30 hw) (wd29 hw) (by decide) (by decide)) (by rw [hml]; rfl) (lenOf pd18 rfl) rfl (Nat.le_of_eq rfl) (hb hby at_77) (q := 80) rfl (by decide) (by decide) ?_
        intro v1022 T1022 L1022 X1022 Q1022
        obtain ⟨rfl, Nq1022, e1022⟩ := Q1022
        have N1022 := Fr.app N1020 Nq1022
        show Go _ _ _ _ (T1022.setTop (mkF m 80 #[.val (.int p0), .val (.int p1), .val (.int p2), .val (.int p3), .val (.int (2 : Int32)), .val (.int c0), .val (.int c1), .val (.int c2), .val (.ref b991), .val (.int (0 : Int32))] [(.int (0 : Int32))]))
        refine iLw X1022 hx (hb hby at_80) (q := 82) rfl rfl ?_
        refine icN X1022 hx (hb hby at_82) (q := 85) rfl (by decide) ?_
        refine cI X1022 hx (hb hby at_85) (q := 86) rfl (z := (1 : Int32)) rfl ?_
        refine g_goto X1022 hx (hb hby at_86) (q := 90) (by decide) (by decide) ?_
        have K1023 : Keep h0 h991 [] := (Keep.refl h0 []).ext E991
        have K1024 : Keep h0 T993.heap [] := K1023.trans K993q all0
        have gh1025 : h0.size ≤ b991 := Nat.le_trans (Nat.le_refl _) (Nat.le_of_eq g991.symm)
        have K1026 : Keep h0 T1014.heap [] := K1024.trans K1014q (allS (Or.inr gh1025) all0)
        have f1027 : CHr Z EL s.vm s.heap v0 h991 := C0.trans (CHr.ext E991 C0.1)
        have f1028 : CHr Z EL s.vm s.heap v0 T993.heap := f1027.trans (CHr.keep K993q sf0 f1027.1)
        have f1029 : Safe Z EL v0 h991 b991 := Safe.ext E991 C0.1 sf992
        have f1030 : Safe Z EL v0 T993.heap b991 := Safe.keep K993q sf0 f1027.1 f1029
        have f1031 : CHr Z EL s.vm s.heap v0 T1014.heap := f1028.trans (CHr.keep K1014q (sfS f1030 sf0) f1028.1)
        refine endC X1022 hlk hS0 (by rw [e1022]; exact (Nat.zero_le _)) hZ0 (own_EW hw) (by rw [e1022]; exact f1031) (fun h => by rw [hret] at h; cases h) (lastN X1022 hx (t := .boolean) (z' := (1 : Int32)) hret (by simp) (by decide) (hb hby at_90)) ?_ (by decide) (by decide)
        rw [e1022]
        exact ⟨rfl, N1022, K1026⟩
    · rcases four c1 with ⟨k1032a, k1032b, k1032c⟩ | ⟨k1033a, k1033b, k1033c⟩ | ⟨k1034a, k1034b, k1034c⟩ | ⟨k1035a, k1035b, k1035c⟩
      · show Go _ _ _ _ (T0.setTop (mkF m 26 #[.val (.int p0), .val (.int p1), .val (.int p2), .val (.int p3), .val (.int (2 : Int32)), .val (.int c0), .val (.int c1), .val (.int c2), .unset, .unset] []))
        refine g_new X0 hx hZ0 hown0 (wd1 hw) (wd2 hw) (wd3 hw) (by decide) (by decide) e0 (hb hby at_26) (q := 29) rfl ?_
        intro T1036 h1036 b1036 g1036 X1036 e1036 E1036 A1036 D1036
        have sf1037 : Safe Z EL v0 h0 b1036 := Safe.new (Nat.le_of_eq g1036.symm)
        have F1036_21 := D1036 (Or.inr (wd21 hw)) (ty := (.array .byte)) (by decide)
        have F1036_22 := D1036 (Or.inr (wd22 hw)) (ty := .byte) (by decide)
        refine g_dup X1036 hx (hb hby at_29) (q := 30) rfl rfl ?_
        refine iLw X1036 hx (hb hby at_30) (q := 32) rfl rfl ?_
        refine iLw X1036 hx (hb hby at_32) (q := 34) rfl rfl ?_
        refine iLw X1036 hx (hb hby at_34) (q := 36) rfl rfl ?_
        refine iLw X1036 hx (hb hby at_36) (q := 38) rfl rfl ?_
        have f1039 : Old Z Z.heap.size h1036 := O0.ext E1036
        refine g_st X1036 hx hZ0 hown0 (wd4 hw) (wd5 hw) (wd6 hw) (wd7 hw) (by decide) e1036 (Con.back (W := 2) (rm_chars2 l Z a0 hw zC SC PC vF rF SF SA SH SL c0 c1 c2 h1036 f1039 gp683 gp684 gp686 gp687 gp689 gp690) hZ0 (wd7 hw) (wd6 hw) (by decide) (by decide)) (by rw [hml]; rfl) (lenOf pd16 rfl) rfl (Nat.le_of_eq rfl) (hb hby at_38) (q := 41) rfl (by decide) (by decide) ?_
        intro v1038 T1038 L1038 X1038 Q1038
        obtain ⟨a_1038, kc_1038, rfl, Nq1038, K1038q, q1038_0, q1038_1⟩ := Q1038
        have N1038 := Fr.app N0 Nq1038
        show Go _ _ _ _ (T1038.setTop (mkF m 41 #[.val (.int p0), .val (.int p1), .val (.int p2), .val (.int p3), .val (.int (2 : Int32)), .val (.int c0), .val (.int c1), .val (.int c2), .unset, .unset] [(.ref a_1038), (.ref b1036), (.ref b1036)]))
        have f1056 : Exa Z T1038.heap b1036 "java/lang/String" := A1036.keep K1038q
        have f1057 : Fld Z T1038.heap b1036 "java/lang/String" "value" "[B" .null := F1036_21.keep K1038q nin0
        have f1058 : Fld Z T1038.heap b1036 "java/lang/String" "coder" "B" (.int (0 : Int32)) := F1036_22.keep K1038q nin0
        have gz1059 : Z.heap.size ≤ b1036 := Nat.le_trans O0.2.1 (Nat.le_of_eq g1036.symm)
        have f1060 : Old Z Z.heap.size T1038.heap := f1039.keep K1038q all0
        refine g_sp X1038 hx hZ0 hown0 (wd9 hw) (wd10 hw) (wd11 hw) rfl (by decide) rfl (Con.back (W := 1) (rm_new1w_2_0 l Z a0 hw zC SC PC vF rF SF SA SH SL b1036 a_1038 kc_1038 c0 c1 T1038.heap f1060 f1056 f1057 f1058 gz1059 q1038_1 gp683 gp684 gp686 gp687 k694c) hZ0 (wd11 hw) (wd3 hw) (by decide) (by decide)) (by rw [hml]; rfl) (lenOf pd17 rfl) rfl (Nat.le_of_eq rfl) (hb hby at_41) (q := 44) rfl (by decide) (by decide) ?_
        intro v1055 T1055 L1055 X1055 Q1055
        obtain ⟨t_1055, kb_1055, rfl, Nq1055, K1055q, q1055_0, q1055_1, q1055_2, q1055_3, q1055_4⟩ := Q1055
        have N1055 := Fr.app N1038 Nq1055
        show Go _ _ _ _ (T1055.setTop (mkF m 44 #[.val (.int p0), .val (.int p1), .val (.int p2), .val (.int p3), .val (.int (2 : Int32)), .val (.int c0), .val (.int c1), .val (.int c2), .unset, .unset] [(.ref b1036)]))
        refine sAw X1055 hx (hb hby at_44) (q := 46) rfl rfl (Ls' := #[.val (.int p0), .val (.int p1), .val (.int p2), .val (.int p3), .val (.int (2 : Int32)), .val (.int c0), .val (.int c1), .val (.int c2), .val (.ref b1036), .unset]) rfl ?_
        refine iLw X1055 hx (hb hby at_46) (q := 48) rfl rfl ?_
        refine cI X1055 hx (hb hby at_48) (q := 49) rfl (z := (2 : Int32)) rfl ?_
        refine icN X1055 hx (hb hby at_49) (q := 52) rfl (by decide) ?_
        refine iLw X1055 hx (hb hby at_52) (q := 54) rfl rfl ?_
        have f1062 : Old Z Z.heap.size T1055.heap := f1060.keep K1055q (allS gz1059 all0)
        refine g_st X1055 hx hZ0 hown0 (wd71 hw) (wd72 hw) (wd6 hw) (wd73 hw) (by decide) rfl (Con.back (W := 0) (rm_low3 l Z a0 hw zC SC PC vF rF SF SA SH SL c0 T1055.heap f1062 gp683 gp684 k694b) hZ0 (wd73 hw) (wd6 hw) (by decide) (by decide)) (by rw [hml]; rfl) (lenOf pd19 rfl) rfl (Nat.le_of_eq rfl) (hb hby at_54) (q := 57) rfl (by decide) (by decide) ?_
        intro v1061 T1061 L1061 X1061 Q1061
        obtain ⟨rfl, Nq1061, e1061⟩ := Q1061
        have N1061 := Fr.app N1055 Nq1061
        show Go _ _ _ _ (T1061.setTop (mkF m 57 #[.val (.int p0), .val (.int p1), .val (.int p2), .val (.int p3), .val (.int (2 : Int32)), .val (.int c0), .val (.int c1), .val (.int c2), .val (.ref b1036), .unset] [(.int (0 : Int32))]))
        refine ifY X1061 hx (hb hby at_57) (q := 72) (by decide) (by decide) (by decide) ?_
        refine cI X1061 hx (hb hby at_72) (q := 73) rfl (z := (0 : Int32)) rfl ?_
        refine sIw X1061 hx (hb hby at_73) (q := 75) rfl (Ls' := #[.val (.int p0), .val (.int p1), .val (.int p2), .val (.int p3), .val (.int (2 : Int32)), .val (.int c0), .val (.int c1), .val (.int c2), .val (.ref b1036), .val (.int (0 : Int32))]) rfl ?_
        refine aLw X1061 hx (hb hby at_75) (q := 77) rfl rfl rfl ?_
        refine g_st X1061 hx hZ0 hown0 (wd27 hw) (wd28 hw) (wd29 hw) (wd30 hw) (by decide) e1061 (Con.back (W := 0) (rm_ilc1b l Z a0 hw zC SC PC vF rF SF SA SH SL b1036 t_1055 kb_1055 c0 c1 T1055.heap f1062 q1055_1 q1055_3 q1055_2 q1055_4 gp683 gp684 gp686 gp687 k694a k694b) hZ0 (wd30 hw) (wd29 hw) (by decide) (by decide)) (by rw [hml]; rfl) (lenOf pd18 rfl) rfl (Nat.le_of_eq rfl) (hb hby at_77) (q := 80) rfl (by decide) (by decide) ?_
        intro v1063 T1063 L1063 X1063 Q1063
        obtain ⟨rfl, Nq1063, e1063⟩ := Q1063
        have N1063 := Fr.app N1061 Nq1063
        show Go _ _ _ _ (T1063.setTop (mkF m 80 #[.val (.int p0), .val (.int p1), .val (.int p2), .val (.int p3), .val (.int (2 : Int32)), .val (.int c0), .val (.int c1), .val (.int c2), .val (.ref b1036), .val (.int (0 : Int32))] [(.int (0 : Int32))]))
        refine iLw X1063 hx (hb hby at_80) (q := 82) rfl rfl ?_
        refine icN X1063 hx (hb hby at_82) (q := 85) rfl (by decide) ?_
        refine cI X1063 hx (hb hby at_85) (q := 86) rfl (z := (1 : Int32)) rfl ?_
        refine g_goto X1063 hx (hb hby at_86) (q := 90) (by decide) (by decide) ?_
        have K1064 : Keep h0 h1036 [] := (Keep.refl h0 []).ext E1036
        have K1065 : Keep h0 T1038.heap [] := K1064.trans K1038q all0
        have gh1066 : h0.size ≤ b1036 := Nat.le_trans (Nat.le_refl _) (Nat.le_of_eq g1036.symm)
        have K1067 : Keep h0 T1055.heap [] := K1065.trans K1055q (allS (Or.inr gh1066) all0)
        have f1068 : CHr Z EL s.vm s.heap v0 h1036 := C0.trans (CHr.ext E1036 C0.1)
        have f1069 : CHr Z EL s.vm s.heap v0 T1038.heap := f1068.trans (CHr.keep K1038q sf0 f1068.1)
        have f1070 : Safe Z EL v0 h1036 b1036 := Safe.ext E1036 C0.1 sf1037
        have f1071 : Safe Z EL v0 T1038.heap b1036 := Safe.keep K1038q sf0 f1068.1 f1070
        have f1072 : CHr Z EL s.vm s.heap v0 T1055.heap := f1069.trans (CHr.keep K1055q (sfS f1071 sf0) f1069.1)
        refine endC X1063 hlk hS0 (by rw [e1063]; exact (Nat.zero_le _)) hZ0 (own_EW hw) (by rw [e1063]; exact f1072) (fun h => by rw [hret] at h; cases h) (lastN X1063 hx (t := .boolean) (z' := (1 : Int32)) hret (by simp) (by decide) (hb hby at_90)) ?_ (by decide) (by decide)
        rw [e1063]
        exact ⟨rfl, N1063, K1067⟩
      · show Go _ _ _ _ (T0.setTop (mkF m 26 #[.val (.int p0), .val (.int p1), .val (.int p2), .val (.int p3), .val (.int (2 : Int32)), .val (.int c0), .val (.int c1), .val (.int c2), .unset, .unset] []))
        refine g_new X0 hx hZ0 hown0 (wd1 hw) (wd2 hw) (wd3 hw) (by decide) (by decide) e0 (hb hby at_26) (q := 29) rfl ?_
        intro T1073 h1073 b1073 g1073 X1073 e1073 E1073 A1073 D1073
        have sf1074 : Safe Z EL v0 h0 b1073 := Safe.new (Nat.le_of_eq g1073.symm)
        have F1073_21 := D1073 (Or.inr (wd21 hw)) (ty := (.array .byte)) (by decide)
        have F1073_22 := D1073 (Or.inr (wd22 hw)) (ty := .byte) (by decide)
        refine g_dup X1073 hx (hb hby at_29) (q := 30) rfl rfl ?_
        refine iLw X1073 hx (hb hby at_30) (q := 32) rfl rfl ?_
        refine iLw X1073 hx (hb hby at_32) (q := 34) rfl rfl ?_
        refine iLw X1073 hx (hb hby at_34) (q := 36) rfl rfl ?_
        refine iLw X1073 hx (hb hby at_36) (q := 38) rfl rfl ?_
        have f1076 : Old Z Z.heap.size h1073 := O0.ext E1073
        refine g_st X1073 hx hZ0 hown0 (wd4 hw) (wd5 hw) (wd6 hw) (wd7 hw) (by decide) e1073 (Con.back (W := 2) (rm_chars2 l Z a0 hw zC SC PC vF rF SF SA SH SL c0 c1 c2 h1073 f1076 gp683 gp684 gp686 gp687 gp689 gp690) hZ0 (wd7 hw) (wd6 hw) (by decide) (by decide)) (by rw [hml]; rfl) (lenOf pd16 rfl) rfl (Nat.le_of_eq rfl) (hb hby at_38) (q := 41) rfl (by decide) (by decide) ?_
        intro v1075 T1075 L1075 X1075 Q1075
        obtain ⟨a_1075, kc_1075, rfl, Nq1075, K1075q, q1075_0, q1075_1⟩ := Q1075
        have N1075 := Fr.app N0 Nq1075
        show Go _ _ _ _ (T1075.setTop (mkF m 41 #[.val (.int p0), .val (.int p1), .val (.int p2), .val (.int p3), .val (.int (2 : Int32)), .val (.int c0), .val (.int c1), .val (.int c2), .unset, .unset] [(.ref a_1075), (.ref b1073), (.ref b1073)]))
        have f1093 : Exa Z T1075.heap b1073 "java/lang/String" := A1073.keep K1075q
        have f1094 : Fld Z T1075.heap b1073 "java/lang/String" "value" "[B" .null := F1073_21.keep K1075q nin0
        have f1095 : Fld Z T1075.heap b1073 "java/lang/String" "coder" "B" (.int (0 : Int32)) := F1073_22.keep K1075q nin0
        have gz1096 : Z.heap.size ≤ b1073 := Nat.le_trans O0.2.1 (Nat.le_of_eq g1073.symm)
        have f1097 : Old Z Z.heap.size T1075.heap := f1076.keep K1075q all0
        refine g_sp X1075 hx hZ0 hown0 (wd9 hw) (wd10 hw) (wd11 hw) rfl (by decide) rfl (Con.back (W := 1) (rm_new1w_2_0 l Z a0 hw zC SC PC vF rF SF SA SH SL b1073 a_1075 kc_1075 c0 c1 T1075.heap f1097 f1093 f1094 f1095 gz1096 q1075_1 gp683 gp684 gp686 gp687 k694c) hZ0 (wd11 hw) (wd3 hw) (by decide) (by decide)) (by rw [hml]; rfl) (lenOf pd17 rfl) rfl (Nat.le_of_eq rfl) (hb hby at_41) (q := 44) rfl (by decide) (by decide) ?_
        intro v1092 T1092 L1092 X1092 Q1092
        obtain ⟨t_1092, kb_1092, rfl, Nq1092, K1092q, q1092_0, q1092_1, q1092_2, q1092_3, q1092_4⟩ := Q1092
        have N1092 := Fr.app N1075 Nq1092
        show Go _ _ _ _ (T1092.setTop (mkF m 44 #[.val (.int p0), .val (.int p1), .val (.int p2), .val (.int p3), .val (.int (2 : Int32)), .val (.int c0), .val (.int c1), .val (.int c2), .unset, .unset] [(.ref b1073)]))
        refine sAw X1092 hx (hb hby at_44) (q := 46) rfl rfl (Ls' := #[.val (.int p0), .val (.int p1), .val (.int p2), .val (.int p3), .val (.int (2 : Int32)), .val (.int c0), .val (.int c1), .val (.int c2), .val (.ref b1073), .unset]) rfl ?_
        refine iLw X1092 hx (hb hby at_46) (q := 48) rfl rfl ?_
        refine cI X1092 hx (hb hby at_48) (q := 49) rfl (z := (2 : Int32)) rfl ?_
        refine icN X1092 hx (hb hby at_49) (q := 52) rfl (by decide) ?_
        refine iLw X1092 hx (hb hby at_52) (q := 54) rfl rfl ?_
        have f1099 : Old Z Z.heap.size T1092.heap := f1097.keep K1092q (allS gz1096 all0)
        refine g_st X1092 hx hZ0 hown0 (wd71 hw) (wd72 hw) (wd6 hw) (wd73 hw) (by decide) rfl (Con.back (W := 0) (rm_low3 l Z a0 hw zC SC PC vF rF SF SA SH SL c0 T1092.heap f1099 gp683 gp684 k694b) hZ0 (wd73 hw) (wd6 hw) (by decide) (by decide)) (by rw [hml]; rfl) (lenOf pd19 rfl) rfl (Nat.le_of_eq rfl) (hb hby at_54) (q := 57) rfl (by decide) (by decide) ?_
        intro v1098 T1098 L1098 X1098 Q1098
        obtain ⟨rfl, Nq1098, e1098⟩ := Q1098
        have N1098 := Fr.app N1092 Nq1098
        show Go _ _ _ _ (T1098.setTop (mkF m 57 #[.val (.int p0), .val (.int p1), .val (.int p2), .val (.int p3), .val (.int (2 : Int32)), .val (.int c0), .val (.int c1), .val (.int c2), .val (.ref b1073), .unset] [(.int (0 : Int32))]))
        refine ifY X1098 hx (hb hby at_57) (q := 72) (by decide) (by decide) (by decide) ?_
        refine cI X1098 hx (hb hby at_72) (q := 73) rfl (z := (0 : Int32)) rfl ?_
        refine sIw X1098 hx (hb hby at_73) (q := 75) rfl (Ls' := #[.val (.int p0), .val (.int p1), .val (.int p2), .val (.int p3), .val (.int (2 : Int32)), .val (.int c0), .val (.int c1), .val (.int c2), .val (.ref b1073), .val (.int (0 : Int32))]) rfl ?_
        refine aLw X1098 hx (hb hby at_75) (q := 77) rfl rfl rfl ?_
        refine g_st X1098 hx hZ0 hown0 (wd27 hw) (wd28 hw) (wd29 hw) (wd30 hw) (by decide) e1098 (Con.back (W := 0) (rm_ilc1b l Z a0 hw zC SC PC vF rF SF SA SH SL b1073 t_1092 kb_1092 c0 c1 T1092.heap f1099 q1092_1 q1092_3 q1092_2 q1092_4 gp683 gp684 gp686 gp687 k694a k694b) hZ0 (wd30 hw) (wd29 hw) (by decide) (by decide)) (by rw [hml]; rfl) (lenOf pd18 rfl) rfl (Nat.le_of_eq rfl) (hb hby at_77) (q := 80) rfl (by decide) (by decide) ?_
        intro v1100 T1100 L1100 X1100 Q1100
        obtain ⟨rfl, Nq1100, e1100⟩ := Q1100
        have N1100 := Fr.app N1098 Nq1100
        show Go _ _ _ _ (T1100.setTop (mkF m 80 #[.val (.int p0), .val (.int p1), .val (.int p2), .val (.int p3), .val (.int (2 : Int32)), .val (.int c0), .val (.int c1), .val (.int c2), .val (.ref b1073), .val (.int (0 : Int32))] [(.int (0 : Int32))]))
        refine iLw X1100 hx (hb hby at_80) (q := 82) rfl rfl ?_
        refine icN X1100 hx (hb hby at_82) (q := 85) rfl (by decide) ?_
        refine cI X1100 hx (hb hby at_85) (q := 86) rfl (z := (1 : Int32)) rfl ?_
        refine g_goto X1100 hx (hb hby at_86) (q := 90) (by decide) (by decide) ?_
        have K1101 : Keep h0 h1073 [] := (Keep.refl h0 []).ext E1073
        have K1102 : Keep h0 T1075.heap [] := K1101.trans K1075q all0
        have gh1103 : h0.size ≤ b1073 := Nat.le_trans (Nat.le_refl _) (Nat.le_of_eq g1073.symm)
        have K1104 : Keep h0 T1092.heap [] := K1102.trans K1092q (allS (Or.inr gh1103) all0)
        have f1105 : CHr Z EL s.vm s.heap v0 h1073 := C0.trans (CHr.ext E1073 C0.1)
        have f1106 : CHr Z EL s.vm s.heap v0 T1075.heap := f1105.trans (CHr.keep K1075q sf0 f1105.1)
        have f1107 : Safe Z EL v0 h1073 b1073 := Safe.ext E1073 C0.1 sf1074
        have f1108 : Safe Z EL v0 T1075.heap b1073 := Safe.keep K1075q sf0 f1105.1 f1107
        have f1109 : CHr Z EL s.vm s.heap v0 T1092.heap := f1106.trans (CHr.keep K1092q (sfS f1108 sf0) f1106.1)
        refine endC X1100 hlk hS0 (by rw [e1100]; exact (Nat.zero_le _)) hZ0 (own_EW hw) (by rw [e1100]; exact f1109) (fun h => by rw [hret] at h; cases h) (lastN X1100 hx (t := .boolean) (z' := (1 : Int32)) hret (by simp) (by decide) (hb hby at_90)) ?_ (by decide) (by decide)
        rw [e1100]
        exact ⟨rfl, N1100, K1104⟩
      · show Go _ _ _ _ (T0.setTop (mkF m 26 #[.val (.int p0), .val (.int p1), .val (.int p2), .val (.int p3), .val (.int (2 : Int32)), .val (.int c0), .val (.int c1), .val (.int c2), .unset, .unset] []))
        refine g_new X0 hx hZ0 hown0 (wd1 hw) (wd2 hw) (wd3 hw) (by decide) (by decide) e0 (hb hby at_26) (q := 29) rfl ?_
        intro T1110 h1110 b1110 g1110 X1110 e1110 E1110 A1110 D1110
        have sf1111 : Safe Z EL v0 h0 b1110 := Safe.new (Nat.le_of_eq g1110.symm)
        have F1110_21 := D1110 (Or.inr (wd21 hw)) (ty := (.array .byte)) (by decide)
        have F1110_22 := D1110 (Or.inr (wd22 hw)) (ty := .byte) (by decide)
        refine g_dup X1110 hx (hb hby at_29) (q := 30) rfl rfl ?_
        refine iLw X1110 hx (hb hby at_30) (q := 32) rfl rfl ?_
        refine iLw X1110 hx (hb hby at_32) (q := 34) rfl rfl ?_
        refine iLw X1110 hx (hb hby at_34) (q := 36) rfl rfl ?_
        refine iLw X1110 hx (hb hby at_36) (q := 38) rfl rfl ?_
        have f1113 : Old Z Z.heap.size h1110 := O0.ext E1110
        refine g_st X1110 hx hZ0 hown0 (wd4 hw) (wd5 hw) (wd6 hw) (wd7 hw) (by decide) e1110 (Con.back (W := 2) (rm_chars2 l Z a0 hw zC SC PC vF rF SF SA SH SL c0 c1 c2 h1110 f1113 gp683 gp684 gp686 gp687 gp689 gp690) hZ0 (wd7 hw) (wd6 hw) (by decide) (by decide)) (by rw [hml]; rfl) (lenOf pd16 rfl) rfl (Nat.le_of_eq rfl) (hb hby at_38) (q := 41) rfl (by decide) (by decide) ?_
        intro v1112 T1112 L1112 X1112 Q1112
        obtain ⟨a_1112, kc_1112, rfl, Nq1112, K1112q, q1112_0, q1112_1⟩ := Q1112
        have N1112 := Fr.app N0 Nq1112
        show Go _ _ _ _ (T1112.setTop (mkF m 41 #[.val (.int p0), .val (.int p1), .val (.int p2), .val (.int p3), .val (.int (2 : Int32)), .val (.int c0), .val (.int c1), .val (.int c2), .unset, .unset] [(.ref a_1112), (.ref b1110), (.ref b1110)]))
        have f1130 : Exa Z T1112.heap b1110 "java/lang/String" := A1110.keep K1112q
        have f1131 : Fld Z T1112.heap b1110 "java/lang/String" "value" "[B" .null := F1110_21.keep K1112q nin0
        have f1132 : Fld Z T1112.heap b1110 "java/lang/String" "coder" "B" (.int (0 : Int32)) := F1110_22.keep K1112q nin0
        have gz1133 : Z.heap.size ≤ b1110 := Nat.le_trans O0.2.1 (Nat.le_of_eq g1110.symm)
        have f1134 : Old Z Z.heap.size T1112.heap := f1113.keep K1112q all0
        refine g_sp X1112 hx hZ0 hown0 (wd9 hw) (wd10 hw) (wd11 hw) rfl (by decide) rfl (Con.back (W := 1) (rm_new1w_2_0 l Z a0 hw zC SC PC vF rF SF SA SH SL b1110 a_1112 kc_1112 c0 c1 T1112.heap f1134 f1130 f1131 f1132 gz1133 q1112_1 gp683 gp684 gp686 gp687 k694c) hZ0 (wd11 hw) (wd3 hw) (by decide) (by decide)) (by rw [hml]; rfl) (lenOf pd17 rfl) rfl (Nat.le_of_eq rfl) (hb hby at_41) (q := 44) rfl (by decide) (by decide) ?_
        intro v1129 T1129 L1129 X1129 Q1129
        obtain ⟨t_1129, kb_1129, rfl, Nq1129, K1129q, q1129_0, q1129_1, q1129_2, q1129_3, q1129_4⟩ := Q1129
        have N1129 := Fr.app N1112 Nq1129
        show Go _ _ _ _ (T1129.setTop (mkF m 44 #[.val (.int p0), .val (.int p1), .val (.int p2), .val (.int p3), .val (.int (2 : Int32)), .val (.int c0), .val (.int c1), .val (.int c2), .unset, .unset] [(.ref b1110)]))
        refine sAw X1129 hx (hb hby at_44) (q := 46) rfl rfl (Ls' := #[.val (.int p0), .val (.int p1), .val (.int p2), .val (.int p3), .val (.int (2 : Int32)), .val (.int c0), .val (.int c1), .val (.int c2), .val (.ref b1110), .unset]) rfl ?_
        refine iLw X1129 hx (hb hby at_46) (q := 48) rfl rfl ?_
        refine cI X1129 hx (hb hby at_48) (q := 49) rfl (z := (2 : Int32)) rfl ?_
        refine icN X1129 hx (hb hby at_49) (q := 52) rfl (by decide) ?_
        refine iLw X1129 hx (hb hby at_52) (q := 54) rfl rfl ?_
        have f1136 : Old Z Z.heap.size T1129.heap := f1134.keep K1129q (allS gz1133 all0)
        refine g_st X1129 hx hZ0 hown0 (wd71 hw) (wd72 hw) (wd6 hw) (wd73 hw) (by decide) rfl (Con.back (W := 0) (rm_low3 l Z a0 hw zC SC PC vF rF SF SA SH SL c0 T1129.heap f1136 gp683 gp684 k694b) hZ0 (wd73 hw) (wd6 hw) (by decide) (by decide)) (by rw [hml]; rfl) (lenOf pd19 rfl) rfl (Nat.le_of_eq rfl) (hb hby at_54) (q := 57) rfl (by decide) (by decide) ?_
        intro v1135 T1135 L1135 X1135 Q1135
        obtain ⟨rfl, Nq1135, e1135⟩ := Q1135
        have N1135 := Fr.app N1129 Nq1135
        show Go _ _ _ _ (T1135.setTop (mkF m 57 #[.val (.int p0), .val (.int p1), .val (.int p2), .val (.int p3), .val (.int (2 : Int32)), .val (.int c0), .val (.int c1), .val (.int c2), .val (.ref b1110), .unset] [(.int (0 : Int32))]))
        refine ifY X1135 hx (hb hby at_57) (q := 72) (by decide) (by decide) (by decide) ?_
        refine cI X1135 hx (hb hby at_72) (q := 73) rfl (z := (0 : Int32)) rfl ?_
        refine sIw X1135 hx (hb hby at_73) (q := 75) rfl (Ls' := #[.val (.int p0), .val (.int p1), .val (.int p2), .val (.int p3), .val (.int (2 : Int32)), .val (.int c0), .val (.int c1), .val (.int c2), .val (.ref b1110), .val (.int (0 : Int32))]) rfl ?_
        refine aLw X1135 hx (hb hby at_75) (q := 77) rfl rfl rfl ?_
        refine g_st X1135 hx hZ0 hown0 (wd27 hw) (wd28 hw) (wd29 hw) (wd30 hw) (by decide) e1135 (Con.back (W := 0) (rm_ilc1b l Z a0 hw zC SC PC vF rF SF SA SH SL b1110 t_1129 kb_1129 c0 c1 T1129.heap f1136 q1129_1 q1129_3 q1129_2 q1129_4 gp683 gp684 gp686 gp687 k694a k694b) hZ0 (wd30 hw) (wd29 hw) (by decide) (by decide)) (by rw [hml]; rfl) (lenOf pd18 rfl) rfl (Nat.le_of_eq rfl) (hb hby at_77) (q := 80) rfl (by decide) (by decide) ?_
        intro v1137 T1137 L1137 X1137 Q1137
        obtain ⟨rfl, Nq1137, e1137⟩ := Q1137
        have N1137 := Fr.app N1135 Nq1137
        show Go _ _ _ _ (T1137.setTop (mkF m 80 #[.val (.int p0), .val (.int p1), .val (.int p2), .val (.int p3), .val (.int (2 : Int32)), .val (.int c0), .val (.int c1), .val (.int c2), .val (.ref b1110), .val (.int (0 : Int32))] [(.int (0 : Int32))]))
        refine iLw X1137 hx (hb hby at_80) (q := 82) rfl rfl ?_
        refine icN X1137 hx (hb hby at_82) (q := 85) rfl (by decide) ?_
        refine cI X1137 hx (hb hby at_85) (q := 86) rfl (z := (1 : Int32)) rfl ?_
        refine g_goto X1137 hx (hb hby at_86) (q := 90) (by decide) (by decide) ?_
        have K1138 : Keep h0 h1110 [] := (Keep.refl h0 []).ext E1110
        have K1139 : Keep h0 T1112.heap [] := K1138.trans K1112q all0
        have gh1140 : h0.size ≤ b1110 := Nat.le_trans (Nat.le_refl _) (Nat.le_of_eq g1110.symm)
        have K1141 : Keep h0 T1129.heap [] := K1139.trans K1129q (allS (Or.inr gh1140) all0)
        have f1142 : CHr Z EL s.vm s.heap v0 h1110 := C0.trans (CHr.ext E1110 C0.1)
        have f1143 : CHr Z EL s.vm s.heap v0 T1112.heap := f1142.trans (CHr.keep K1112q sf0 f1142.1)
        have f1144 : Safe Z EL v0 h1110 b1110 := Safe.ext E1110 C0.1 sf1111
        have f1145 : Safe Z EL v0 T1112.heap b1110 := Safe.keep K1112q sf0 f1142.1 f1144
        have f1146 : CHr Z EL s.vm s.heap v0 T1129.heap := f1143.trans (CHr.keep K1129q (sfS f1145 sf0) f1143.1)
        refine endC X1137 hlk hS0 (by rw [e1137]; exact (Nat.zero_le _)) hZ0 (own_EW hw) (by rw [e1137]; exact f1146) (fun h => by rw [hret] at h; cases h) (lastN X1137 hx (t := .boolean) (z' := (1 : Int32)) hret (by simp) (by decide) (hb hby at_90)) ?_ (by decide) (by decide)
        rw [e1137]
        exact ⟨rfl, N1137, K1141⟩
      · show Go _ _ _ _ (T0.setTop (mkF m 26 #[.val (.int p0), .val (.int p1), .val (.int p2), .val (.int p3), .val (.int (2 : Int32)), .val (.int c0), .val (.int c1), .val (.int c2), .unset, .unset] []))
        refine g_new X0 hx hZ0 hown0 (wd1 hw) (wd2 hw) (wd3 hw) (by decide) (by decide) e0 (hb hby at_26) (q := 29) rfl ?_
        intro T1147 h1147 b1147 g1147 X1147 e1147 E1147 A1147 D1147
        have sf1148 : Safe Z EL v0 h0 b1147 := Safe.new (Nat.le_of_eq g1147.symm)
        have F1147_21 := D1147 (Or.inr (wd21 hw)) (ty := (.array .byte)) (by decide)
        have F1147_22 := D1147 (Or.inr (wd22 hw)) (ty := .byte) (by decide)
        refine g_dup X1147 hx (hb hby at_29) (q := 30) rfl rfl ?_
        refine iLw X1147 hx (hb hby at_30) (q := 32) rfl rfl ?_
        refine iLw X1147 hx (hb hby at_32) (q := 34) rfl rfl ?_
        refine iLw X1147 hx (hb hby at_34) (q := 36) rfl rfl ?_
        refine iLw X1147 hx (hb hby at_36) (q := 38) rfl rfl ?_
        have f1150 : Old Z Z.heap.size h1147 := O0.ext E1147
        refine g_st X1147 hx hZ0 hown0 (wd4 hw) (wd5 hw) (wd6 hw) (wd7 hw) (by decide) e1147 (Con.back (W := 2) (rm_chars2 l Z a0 hw zC SC PC vF rF SF SA SH SL c0 c1 c2 h1147 f1150 gp683 gp684 gp686 gp687 gp689 gp690) hZ0 (wd7 hw) (wd6 hw) (by decide) (by decide)) (by rw [hml]; rfl) (lenOf pd16 rfl) rfl (Nat.le_of_eq rfl) (hb hby at_38) (q := 41) rfl (by decide) (by decide) ?_
        intro v1149 T1149 L1149 X1149 Q1149
        obtain ⟨a_1149, kc_1149, rfl, Nq1149, K1149q, q1149_0, q1149_1⟩ := Q1149
        have N1149 := Fr.app N0 Nq1149
        show Go _ _ _ _ (T1149.setTop (mkF m 41 #[.val (.int p0), .val (.int p1), .val (.int p2), .val (.int p3), .val (.int (2 : Int32)), .val (.int c0), .val (.int c1), .val (.int c2), .unset, .unset] [(.ref a_1149), (.ref b1147), (.ref b1147)]))
        have f1167 : Exa Z T1149.heap b1147 "java/lang/String" := A1147.keep K1149q
        have f1168 : Fld Z T1149.heap b1147 "java/lang/String" "value" "[B" .null := F1147_21.keep K1149q nin0
        have f1169 : Fld Z T1149.heap b1147 "java/lang/String" "coder" "B" (.int (0 : Int32)) := F1147_22.keep K1149q nin0
        have gz1170 : Z.heap.size ≤ b1147 := Nat.le_trans O0.2.1 (Nat.le_of_eq g1147.symm)
        have f1171 : Old Z Z.heap.size T1149.heap := f1150.keep K1149q all0
        refine g_sp X1149 hx hZ0 hown0 (wd9 hw) (wd10 hw) (wd11 hw) rfl (by decide) rfl (Con.back (W := 1) (rm_new1w_2_0 l Z a0 hw zC SC PC vF rF SF SA SH SL b1147 a_1149 kc_1149 c0 c1 T1149.heap f1171 f1167 f1168 f1169 gz1170 q1149_1 gp683 gp684 gp686 gp687 k694c) hZ0 (wd11 hw) (wd3 hw) (by decide) (by decide)) (by rw [hml]; rfl) (lenOf pd17 rfl) rfl (Nat.le_of_eq rfl) (hb hby at_41) (q := 44) rfl (by decide) (by decide) ?_
        intro v1166 T1166 L1166 X1166 Q1166
        obtain ⟨t_1166, kb_1166, rfl, Nq1166, K1166q, q1166_0, q1166_1, q1166_2, q1166_3, q1166_4⟩ := Q1166
        have N1166 := Fr.app N1149 Nq1166
        show Go _ _ _ _ (T1166.setTop (mkF m 44 #[.val (.int p0), .val (.int p1), .val (.int p2), .val (.int p3), .val (.int (2 : Int32)), .val (.int c0), .val (.int c1), .val (.int c2), .unset, .unset] [(.ref b1147)]))
        refine sAw X1166 hx (hb hby at_44) (q := 46) rfl rfl (Ls' := #[.val (.int p0), .val (.int p1), .val (.int p2), .val (.int p3), .val (.int (2 : Int32)), .val (.int c0), .val (.int c1), .val (.int c2), .val (.ref b1147), .unset]) rfl ?_
        refine iLw X1166 hx (hb hby at_46) (q := 48) rfl rfl ?_
        refine cI X1166 hx (hb hby at_48) (q := 49) rfl (z := (2 : Int32)) rfl ?_
        refine icN X1166 hx (hb hby at_49) (q := 52) rfl (by decide) ?_
        refine iLw X1166 hx (hb hby at_52) (q := 54) rfl rfl ?_
        have f1173 : Old Z Z.heap.size T1166.heap := f1171.keep K1166q (allS gz1170 all0)
        refine g_st X1166 hx hZ0 hown0 (wd71 hw) (wd72 hw) (wd6 hw) (wd73 hw) (by decide) rfl (Con.back (W := 0) (rm_low3 l Z a0 hw zC SC PC vF rF SF SA SH SL c0 T1166.heap f1173 gp683 gp684 k694b) hZ0 (wd73 hw) (wd6 hw) (by decide) (by decide)) (by rw [hml]; rfl) (lenOf pd19 rfl) rfl (Nat.le_of_eq rfl) (hb hby at_54) (q := 57) rfl (by decide) (by decide) ?_
        intro v1172 T1172 L1172 X1172 Q1172
        obtain ⟨rfl, Nq1172, e1172⟩ := Q1172
        have N1172 := Fr.app N1166 Nq1172
        show Go _ _ _ _ (T1172.setTop (mkF m 57 #[.val (.int p0), .val (.int p1), .val (.int p2), .val (.int p3), .val (.int (2 : Int32)), .val (.int c0), .val (.int c1), .val (.int c2), .val (.ref b1147), .unset] [(.int (0 : Int32))]))
        refine ifY X1172 hx (hb hby at_57) (q := 72) (by decide) (by decide) (by decide) ?_
        refine cI X1172 hx (hb hby at_72) (q := 73) rfl (z := (0 : Int32)) rfl ?_
        refine sIw X1172 hx (hb hby at_73) (q := 75) rfl (Ls' := #[.val (.int p0), .val (.int p1), .val (.int p2), .val (.int p3), .val (.int (2 : Int32)), .val (.int c0), .val (.int c1), .val (.int c2), .val (.ref b1147), .val (.int (0 : Int32))]) rfl ?_
        refine aLw X1172 hx (hb hby at_75) (q := 77) rfl rfl rfl ?_
        refine g_st X1172 hx hZ0 hown0 (wd27 hw) (wd28 hw) (wd29 hw) (wd30 hw) (by decide) e1172 (Con.back (W := 0) (rm_ilc1b l Z a0 hw zC SC PC vF rF SF SA SH SL b1147 t_1166 kb_1166 c0 c1 T1166.heap f1173 q1166_1 q1166_3 q1166_2 q1166_4 gp683 gp684 gp686 gp687 k694a k694b) hZ0 (wd30 hw) (wd29 hw) (by decide) (by decide)) (by rw [hml]; rfl) (lenOf pd18 rfl) rfl (Nat.le_of_eq rfl) (hb hby at_77) (q := 80) rfl (by decide) (by decide) ?_
        intro v1174 T1174 L1174 X1174 Q1174
        obtain ⟨rfl, Nq1174, e1174⟩ := Q1174
        have N1174 := Fr.app N1172 Nq1174
        show Go _ _ _ _ (T1174.setTop (mkF m 80 #[.val (.int p0), .val (.int p1), .val (.int p2), .val (.int p3), .val (.int (2 : Int32)), .val (.int c0), .val (.int c1), .val (.int c2), .val (.ref b1147), .val (.int (0 : Int32))] [(.int (0 : Int32))]))
        refine iLw X1174 hx (hb hby at_80) (q := 82) rfl rfl ?_
        refine icN X1174 hx (hb hby at_82) (q := 85) rfl (by decide) ?_
        refine cI X1174 hx (hb hby at_85) (q := 86) rfl (z := (1 : Int32)) rfl ?_
        refine g_goto X1174 hx (hb hby at_86) (q := 90) (by decide) (by decide) ?_
        have K1175 : Keep h0 h1147 [] := (Keep.refl h0 []).ext E1147
        have K1176 : Keep h0 T1149.heap [] := K1175.trans K1149q all0
        have gh1177 : h0.size ≤ b1147 := Nat.le_trans (Nat.le_refl _) (Nat.le_of_eq g1147.symm)
        have K1178 : Keep h0 T1166.heap [] := K1176.trans K1166q (allS (Or.inr gh1177) all0)
        have f1179 : CHr Z EL s.vm s.heap v0 h1147 := C0.trans (CHr.ext E1147 C0.1)
        have f1180 : CHr Z EL s.vm s.heap v0 T1149.heap := f1179.trans (CHr.keep K1149q sf0 f1179.1)
        have f1181 : Safe Z EL v0 h1147 b1147 := Safe.ext E1147 C0.1 sf1148
        have f1182 : Safe Z EL v0 T1149.heap b1147 := Safe.keep K1149q sf0 f1179.1 f1181
        have f1183 : CHr Z EL s.vm s.heap v0 T1166.heap := f1180.trans (CHr.keep K1166q (sfS f1182 sf0) f1180.1)
        refine endC X1174 hlk hS0 (by rw [e1174]; exact (Nat.zero_le _)) hZ0 (own_EW hw) (by rw [e1174]; exact f1183) (fun h => by rw [hret] at h; cases h) (lastN X1174 hx (t := .boolean) (z' := (1 : Int32)) hret (by simp) (by decide) (hb hby at_90)) ?_ (by decide) (by decide)
        rw [e1174]
        exact ⟨rfl, N1174, K1178⟩
  · rw [hk580]
    show Go _ _ _ _ (T0.setTop (mkF m 3 #[.val (.int p0), .val (.int p1), .val (.int p2), .val (.int p3), .unset, .unset, .unset, .unset, .unset, .unset] [(.int (3 : Int32))]))
    refine sIw X0 hx (hb hby at_3) (q := 5) rfl (Ls' := #[.val (.int p0), .val (.int p1), .val (.int p2), .val (.int p3), .val (.int (3 : Int32)), .unset, .unset, .unset, .unset, .unset]) rfl ?_
    refine iL X0 hx (hb hby at_5) (q := 6) rfl rfl ?_
    refine g_ldcI X0 hx (a1 := #[]) hZ0 hown0 (wd0 hw) (hb hby at_6) (q := 8) rfl ?_
    refine g_iand X0 hx (hb hby at_8) (q := 9) rfl rfl ?_
    refine g_i2c X0 hx (hb hby at_9) (q := 10) rfl rfl ?_
    obtain ⟨c0, ge1184⟩ : ∃ c, c = ((p1 &&& (65535 : Int32)).toUInt32.toUInt16.toUInt32.toInt32) := ⟨_, rfl⟩
    rw [← ge1184]
    have gp1185 : ¬ (c0 < (0 : Int32)) := by rw [ge1184]; exact (rng16 _).1
    have gp1186 : ¬ ((65535 : Int32) < c0) := by rw [ge1184]; exact (rng16 _).2
    show Go _ _ _ _ (T0.setTop (mkF m 10 #[.val (.int p0), .val (.int p1), .val (.int p2), .val (.int p3), .val (.int (3 : Int32)), .unset, .unset, .unset, .unset, .unset] [(.int c0)]))
    refine sIw X0 hx (hb hby at_10) (q := 12) rfl (Ls' := #[.val (.int p0), .val (.int p1), .val (.int p2), .val (.int p3), .val (.int (3 : Int32)), .val (.int c0), .unset, .unset, .unset, .unset]) rfl ?_
    refine iL X0 hx (hb hby at_12) (q := 13) rfl rfl ?_
    refine g_ldcI X0 hx (a1 := #[]) hZ0 hown0 (wd0 hw) (hb hby at_13) (q := 15) rfl ?_
    refine g_iand X0 hx (hb hby at_15) (q := 16) rfl rfl ?_
    refine g_i2c X0 hx (hb hby at_16) (q := 17) rfl rfl ?_
    obtain ⟨c1, ge1187⟩ : ∃ c, c = ((p2 &&& (65535 : Int32)).toUInt32.toUInt16.toUInt32.toInt32) := ⟨_, rfl⟩
    rw [← ge1187]
    have gp1188 : ¬ (c1 < (0 : Int32)) := by rw [ge1187]; exact (rng16 _).1
    have gp1189 : ¬ ((65535 : Int32) < c1) := by rw [ge1187]; exact (rng16 _).2
    show Go _ _ _ _ (T0.setTop (mkF m 17 #[.val (.int p0), .val (.int p1), .val (.int p2), .val (.int p3), .val (.int (3 : Int32)), .val (.int c0), .unset, .unset, .unset, .unset] [(.int c1)]))
    refine sIw X0 hx (hb hby at_17) (q := 19) rfl (Ls' := #[.val (.int p0), .val (.int p1), .val (.int p2), .val (.int p3), .val (.int (3 : Int32)), .val (.int c0), .val (.int c1), .unset, .unset, .unset]) rfl ?_
    refine iL X0 hx (hb hby at_19) (q := 20) rfl rfl ?_
    refine g_ldcI X0 hx (a1 := #[]) hZ0 hown0 (wd0 hw) (hb hby at_20) (q := 22) rfl ?_
    refine g_iand X0 hx (hb hby at_22) (q := 23) rfl rfl ?_
    refine g_i2c X0 hx (hb hby at_23) (q := 24) rfl rfl ?_
    obtain ⟨c2, ge1190⟩ : ∃ c, c = ((p3 &&& (65535 : Int32)).toUInt32.toUInt16.toUInt32.toInt32) := ⟨_, rfl⟩
    rw [← ge1190]
    have gp1191 : ¬ (c2 < (0 : Int32)) := by rw [ge1190]; exact (rng16 _).1
    have gp1192 : ¬ ((65535 : Int32) < c2) := by rw [ge1190]; exact (rng16 _).2
    show Go _ _ _ _ (T0.setTop (mkF m 24 #[.val (.int p0), .val (.int p1), .val (.int p2), .val (.int p3), .val (.int (3 : Int32)), .val (.int c0), .val (.int c1), .unset, .unset, .unset] [(.int c2)]))
    refine sIw X0 hx (hb hby at_24) (q := 26) rfl (Ls' := #[.val (.int p0), .val (.int p1), .val (.int p2), .val (.int p3), .val (.int (3 : Int32)), .val (.int c0), .val (.int c1), .val (.int c2), .unset, .unset]) rfl ?_
    by_cases k1193 : (255 : Int32) < c0
    · show Go _ _ _ _ (T0.setTop (mkF m 26 #[.val (.int p0), .val (.int p1), .val (.int p2), .val (.int p3), .val (.int (3 : Int32)), .val (.int c0), .val (.int c1), .val (.int c2), .unset, .unset] []))
      refine g_new X0 hx hZ0 hown0 (wd1 hw) (wd2 hw) (wd3 hw) (by decide) (by decide) e0 (hb hby at_26) (q := 29) rfl ?_
      intro T1194 h1194 b1194 g1194 X1194 e1194 E1194 A1194 D1194
      have sf1195 : Safe Z EL v0 h0 b1194 := Safe.new (Nat.le_of_eq g1194.symm)
      have F1194_21 := D1194 (Or.inr (wd21 hw)) (ty := (.array .byte)) (by decide)
      have F1194_22 := D1194 (Or.inr (wd22 hw)) (ty := .byte) (by decide)
      refine g_dup X1194 hx (hb hby at_29) (q := 30) rfl rfl ?_
      refine iLw X1194 hx (hb hby at_30) (q := 32) rfl rfl ?_
      refine iLw X1194 hx (hb hby at_32) (q := 34) rfl rfl ?_
      refine iLw X1194 hx (hb hby at_34) (q := 36) rfl rfl ?_
      refine iLw X1194 hx (hb hby at_36) (q := 38) rfl rfl ?_
      have f1197 : Old Z Z.heap.size h1194 := O0.ext E1194
      refine g_st X1194 hx hZ0 hown0 (wd4 hw) (wd5 hw) (wd6 hw) (wd7 hw) (by decide) e1194 (Con.back (W := 2) (rm_chars3 l Z a0 hw zC SC PC vF rF SF SA SH SL c0 c1 c2 h1194 f1197 gp1185 gp1186 gp1188 gp1189 gp1191 gp1192) hZ0 (wd7 hw) (wd6 hw) (by decide) (by decide)) (by rw [hml]; rfl) (lenOf pd16 rfl) rfl (Nat.le_of_eq rfl) (hb hby at_38) (q := 41) rfl (by decide) (by decide) ?_
      intro v1196 T1196 L1196 X1196 Q1196
      obtain ⟨a_1196, kc_1196, rfl, Nq1196, K1196q, q1196_0, q1196_1⟩ := Q1196
      have N1196 := Fr.app N0 Nq1196
      show Go _ _ _ _ (T1196.setTop (mkF m 41 #[.val (.int p0), .val (.int p1), .val (.int p2), .val (.int p3), .val (.int (3 : Int32)), .val (.int c0), .val (.int c1), .val (.int c2), .unset, .unset] [(.ref a_1196), (.ref b1194), (.ref b1194)]))
      have f1222 : Exa Z T1196.heap b1194 "java/lang/String" := A1194.keep K1196q
      have f1223 : Fld Z T1196.heap b1194 "java/lang/String" "value" "[B" .null := F1194_21.keep K1196q nin0
      have f1224 : Fld Z T1196.heap b1194 "java/lang/String" "coder" "B" (.int (0 : Int32)) := F1194_22.keep K1196q nin0
      have gz1225 : Z.heap.size ≤ b1194 := Nat.le_trans O0.2.1 (Nat.le_of_eq g1194.symm)
      have f1226 : Old Z Z.heap.size T1196.heap := f1197.keep K1196q all0
      refine g_sp X1196 hx hZ0 hown0 (wd9 hw) (wd10 hw) (wd11 hw) rfl (by decide) rfl (Con.back (W := 1) (rm_new1w_3_0 l Z a0 hw zC SC PC vF rF SF SA SH SL b1194 a_1196 kc_1196 c0 c1 c2 T1196.heap f1226 f1222 f1223 f1224 gz1225 q1196_1 gp1185 gp1186 gp1188 gp1189 gp1191 gp1192 k1193) hZ0 (wd11 hw) (wd3 hw) (by decide) (by decide)) (by rw [hml]; rfl) (lenOf pd17 rfl) rfl (Nat.le_of_eq rfl) (hb hby at_41) (q := 44) rfl (by decide) (by decide) ?_
      intro v1221 T1221 L1221 X1221 Q1221
      obtain ⟨t_1221, kb_1221, rfl, Nq1221, K1221q, q1221_0, q1221_1, q1221_2, q1221_3, q1221_4⟩ := Q1221
      have N1221 := Fr.app N1196 Nq1221
      show Go _ _ _ _ (T1221.setTop (mkF m 44 #[.val (.int p0), .val (.int p1), .val (.int p2), .val (.int p3), .val (.int (3 : Int32)), .val (.int c0), .val (.int c1), .val (.int c2), .unset, .unset] [(.ref b1194)]))
      refine sAw X1221 hx (hb hby at_44) (q := 46) rfl rfl (Ls' := #[.val (.int p0), .val (.int p1), .val (.int p2), .val (.int p3), .val (.int (3 : Int32)), .val (.int c0), .val (.int c1), .val (.int c2), .val (.ref b1194), .unset]) rfl ?_
      refine iLw X1221 hx (hb hby at_46) (q := 48) rfl rfl ?_
      refine cI X1221 hx (hb hby at_48) (q := 49) rfl (z := (2 : Int32)) rfl ?_
      refine icY X1221 hx (hb hby at_49) (q := 72) (by decide) (by decide) (by decide) ?_
      refine cI X1221 hx (hb hby at_72) (q := 73) rfl (z := (0 : Int32)) rfl ?_
      refine sIw X1221 hx (hb hby at_73) (q := 75) rfl (Ls' := #[.val (.int p0), .val (.int p1), .val (.int p2), .val (.int p3), .val (.int (3 : Int32)), .val (.int c0), .val (.int c1), .val (.int c2), .val (.ref b1194), .val (.int (0 : Int32))]) rfl ?_
      refine aLw X1221 hx (hb hby at_75) (q := 77) rfl rfl rfl ?_
      have f1228 : Old Z Z.heap.size T1221.heap := f1226.keep K1221q (allS gz1225 all0)
      refine g_st X1221 hx hZ0 hown0 (wd27 hw) (wd28 hw) (wd29 hw) (wd30 hw) (by decide) rfl (Con.back (W := 0) (rm_ilc1_6 l Z a0 hw zC SC PC vF rF SF SA SH SL b1194 t_1221 kb_1221 [(.int (StrChars.lo8 c0)), (.int (StrChars.hi8 c0)), (.int (StrChars.lo8 c1)), (.int (StrChars.hi8 c1)), (.int (StrChars.lo8 c2)), (.int (StrChars.hi8 c2))] T1221.heap f1228 q1221_1 q1221_3 q1221_2 q1221_4) hZ0 (wd30 hw) (wd29 hw) (by decide) (by decide)) (by rw [hml]; rfl) (lenOf pd18 rfl) rfl (Nat.le_of_eq rfl) (hb hby at_77) (q := 80) rfl (by decide) (by decide) ?_
      intro v1227 T1227 L1227 X1227 Q1227
      obtain ⟨rfl, Nq1227, e1227⟩ := Q1227
      have N1227 := Fr.app N1221 Nq1227
      show Go _ _ _ _ (T1227.setTop (mkF m 80 #[.val (.int p0), .val (.int p1), .val (.int p2), .val (.int p3), .val (.int (3 : Int32)), .val (.int c0), .val (.int c1), .val (.int c2), .val (.ref b1194), .val (.int (0 : Int32))] [(.int (0 : Int32))]))
      refine iLw X1227 hx (hb hby at_80) (q := 82) rfl rfl ?_
      refine icN X1227 hx (hb hby at_82) (q := 85) rfl (by decide) ?_
      refine cI X1227 hx (hb hby at_85) (q := 86) rfl (z := (1 : Int32)) rfl ?_
      refine g_goto X1227 hx (hb hby at_86) (q := 90) (by decide) (by decide) ?_
      have K1229 : Keep h0 h1194 [] := (Keep.refl h0 []).ext E1194
      have K1230 : Keep h0 T1196.heap [] := K1229.trans K1196q all0
      have gh1231 : h0.size ≤ b1194 := Nat.le_trans (Nat.le_refl _) (Nat.le_of_eq g1194.symm)
      have K1232 : Keep h0 T1221.heap [] := K1230.trans K1221q (allS (Or.inr gh1231) all0)
      have f1233 : CHr Z EL s.vm s.heap v0 h1194 := C0.trans (CHr.ext E1194 C0.1)
      have f1234 : CHr Z EL s.vm s.heap v0 T1196.heap := f1233.trans (CHr.keep K1196q sf0 f1233.1)
      have f1235 : Safe Z EL v0 h1194 b1194 := Safe.ext E1194 C0.1 sf1195
      have f1236 : Safe Z EL v0 T1196.heap b1194 := Safe.keep K1196q sf0 f1233.1 f1235
      have f1237 : CHr Z EL s.vm s.heap v0 T1221.heap := f1234.trans (CHr.keep K1221q (sfS f1236 sf0) f1234.1)
      refine endC X1227 hlk hS0 (by rw [e1227]; exact (Nat.zero_le _)) hZ0 (own_EW hw) (by rw [e1227]; exact f1237) (fun h => by rw [hret] at h; cases h) (lastN X1227 hx (t := .boolean) (z' := (1 : Int32)) hret (by simp) (by decide) (hb hby at_90)) ?_ (by decide) (by decide)
      rw [e1227]
      exact ⟨rfl, N1227, K1232⟩
    · by_cases k1238 : (255 : Int32) < c1
      · show Go _ _ _ _ (T0.setTop (mkF m 26 #[.val (.int p0), .val (.int p1), .val (.int p2), .val (.int p3), .val (.int (3 : Int32)), .val (.int c0), .val (.int c1), .val (.int c2), .unset, .unset] []))
        refine g_new X0 hx hZ0 hown0 (wd1 hw) (wd2 hw) (wd3 hw) (by decide) (by decide) e0 (hb hby at_26) (q := 29) rfl ?_
        intro T1239 h1239 b1239 g1239 X1239 e1239 E1239 A1239 D1239
        have sf1240 : Safe Z EL v0 h0 b1239 := Safe.new (Nat.le_of_eq g1239.symm)
        have F1239_21 := D1239 (Or.inr (wd21 hw)) (ty := (.array .byte)) (by decide)
        have F1239_22 := D1239 (Or.inr (wd22 hw)) (ty := .byte) (by decide)
        refine g_dup X1239 hx (hb hby at_29) (q := 30) rfl rfl ?_
        refine iLw X1239 hx (hb hby at_30) (q := 32) rfl rfl ?_
        refine iLw X1239 hx (hb hby at_32) (q := 34) rfl rfl ?_
        refine iLw X1239 hx (hb hby at_34) (q := 36) rfl rfl ?_
        refine iLw X1239 hx (hb hby at_36) (q := 38) rfl rfl ?_
        have f1242 : Old Z Z.heap.size h1239 := O0.ext E1239
        refine g_st X1239 hx hZ0 hown0 (wd4 hw) (wd5 hw) (wd6 hw) (wd7 hw) (by decide) e1239 (Con.back (W := 2) (rm_chars3 l Z a0 hw zC SC PC vF rF SF SA SH SL c0 c1 c2 h1239 f1242 gp1185 gp1186 gp1188 gp1189 gp1191 gp1192) hZ0 (wd7 hw) (wd6 hw) (by decide) (by decide)) (by rw [hml]; rfl) (lenOf pd16 rfl) rfl (Nat.le_of_eq rfl) (hb hby at_38) (q := 41) rfl (by decide) (by decide) ?_
        intro v1241 T1241 L1241 X1241 Q1241
        obtain ⟨a_1241, kc_1241, rfl, Nq1241, K1241q, q1241_0, q1241_1⟩ := Q1241
        have N1241 := Fr.app N0 Nq1241
        show Go _ _ _ _ (T1241.setTop (mkF m 41 #[.val (.int p0), .val (.int p1), .val (.int p2), .val (.int p3), .val (.int (3 : Int32)), .val (.int c0), .val (.int c1), .val (.int c2), .unset, .unset] [(.ref a_1241), (.ref b1239), (.ref b1239)]))
        have f1271 : Exa Z T1241.heap b1239 "java/lang/String" := A1239.keep K1241q
        have f1272 : Fld Z T1241.heap b1239 "java/lang/String" "value" "[B" .null := F1239_21.keep K1241q nin0
        have f1273 : Fld Z T1241.heap b1239 "java/lang/String" "coder" "B" (.int (0 : Int32)) := F1239_22.keep K1241q nin0
        have gz1274 : Z.heap.size ≤ b1239 := Nat.le_trans O0.2.1 (Nat.le_of_eq g1239.symm)
        have f1275 : Old Z Z.heap.size T1241.heap := f1242.keep K1241q all0
        refine g_sp X1241 hx hZ0 hown0 (wd9 hw) (wd10 hw) (wd11 hw) rfl (by decide) rfl (Con.back (W := 1) (rm_new1w_3_1 l Z a0 hw zC SC PC vF rF SF SA SH SL b1239 a_1241 kc_1241 c0 c1 c2 T1241.heap f1275 f1271 f1272 f1273 gz1274 q1241_1 gp1185 gp1186 gp1188 gp1189 gp1191 gp1192 k1193 k1238) hZ0 (wd11 hw) (wd3 hw) (by decide) (by decide)) (by rw [hml]; rfl) (lenOf pd17 rfl) rfl (Nat.le_of_eq rfl) (hb hby at_41) (q := 44) rfl (by decide) (by decide) ?_
        intro v1270 T1270 L1270 X1270 Q1270
        obtain ⟨t_1270, kb_1270, rfl, Nq1270, K1270q, q1270_0, q1270_1, q1270_2, q1270_3, q1270_4⟩ := Q1270
        have N1270 := Fr.app N1241 Nq1270
        show Go _ _ _ _ (T1270.setTop (mkF m 44 #[.val (.int p0), .val (.int p1), .val (.int p2), .val (.int p3), .val (.int (3 : Int32)), .val (.int c0), .val (.int c1), .val (.int c2), .unset, .unset] [(.ref b1239)]))
        refine sAw X1270 hx (hb hby at_44) (q := 46) rfl rfl (Ls' := #[.val (.int p0), .val (.int p1), .val (.int p2), .val (.int p3), .val (.int (3 : Int32)), .val (.int c0), .val (.int c1), .val (.int c2), .val (.ref b1239), .unset]) rfl ?_
        refine iLw X1270 hx (hb hby at_46) (q := 48) rfl rfl ?_
        refine cI X1270 hx (hb hby at_48) (q := 49) rfl (z := (2 : Int32)) rfl ?_
        refine icY X1270 hx (hb hby at_49) (q := 72) (by decide) (by decide) (by decide) ?_
        refine cI X1270 hx (hb hby at_72) (q := 73) rfl (z := (0 : Int32)) rfl ?_
        refine sIw X1270 hx (hb hby at_73) (q := 75) rfl (Ls' := #[.val (.int p0), .val (.int p1), .val (.int p2), .val (.int p3), .val (.int (3 : Int32)), .val (.int c0), .val (.int c1), .val (.int c2), .val (.ref b1239), .val (.int (0 : Int32))]) rfl ?_
        refine aLw X1270 hx (hb hby at_75) (q := 77) rfl rfl rfl ?_
        have f1277 : Old Z Z.heap.size T1270.heap := f1275.keep K1270q (allS gz1274 all0)
        refine g_st X1270 hx hZ0 hown0 (wd27 hw) (wd28 hw) (wd29 hw) (wd30 hw) (by decide) rfl (Con.back (W := 0) (rm_ilc1_6 l Z a0 hw zC SC PC vF rF SF SA SH SL b1239 t_1270 kb_1270 [(.int (StrChars.lo8 c0)), (.int (StrChars.hi8 c0)), (.int (StrChars.lo8 c1)), (.int (StrChars.hi8 c1)), (.int (StrChars.lo8 c2)), (.int (StrChars.hi8 c2))] T1270.heap f1277 q1270_1 q1270_3 q1270_2 q1270_4) hZ0 (wd30 hw) (wd29 hw) (by decide) (by decide)) (by rw [hml]; rfl) (lenOf pd18 rfl) rfl (Nat.le_of_eq rfl) (hb hby at_77) (q := 80) rfl (by decide) (by decide) ?_
        intro v1276 T1276 L1276 X1276 Q1276
        obtain ⟨rfl, Nq1276, e1276⟩ := Q1276
        have N1276 := Fr.app N1270 Nq1276
        show Go _ _ _ _ (T1276.setTop (mkF m 80 #[.val (.int p0), .val (.int p1), .val (.int p2), .val (.int p3), .val (.int (3 : Int32)), .val (.int c0), .val (.int c1), .val (.int c2), .val (.ref b1239), .val (.int (0 : Int32))] [(.int (0 : Int32))]))
        refine iLw X1276 hx (hb hby at_80) (q := 82) rfl rfl ?_
        refine icN X1276 hx (hb hby at_82) (q := 85) rfl (by decide) ?_
        refine cI X1276 hx (hb hby at_85) (q := 86) rfl (z := (1 : Int32)) rfl ?_
        refine g_goto X1276 hx (hb hby at_86) (q := 90) (by decide) (by decide) ?_
        have K1278 : Keep h0 h1239 [] := (Keep.refl h0 []).ext E1239
        have K1279 : Keep h0 T1241.heap [] := K1278.trans K1241q all0
        have gh1280 : h0.size ≤ b1239 := Nat.le_trans (Nat.le_refl _) (Nat.le_of_eq g1239.symm)
        have K1281 : Keep h0 T1270.heap [] := K1279.trans K1270q (allS (Or.inr gh1280) all0)
        have f1282 : CHr Z EL s.vm s.heap v0 h1239 := C0.trans (CHr.ext E1239 C0.1)
        have f1283 : CHr Z EL s.vm s.heap v0 T1241.heap := f1282.trans (CHr.keep K1241q sf0 f1282.1)
        have f1284 : Safe Z EL v0 h1239 b1239 := Safe.ext E1239 C0.1 sf1240
        have f1285 : Safe Z EL v0 T1241.heap b1239 := Safe.keep K1241q sf0 f1282.1 f1284
        have f1286 : CHr Z EL s.vm s.heap v0 T1270.heap := f1283.trans (CHr.keep K1270q (sfS f1285 sf0) f1283.1)
        refine endC X1276 hlk hS0 (by rw [e1276]; exact (Nat.zero_le _)) hZ0 (own_EW hw) (by rw [e1276]; exact f1286) (fun h => by rw [hret] at h; cases h) (lastN X1276 hx (t := .boolean) (z' := (1 : Int32)) hret (by simp) (by decide) (hb hby at_90)) ?_ (by decide) (by decide)
        rw [e1276]
        exact ⟨rfl, N1276, K1281⟩
      · by_cases k1287 : (255 : Int32) < c2
        · show Go _ _ _ _ (T0.setTop (mkF m 26 #[.val (.int p0), .val (.int p1), .val (.int p2), .val (.int p3), .val (.int (3 : Int32)), .val (.int c0), .val (.int c1), .val (.int c2), .unset, .unset] []))
          refine g_new X0 hx hZ0 hown0 (wd1 hw) (wd2 hw) (wd3 hw) (by decide) (by decide) e0 (hb hby at_26) (q := 29) rfl ?_
          intro T1288 h1288 b1288 g1288 X1288 e1288 E1288 A1288 D1288
          have sf1289 : Safe Z EL v0 h0 b1288 := Safe.new (Nat.le_of_eq g1288.symm)
          have F1288_21 := D1288 (Or.inr (wd21 hw)) (ty := (.array .byte)) (by decide)
          have F1288_22 := D1288 (Or.inr (wd22 hw)) (ty := .byte) (by decide)
          refine g_dup X1288 hx (hb hby at_29) (q := 30) rfl rfl ?_
          refine iLw X1288 hx (hb hby at_30) (q := 32) rfl rfl ?_
          refine iLw X1288 hx (hb hby at_32) (q := 34) rfl rfl ?_
          refine iLw X1288 hx (hb hby at_34) (q := 36) rfl rfl ?_
          refine iLw X1288 hx (hb hby at_36) (q := 38) rfl rfl ?_
          have f1291 : Old Z Z.heap.size h1288 := O0.ext E1288
          refine g_st X1288 hx hZ0 hown0 (wd4 hw) (wd5 hw) (wd6 hw) (wd7 hw) (by decide) e1288 (Con.back (W := 2) (rm_chars3 l Z a0 hw zC SC PC vF rF SF SA SH SL c0 c1 c2 h1288 f1291 gp1185 gp1186 gp1188 gp1189 gp1191 gp1192) hZ0 (wd7 hw) (wd6 hw) (by decide) (by decide)) (by rw [hml]; rfl) (lenOf pd16 rfl) rfl (Nat.le_of_eq rfl) (hb hby at_38) (q := 41) rfl (by decide) (by decide) ?_
          intro v1290 T1290 L1290 X1290 Q1290
          obtain ⟨a_1290, kc_1290, rfl, Nq1290, K1290q, q1290_0, q1290_1⟩ := Q1290
          have N1290 := Fr.app N0 Nq1290
          show Go _ _ _ _ (T1290.setTop (mkF m 41 #[.val (.int p0), .val (.int p1), .val (.int p2), .val (.int p3), .val (.int (3 : Int32)), .val (.int c0), .val (.int c1), .val (.int c2), .unset, .unset] [(.ref a_1290), (.ref b1288), (.ref b1288)]))
          have f1324 : Exa Z T1290.heap b1288 "java/lang/String" := A1288.keep K1290q
          have f1325 : Fld Z T1290.heap b1288 "java/lang/String" "value" "[B" .null := F1288_21.keep K1290q nin0
          have f1326 : Fld Z T1290.heap b1288 "java/lang/String" "coder" "B" (.int (0 : Int32)) := F1288_22.keep K1290q nin0
          have gz1327 : Z.heap.size ≤ b1288 := Nat.le_trans O0.2.1 (Nat.le_of_eq g1288.symm)
          have f1328 : Old Z Z.heap.size T1290.heap := f1291.keep K1290q all0
          refine g_sp X1290 hx hZ0 hown0 (wd9 hw) (wd10 hw) (wd11 hw) rfl (by decide) rfl (Con.back (W := 1) (rm_new1w_3_2 l Z a0 hw zC SC PC vF rF SF SA SH SL b1288 a_1290 kc_1290 c0 c1 c2 T1290.heap f1328 f1324 f1325 f1326 gz1327 q1290_1 gp1185 gp1186 gp1188 gp1189 gp1191 gp1192 k1193 k1238 k1287) hZ0 (wd11 hw) (wd3 hw) (by decide) (by decide)) (by rw [hml]; rfl) (lenOf pd17 rfl) rfl (Nat.le_of_eq rfl) (hb hby at_41) (q := 44) rfl (by decide) (by decide) ?_
          intro v1323 T1323 L1323 X1323 Q1323
          obtain ⟨t_1323, kb_1323, rfl, Nq1323, K1323q, q1323_0, q1323_1, q1323_2, q1323_3, q1323_4⟩ := Q1323
          have N1323 := Fr.app N1290 Nq1323
          show Go _ _ _ _ (T1323.setTop (mkF m 44 #[.val (.int p0), .val (.int p1), .val (.int p2), .val (.int p3), .val (.int (3 : Int32)), .val (.int c0), .val (.int c1), .val (.int c2), .unset, .unset] [(.ref b1288)]))
          refine sAw X1323 hx (hb hby at_44) (q := 46) rfl rfl (Ls' := #[.val (.int p0), .val (.int p1), .val (.int p2), .val (.int p3), .val (.int (3 : Int32)), .val (.int c0), .val (.int c1), .val (.int c2), .val (.ref b1288), .unset]) rfl ?_
          refine iLw X1323 hx (hb hby at_46) (q := 48) rfl rfl ?_
          refine cI X1323 hx (hb hby at_48) (q := 49) rfl (z := (2 : Int32)) rfl ?_
          refine icY X1323 hx (hb hby at_49) (q := 72) (by decide) (by decide) (by decide) ?_
          refine cI X1323 hx (hb hby at_72) (q := 73) rfl (z := (0 : Int32)) rfl ?_
          refine sIw X1323 hx (hb hby at_73) (q := 75) rfl (Ls' := #[.val (.int p0), .val (.int p1), .val (.int p2), .val (.int p3), .val (.int (3 : Int32)), .val (.int c0), .val (.int c1), .val (.int c2), .val (.ref b1288), .val (.int (0 : Int32))]) rfl ?_
          refine aLw X1323 hx (hb hby at_75) (q := 77) rfl rfl rfl ?_
          have f1330 : Old Z Z.heap.size T1323.heap := f1328.keep K1323q (allS gz1327 all0)
          refine g_st X1323 hx hZ0 hown0 (wd27 hw) (wd28 hw) (wd29 hw) (wd30 hw) (by decide) rfl (Con.back (W := 0) (rm_ilc1_6 l Z a0 hw zC SC PC vF rF SF SA SH SL b1288 t_1323 kb_1323 [(.int (StrChars.lo8 c0)), (.int (StrChars.hi8 c0)), (.int (StrChars.lo8 c1)), (.int (StrChars.hi8 c1)), (.int (StrChars.lo8 c2)), (.int (StrChars.hi8 c2))] T1323.heap f1330 q1323_1 q1323_3 q1323_2 q1323_4) hZ0 (wd30 hw) (wd29 hw) (by decide) (by decide)) (by rw [hml]; rfl) (lenOf pd18 rfl) rfl (Nat.le_of_eq rfl) (hb hby at_77) (q := 80) rfl (by decide) (by decide) ?_
          intro v1329 T1329 L1329 X1329 Q1329
          obtain ⟨rfl, Nq1329, e1329⟩ := Q1329
          have N1329 := Fr.app N1323 Nq1329
          show Go _ _ _ _ (T1329.setTop (mkF m 80 #[.val (.int p0), .val (.int p1), .val (.int p2), .val (.int p3), .val (.int (3 : Int32)), .val (.int c0), .val (.int c1), .val (.int c2), .val (.ref b1288), .val (.int (0 : Int32))] [(.int (0 : Int32))]))
          refine iLw X1329 hx (hb hby at_80) (q := 82) rfl rfl ?_
          refine icN X1329 hx (hb hby at_82) (q := 85) rfl (by decide) ?_
          refine cI X1329 hx (hb hby at_85) (q := 86) rfl (z := (1 : Int32)) rfl ?_
          refine g_goto X1329 hx (hb hby at_86) (q := 90) (by decide) (by decide) ?_
          have K1331 : Keep h0 h1288 [] := (Keep.refl h0 []).ext E1288
          have K1332 : Keep h0 T1290.heap [] := K1331.trans K1290q all0
          have gh1333 : h0.size ≤ b1288 := Nat.le_trans (Nat.le_refl _) (Nat.le_of_eq g1288.symm)
          have K1334 : Keep h0 T1323.heap [] := K1332.trans K1323q (allS (Or.inr gh1333) all0)
          have f1335 : CHr Z EL s.vm s.heap v0 h1288 := C0.trans (CHr.ext E1288 C0.1)
          have f1336 : CHr Z EL s.vm s.heap v0 T1290.heap := f1335.trans (CHr.keep K1290q sf0 f1335.1)
          have f1337 : Safe Z EL v0 h1288 b1288 := Safe.ext E1288 C0.1 sf1289
          have f1338 : Safe Z EL v0 T1290.heap b1288 := Safe.keep K1290q sf0 f1335.1 f1337
          have f1339 : CHr Z EL s.vm s.heap v0 T1323.heap := f1336.trans (CHr.keep K1323q (sfS f1338 sf0) f1336.1)
          refine endC X1329 hlk hS0 (by rw [e1329]; exact (Nat.zero_le _)) hZ0 (own_EW hw) (by rw [e1329]; exact f1339) (fun h => by rw [hret] at h; cases h) (lastN X1329 hx (t := .boolean) (z' := (1 : Int32)) hret (by simp) (by decide) (hb hby at_90)) ?_ (by decide) (by decide)
          rw [e1329]
          exact ⟨rfl, N1329, K1334⟩
        · show Go _ _ _ _ (T0.setTop (mkF m 26 #[.val (.int p0), .val (.int p1), .val (.int p2), .val (.int p3), .val (.int (3 : Int32)), .val (.int c0), .val (.int c1), .val (.int c2), .unset, .unset] []))
          refine g_new X0 hx hZ0 hown0 (wd1 hw) (wd2 hw) (wd3 hw) (by decide) (by decide) e0 (hb hby at_26) (q := 29) rfl ?_
          intro T1340 h1340 b1340 g1340 X1340 e1340 E1340 A1340 D1340
          have sf1341 : Safe Z EL v0 h0 b1340 := Safe.new (Nat.le_of_eq g1340.symm)
          have F1340_21 := D1340 (Or.inr (wd21 hw)) (ty := (.array .byte)) (by decide)
          have F1340_22 := D1340 (Or.inr (wd22 hw)) (ty := .byte) (by decide)
          refine g_dup X1340 hx (hb hby at_29) (q := 30) rfl rfl ?_
          refine iLw X1340 hx (hb hby at_30) (q := 32) rfl rfl ?_
          refine iLw X1340 hx (hb hby at_32) (q := 34) rfl rfl ?_
          refine iLw X1340 hx (hb hby at_34) (q := 36) rfl rfl ?_
          refine iLw X1340 hx (hb hby at_36) (q := 38) rfl rfl ?_
          have f1343 : Old Z Z.heap.size h1340 := O0.ext E1340
          refine g_st X1340 hx hZ0 hown0 (wd4 hw) (wd5 hw) (wd6 hw) (wd7 hw) (by decide) e1340 (Con.back (W := 2) (rm_chars3 l Z a0 hw zC SC PC vF rF SF SA SH SL c0 c1 c2 h1340 f1343 gp1185 gp1186 gp1188 gp1189 gp1191 gp1192) hZ0 (wd7 hw) (wd6 hw) (by decide) (by decide)) (by rw [hml]; rfl) (lenOf pd16 rfl) rfl (Nat.le_of_eq rfl) (hb hby at_38) (q := 41) rfl (by decide) (by decide) ?_
          intro v1342 T1342 L1342 X1342 Q1342
          obtain ⟨a_1342, kc_1342, rfl, Nq1342, K1342q, q1342_0, q1342_1⟩ := Q1342
          have N1342 := Fr.app N0 Nq1342
          show Go _ _ _ _ (T1342.setTop (mkF m 41 #[.val (.int p0), .val (.int p1), .val (.int p2), .val (.int p3), .val (.int (3 : Int32)), .val (.int c0), .val (.int c1), .val (.int c2), .unset, .unset] [(.ref a_1342), (.ref b1340), (.ref b1340)]))
          have f1345 : Old Z Z.heap.size T1342.heap := f1343.keep K1342q all0
          have gz1346 : Z.heap.size ≤ b1340 := Nat.le_trans O0.2.1 (Nat.le_of_eq g1340.symm)
          have f1347 : Exa Z T1342.heap b1340 "java/lang/String" := A1340.keep K1342q
          have f1348 : Fld Z T1342.heap b1340 "java/lang/String" "value" "[B" .null := F1340_21.keep K1342q nin0
          have f1349 : Fld Z T1342.heap b1340 "java/lang/String" "coder" "B" (.int (0 : Int32)) := F1340_22.keep K1342q nin0
          refine g_sp X1342 hx hZ0 hown0 (wd9 hw) (wd10 hw) (wd11 hw) rfl (by decide) rfl (StrChars.Road.backV (W := 1) hZ0 (own_wStr hw) (kI := 4) (wd2 hw) (cs := ([c0, c1, c2] : List Int32)) (bs := (([c0, c1, c2] : List Int32).map (fun c => c.toInt8.toInt32))) (n := 3) gz1346 f1345.2.1 f1347 f1348 f1349 q1342_1 (SC.ext f1345.2) PC rfl rfl (by decide) (by decide) (alS ⟨gp1185, k1193⟩ (alS ⟨gp1188, k1238⟩ (alS ⟨gp1191, k1287⟩ al0))) rfl (by decide) (by decide)) (a := b1340) (argsL := [.ref a_1342]) (W := 1) (nk := 1) (ns := 3) (Qc := StrChars.Road.QV Z b1340 (3 : Int32) (([c0, c1, c2] : List Int32).map (fun c => c.toInt8.toInt32)) T1342.heap Z.heap.size) (by rw [hml]; rfl) (lenOf pd17 rfl) rfl (Nat.le_of_eq rfl) (hb hby at_41) (q := 44) rfl (by decide) (by decide) ?_
          intro v1344 T1344 L1344 X1344 Q1344
          obtain ⟨rfl, Nq1344, K1344q, E1344q, C1344q, t1344, kb1344, tz1344, tg1344, tn1344, Fv1344, Va1344⟩ := Q1344
          have N1344 := Fr.app N1342 Nq1344
          have Vb1344 : Arv Z T1344.heap t1344 kb1344 .byte (3 : Int32) [(.int (StrChars.lo8 c0)), (.int (StrChars.lo8 c1)), (.int (StrChars.lo8 c2))] (.int 0) := Va1344
          show Go _ _ _ _ (T1344.setTop (mkF m 44 #[.val (.int p0), .val (.int p1), .val (.int p2), .val (.int p3), .val (.int (3 : Int32)), .val (.int c0), .val (.int c1), .val (.int c2), .unset, .unset] [(.ref b1340)]))
          refine sAw X1344 hx (hb hby at_44) (q := 46) rfl rfl (Ls' := #[.val (.int p0), .val (.int p1), .val (.int p2), .val (.int p3), .val (.int (3 : Int32)), .val (.int c0), .val (.int c1), .val (.int c2), .val (.ref b1340), .unset]) rfl ?_
          refine iLw X1344 hx (hb hby at_46) (q := 48) rfl rfl ?_
          refine cI X1344 hx (hb hby at_48) (q := 49) rfl (z := (2 : Int32)) rfl ?_
          refine icY X1344 hx (hb hby at_49) (q := 72) (by decide) (by decide) (by decide) ?_
          refine cI X1344 hx (hb hby at_72) (q := 73) rfl (z := (0 : Int32)) rfl ?_
          refine sIw X1344 hx (hb hby at_73) (q := 75) rfl (Ls' := #[.val (.int p0), .val (.int p1), .val (.int p2), .val (.int p3), .val (.int (3 : Int32)), .val (.int c0), .val (.int c1), .val (.int c2), .val (.ref b1340), .val (.int (0 : Int32))]) rfl ?_
          refine aLw X1344 hx (hb hby at_75) (q := 77) rfl rfl rfl ?_
          have f1351 : Old Z Z.heap.size T1344.heap := f1345.keep K1344q (allS gz1346 all0)
          refine g_st X1344 hx hZ0 hown0 (wd27 hw) (wd28 hw) (wd29 hw) (wd30 hw) (by decide) rfl (Con.back (W := 0) (rm_ilc0_3 l Z a0 hw zC SC PC vF rF SF SA SH SL b1340 t1344 kb1344 [(.int (StrChars.lo8 c0)), (.int (StrChars.lo8 c1)), (.int (StrChars.lo8 c2))] T1344.heap f1351 E1344q C1344q Fv1344 Vb1344) hZ0 (wd30 hw) (wd29 hw) (by decide) (by decide)) (by rw [hml]; rfl) (lenOf pd18 rfl) rfl (Nat.le_of_eq rfl) (hb hby at_77) (q := 80) rfl (by decide) (by decide) ?_
          intro v1350 T1350 L1350 X1350 Q1350
          obtain ⟨rfl, Nq1350, e1350⟩ := Q1350
          have N1350 := Fr.app N1344 Nq1350
          show Go _ _ _ _ (T1350.setTop (mkF m 80 #[.val (.int p0), .val (.int p1), .val (.int p2), .val (.int p3), .val (.int (3 : Int32)), .val (.int c0), .val (.int c1), .val (.int c2), .val (.ref b1340), .val (.int (0 : Int32))] [(.int (0 : Int32))]))
          refine iLw X1350 hx (hb hby at_80) (q := 82) rfl rfl ?_
          refine icN X1350 hx (hb hby at_82) (q := 85) rfl (by decide) ?_
          refine cI X1350 hx (hb hby at_85) (q := 86) rfl (z := (1 : Int32)) rfl ?_
          refine g_goto X1350 hx (hb hby at_86) (q := 90) (by decide) (by decide) ?_
          have K1352 : Keep h0 h1340 [] := (Keep.refl h0 []).ext E1340
          have K1353 : Keep h0 T1342.heap [] := K1352.trans K1342q all0
          have gh1354 : h0.size ≤ b1340 := Nat.le_trans (Nat.le_refl _) (Nat.le_of_eq g1340.symm)
          have K1355 : Keep h0 T1344.heap [] := K1353.trans K1344q (allS (Or.inr gh1354) all0)
          have f1356 : CHr Z EL s.vm s.heap v0 h1340 := C0.trans (CHr.ext E1340 C0.1)
          have f1357 : CHr Z EL s.vm s.heap v0 T1342.heap := f1356.trans (CHr.keep K1342q sf0 f1356.1)
          have f1358 : Safe Z EL v0 h1340 b1340 := Safe.ext E1340 C0.1 sf1341
          have f1359 : Safe Z EL v0 T1342.heap b1340 := Safe.keep K1342q sf0 f1356.1 f1358
          have f1360 : CHr Z EL s.vm s.heap v0 T1344.heap := f1357.trans (CHr.keep K1344q (sfS f1359 sf0) f1357.1)
          refine endC X1350 hlk hS0 (by rw [e1350]; exact (Nat.zero_le _)) hZ0 (own_EW hw) (by rw [e1350]; exact f1360) (fun h => by rw [hret] at h; cases h) (lastN X1350 hx (t := .boolean) (z' := (1 : Int32)) hret (by simp) (by decide) (hb hby at_90)) ?_ (by decide) (by decide)
          rw [e1350]
          exact ⟨rfl, N1350, K1355⟩
theorem own_len0 {s : State} {args : Array Value} {t : Term} {a : Addr} {c : Cell} {ty : FieldType} (hf : Fit s) (ev : t.eval args s none [] s = some (.ref a)) (A : Arr s s.heap a c ty) (h : (Jvm.Cond.eq (Term.length t) (Term.int (0 : Int32))).value args s none s [] = some true) : Arv s s.heap a c.cls ty (0 : Int32) [] .null := by
  have hA := A.fin (Vm.Alike.refl _)
  obtain ⟨xv, yv, e1, e2, -, -⟩ := cmp_v (Or.inl h)
  have hlt : c.slots.size < 2 ^ 31 := by
    by_cases hq : c.slots.size < 2 ^ 31
    · exact hq
    · simp [Term.eval, ev, hA, hq] at e1
  have e3 := len_f ev hA hlt
  have h0 := gotT (Cond.eq_ints e3 (Term.int_eval (0))) h
  exact Arv.start hf A hlt h0 (by decide) (by decide) trivial
theorem own_fld0 {s : State} {args : Array Value} {t : Term} {a : Addr} {C n d : String} {k : Int32} (ev : t.eval args s none [] s = some (.ref a)) (h : (Jvm.Cond.eq (Term.field t C n d) (Term.int k)).value args s none s [] = some true) : Fld s s.heap a C n d (.int k) := by
  obtain ⟨xv, yv, e1, e2, k1, k2⟩ := cmp_v (Or.inl h)
  cases (Term.int_eval k).symm.trans e2
  obtain ⟨z, rfl⟩ := k2
  have h0 := gotT (Cond.eq_ints e1 (Term.int_eval k)) h
  subst h0
  exact Fld.start ((fld_at ev).symm.trans e1)
theorem own_sta {s : State} {args : Array Value} {C n d : String} {k : Int32} (h : (Jvm.Cond.eq (Term.static C n d) (Term.int k)).before args s = true) (w : (Jvm.Cond.initializedFor C n d).before args s = true) : Sta s s.heap C n d (.int k) := by
  have h := Cond.before_iff.mp h
  obtain ⟨xv, yv, e1, e2, k1, k2⟩ := cmp_v (Or.inl h)
  cases (Term.int_eval k).symm.trans e2
  obtain ⟨z, rfl⟩ := k2
  have h0 := gotT (Cond.eq_ints e1 (Term.int_eval k)) h
  subst h0
  exact Sta.start e1 (Or.inl w)
set_option maxRecDepth 65536 in
set_option maxHeartbeats 40000000 in
theorem comes_1 {Post : Tables → Env → Array Value → State → Outcome → State → Prop} (hpost : ∀ tb e args s v u, (limb_1_1.after args s (.returned v) u = true ∧ limb_1_2.after args s (.returned v) u = true) → ReturnedEndW s (.returned v) u (Jvm.fieldLocs frame_1_writes args s ++ Jvm.arrayLocs frame_1_arrays args s ++ Jvm.staticLocs frame_1_statics s) 24 1152 → Post tb e args s (.returned v) u) :
    ArmFor flags0 classFile x code maxLocals ret World_1 tables_1 room_1 Calls_1 rest_1 Pre_1 Post := by
  intro l hfl _ _ p e ha hc hk s m args below hf hA hF happ hP
  obtain ⟨hcalls, hrest, hpre⟩ := hP
  obtain ⟨-, -, -, hnamed, -, -, -, hat⟩ := (Spec.applies_iff hf).mp happ
  obtain ⟨hg, hn⟩ := and_e (Cond.before_iff.mp (show (Jvm.Cond.and given_1 narrow_1).before args s = true from hpre))
  obtain ⟨g0, r0⟩ := and_e hg
  obtain ⟨i0, r1⟩ := and_e r0
  obtain ⟨i1, r2⟩ := and_e r1
  obtain ⟨i2, r3⟩ := and_e r2
  obtain ⟨w0, w1, w2, w3, rfl⟩ : ∃ w0 w1 w2 w3 : Value, args = #[w0, w1, w2, w3] := by
    have hs : args.size = 4 := by simpa [Cond.value, given_1] using g0
    obtain ⟨L⟩ := args
    match L, hs with
    | [w0, w1, w2, w3], _ => exact ⟨w0, w1, w2, w3, rfl⟩
  have hw := fun d (hd : d ∈ tables_1) => atoms_spec (ws := Jvm.Cond.code x code maxLocals ret :: tables_1) hat d (List.mem_cons_of_mem _ hd)
  obtain ⟨hsets, hown0⟩ := atoms_of _ (rest_1_c_eq ▸ (show rest_1_c.before _ s = true from hrest))
  have hfit : Fit s := fun {y c} hc i hi => by
    obtain ⟨ha, rfl⟩ := Array.getElem?_eq_some_iff.mp hc
    have q := List.all_eq_true.mp ((Array.all_eq_true_iff_forall_mem.mp hF) _ (Array.getElem_mem ha)) i (List.mem_range.mpr hi)
    simpa [Array.getElem?_eq_getElem hi] using q
  obtain ⟨z0, q0⟩ := is_v i0
  obtain rfl : w0 = (.int z0) := Option.some.inj q0
  obtain ⟨z1, q1⟩ := is_v i1
  obtain rfl : w1 = (.int z1) := Option.some.inj q1
  obtain ⟨z2, q2⟩ := is_v i2
  obtain rfl : w2 = (.int z2) := Option.some.inj q2
  obtain ⟨z3, q3⟩ := is_v r3
  obtain rfl : w3 = (.int z3) := Option.some.inj q3
  have n5 := not_v (Cond.before_iff.mp (hsets _ (List.mem_of_getElem? (i := 2) rfl)))
  obtain ⟨zC, ezC⟩ := is_v (Cond.before_iff.mp (hsets _ (List.mem_of_getElem? (i := 1) rfl)))
  have SC : Sta s s.heap "java/lang/String" "COMPACT_STRINGS" "Z" (.int zC) := Sta.start ezC (Or.inl (hsets _ (List.mem_of_getElem? (i := 0) rfl)))
  have PC : ¬ (zC = (0 : Int32)) := gotF (Cond.eq_ints ezC (Term.int_eval (0))) n5
  obtain ⟨vF, eF, rF0⟩ := isR_v (Cond.before_iff.mp (hsets _ (List.mem_of_getElem? (i := 8) rfl)))
  have rF := ref_cases rF0
  have SF : Sta s s.heap "jdk/internal/util/Preconditions" "SIOOBE_FORMATTER" "Ljava/util/function/BiFunction;" vF := Sta.start eF (Or.inl (hsets _ (List.mem_of_getElem? (i := 7) rfl)))
  have SA := own_sta (hsets _ (List.mem_of_getElem? (i := 12) rfl)) (hsets _ (List.mem_of_getElem? (i := 11) rfl))
  have SH := own_sta (hsets _ (List.mem_of_getElem? (i := 15) rfl)) (hsets _ (List.mem_of_getElem? (i := 14) rfl))
  have SL := own_sta (hsets _ (List.mem_of_getElem? (i := 18) rfl)) (hsets _ (List.mem_of_getElem? (i := 17) rfl))
  have hCH : CHv s EL s.vm s.heap := CHv.start (own_EW hw) hcalls.1 (hsets _ (List.mem_of_getElem? (i := 2) rfl)) (wd20 hw) (wd2 hw)
  obtain ⟨n, o, h1, h2, h3, _, L, rfl, hq1, -, hq⟩ := rm_law l s _ hw zC SC PC vF rF SF SA SH SL z0 z1 z2 z3  s.heap (Old.start s)  tables_1 p e ha hc hk s m _ below hf ((Spec.applies_iff_loose hf).mp happ).1 ⟨rfl, State.Warmed39.refl s, rfl, hCH, fun _ q => nomatch q⟩ trivial
  obtain ⟨rfl, N, -⟩ := hq1
  exact ⟨n, _, h1, h2, h3, hpost _ _ _ _ _ _ ⟨Cond.after_iff.mpr rfl, Cond.after_iff.mpr (eq_i res_at (Term.int_eval (1)) rfl)⟩ ⟨hq.1, hq.2.1, hq.2.2.1, hq.2.2.2.sift fun y hy => Or.inr (N y hy)⟩⟩
theorem main_1_1 : Claimed_1_1 := comes_1 fun _ _ _ _ _ _ h hF => ⟨h.1, hF⟩
theorem main_1_2 : Claimed_1_2 := comes_1 fun _ _ _ _ _ _ h hF => ⟨h.2, hF⟩
end Jvm.Pilot.@@N@@
namespace Jvm.Pilot.@@N@@
open Jvm Jvm.ClassFile Sem Op Lib Jvm.Free Jvm.Stand Jvm.Pilot.@@N@@.Jvm.D
/-! MADE BY PROGRAM (witnessworld.py) out of the Statement's table words and the real class files: 21 classes; the members and pool entries that the words name. The judged class is class 1, her method 1. -/
namespace start1
open Jvm.ClassFile
def u (s : String) : CpInfo := .utf8 (stringToUtf16 s)
/-- a pool by its gaps: so many unusable entries, then the entry; so many at the end -/
def gap : Nat → List CpInfo → List CpInfo
  | 0, r => r
  | n + 1, r => .unusable :: gap n r
def poolList (es : List (Nat × CpInfo)) (last : Nat) : List CpInfo := es.foldr (fun e r => gap e.1 (e.2 :: r)) (gap last [])
def pool (es : List (Nat × CpInfo)) (last : Nat) : Array CpInfo := ⟨poolList es last⟩
def fileOf (pool : Array CpInfo) (this : Nat) (attrs : Array Attribute := #[]) (ms : Array MethodInfo := #[]) (fl : Nat := 33) (sup : Nat := 0) (ifs : Array Nat := #[]) (fds : Array FieldInfo := #[]) : ClassFile where
  minorVersion := 0
  majorVersion := 65
  constantPool := pool
  accessFlags := fl
  thisClass := this
  superClass := sup
  interfaces := ifs
  fields := fds
  methods := ms
  attributes := attrs
def plain (name : String) (sup : Option ClassId) : Class where
  name := name
  kind := .ordinary
  loader := none
  accessFlags := 33
  super := sup
  interfaces := #[]
  cf := none
  fields := #[]
  methods := #[]
  instanceTypes := #[]
  staticTypes := #[]
  resolved := #[]
  callSites := []
  init := .initialized
  statics := none
  mirror := none

def pool0 : Array CpInfo := pool [(5, u "<init>"), (0, u "()V"), (1, .class_ 10), (1, u "java/lang/Object")] 113

def k0c0 : Code := { maxStack := 0, maxLocals := 1, code := object_method_1_code, exceptionTable := #[], attributes := #[] }
def k0m0 : Method := { name := "<init>", desc := "()V", sig := { parameters := [], returnType := none }, accessFlags := 1, code := some k0c0 }
/-- java/lang/Object -/
def k0 : Class := { plain "java/lang/Object" none with
  accessFlags := 33
  interfaces := #[]
  cf := some (fileOf pool0 8 #[] #[{ accessFlags := 1, nameIndex := 5, descriptorIndex := 6, attributes := #[] }] 33 0 #[] #[])
  fields := #[]
  methods := #[k0m0]
  instanceTypes := #[]
  staticTypes := #[]
  resolved := Array.replicate 124 none
  statics := none }

def pool1 : Array CpInfo := pool [(2, .class_ 4), (1, u "java/lang/Object"), (0, u "<init>"), (0, u "()V"), (0, .integer 65535), (0, .class_ 9), (0, u "java/lang/String"), (0, .methodref 11 12), (0, .class_ 13), (0, .nameAndType 14 15), (0, u "com/example/anteriorita/anteriorita/PatentRecordIsLanguageCodePinLaw"), (0, u "chars"), (0, u "(ICCC)[C"), (0, .methodref 8 17), (0, .nameAndType 5 18), (0, u "([C)V"), (0, .methodref 11 20), (0, .nameAndType 21 22), (0, u "lower"), (0, u "(C)Z"), (0, .methodref 24 25), (0, .class_ 26), (0, .nameAndType 27 28), (0, u "com/example/anteriorita/anteriorita/PatentRecord"), (0, u "isLanguageCode"), (0, u "(Ljava/lang/String;)Z"), (2, u "law"), (0, u "(IIII)Z")] 3

def k1m0 : Method := { name := "<init>", desc := "()V", sig := { parameters := [], returnType := none }, accessFlags := 2, code := none }
def k1c1 : Code := { maxStack := 6, maxLocals := 10, code := code, exceptionTable := #[], attributes := #[] }
def k1m1 : Method := { name := "law", desc := "(IIII)Z", sig := { parameters := [.int, .int, .int, .int], returnType := some .boolean }, accessFlags := 9, code := some k1c1 }
def k1c2 : Code := { maxStack := 2, maxLocals := 2, code := method_3_code, exceptionTable := #[], attributes := #[] }
def k1m2 : Method := { name := "lower", desc := "(C)Z", sig := { parameters := [.char], returnType := some .boolean }, accessFlags := 10, code := some k1c2 }
def k1c3 : Code := { maxStack := 4, maxLocals := 4, code := method_4_code, exceptionTable := #[], attributes := #[] }
def k1m3 : Method := { name := "chars", desc := "(ICCC)[C", sig := { parameters := [.int, .char, .char, .char], returnType := some (.array .char) }, accessFlags := 10, code := some k1c3 }
/-- com/example/anteriorita/anteriorita/PatentRecordIsLanguageCodePinLaw -/
def k1 : Class := { plain "com/example/anteriorita/anteriorita/PatentRecordIsLanguageCodePinLaw" (some 0) with
  accessFlags := 49
  interfaces := #[]
  cf := some (fileOf pool1 11 #[] #[{ accessFlags := 2, nameIndex := 5, descriptorIndex := 6, attributes := #[] }, { accessFlags := 9, nameIndex := 31, descriptorIndex := 32, attributes := #[] }, { accessFlags := 10, nameIndex := 21, descriptorIndex := 22, attributes := #[] }, { accessFlags := 10, nameIndex := 14, descriptorIndex := 15, attributes := #[] }] 49 2 #[] #[])
  fields := #[]
  methods := #[k1m0, k1m1, k1m2, k1m3]
  instanceTypes := #[]
  staticTypes := #[]
  resolved := Array.replicate 36 none
  statics := none }

def pool2 : Array CpInfo := pool [(1, .class_ 2), (0, u "java/io/Serializable"), (0, .class_ 4), (0, u "java/lang/Object")] 2

/-- java/io/Serializable -/
def k2 : Class := { plain "java/io/Serializable" (some 0) with
  accessFlags := 1537
  interfaces := #[]
  cf := some (fileOf pool2 1 #[] #[] 1537 3 #[] #[])
  fields := #[]
  methods := #[]
  instanceTypes := #[]
  staticTypes := #[]
  resolved := Array.replicate 7 none
  statics := none }

def pool3 : Array CpInfo := pool [(1, .class_ 2), (0, u "java/lang/Comparable"), (0, .class_ 4), (0, u "java/lang/Object")] 7

/-- java/lang/Comparable -/
def k3 : Class := { plain "java/lang/Comparable" (some 0) with
  accessFlags := 1537
  interfaces := #[]
  cf := some (fileOf pool3 1 #[] #[] 1537 3 #[] #[])
  fields := #[]
  methods := #[]
  instanceTypes := #[]
  staticTypes := #[]
  resolved := Array.replicate 12 none
  statics := none }

def pool4 : Array CpInfo := pool [(2, .class_ 4), (1, u "java/lang/CharSequence"), (42, .class_ 48), (0, u "java/lang/CharSequence$1CodePointIterator"), (10, .class_ 60), (0, u "java/lang/CharSequence$1CharIterator"), (5, .class_ 67), (0, u "java/lang/Object")] 63

/-- java/lang/CharSequence -/
def k4 : Class := { plain "java/lang/CharSequence" (some 0) with
  accessFlags := 1537
  interfaces := #[]
  cf := some (fileOf pool4 2 #[.nestMembers #[47, 59]] #[] 1537 66 #[] #[])
  fields := #[]
  methods := #[]
  instanceTypes := #[]
  staticTypes := #[]
  resolved := Array.replicate 131 none
  statics := none }

def pool5 : Array CpInfo := pool [(1, .class_ 2), (0, u "java/lang/constant/Constable"), (0, .class_ 4), (0, u "java/lang/Object")] 6

/-- java/lang/constant/Constable -/
def k5 : Class := { plain "java/lang/constant/Constable" (some 0) with
  accessFlags := 1537
  interfaces := #[]
  cf := some (fileOf pool5 1 #[] #[] 1537 3 #[] #[])
  fields := #[]
  methods := #[]
  instanceTypes := #[]
  staticTypes := #[]
  resolved := Array.replicate 11 none
  statics := none }

def pool6 : Array CpInfo := pool [(1, .class_ 2), (0, u "java/lang/constant/ConstantDesc"), (0, .class_ 4), (0, u "java/lang/Object")] 32

/-- java/lang/constant/ConstantDesc -/
def k6 : Class := { plain "java/lang/constant/ConstantDesc" (some 0) with
  accessFlags := 1537
  interfaces := #[]
  cf := some (fileOf pool6 1 #[] #[] 1537 3 #[] #[])
  fields := #[]
  methods := #[]
  instanceTypes := #[]
  staticTypes := #[]
  resolved := Array.replicate 37 none
  statics := none }

def pool7 : Array CpInfo := pool [(1, .methodref 2 3), (0, .class_ 4), (0, .nameAndType 5 6), (0, u "java/lang/Object"), (0, u "<init>"), (0, u "()V"), (0, .string 8), (0, u ""), (0, .fieldref 10 11), (0, .class_ 12), (0, .nameAndType 13 14), (0, u "java/lang/String"), (0, u "value"), (0, u "[B"), (0, .fieldref 10 16), (0, .nameAndType 17 18), (0, u "coder"), (0, u "B"), (2, u "hash"), (0, u "I"), (2, u "hashIsZero"), (0, u "Z"), (0, .methodref 10 28), (0, .nameAndType 5 29), (0, u "([CIILjava/lang/Void;)V"), (8, .fieldref 10 39), (0, .nameAndType 40 26), (0, u "COMPACT_STRINGS"), (1, .class_ 44), (1, u "java/lang/StringUTF16"), (0, u "compress"), (1, .methodref 42 48), (0, .nameAndType 49 50), (0, u "coderFromArrayLen"), (0, u "([BI)B"), (56, .class_ 109), (1, u "java/lang/StringLatin1"), (32, u "()Z"), (34, .methodref 42 178), (0, .nameAndType 45 179), (0, u "([CII)[B"), (154, u "()I"), (0, .methodref 10 336), (0, .nameAndType 17 337), (0, u "()B"), (25, u "([BI)C"), (27, u "(II)V"), (35, u "(I)C"), (64, .methodref 10 493), (0, .nameAndType 494 142), (0, u "isLatin1"), (0, .methodref 107 496), (0, .nameAndType 497 363), (0, u "charAt"), (0, .methodref 42 496), (2, u "checkIndex"), (5, u "length"), (67, .class_ 576), (0, u "java/lang/CharSequence"), (22, u "CASE_INSENSITIVE_ORDER"), (0, u "Ljava/util/Comparator;"), (409, u "([C)V"), (42, .fieldref 1054 1055), (0, .class_ 1056), (0, .nameAndType 1057 1058), (0, u "jdk/internal/util/Preconditions"), (0, u "SIOOBE_FORMATTER"), (0, u "Ljava/util/function/BiFunction;"), (0, .methodref 1054 1060), (0, .nameAndType 501 1061), (0, u "(IILjava/util/function/BiFunction;)I"), (39, u "serialPersistentFields"), (0, u "[Ljava/io/ObjectStreamField;"), (0, .class_ 1104), (0, u "java/lang/String$CaseInsensitiveComparator"), (1, .class_ 1107), (0, u "java/io/Serializable"), (0, .class_ 1109), (0, u "java/lang/Comparable"), (0, .class_ 1111), (0, u "java/lang/constant/Constable"), (0, .class_ 1113), (0, u "java/lang/constant/ConstantDesc"), (2, u "serialVersionUID"), (0, u "J"), (3, u "REPL"), (0, u "C"), (2, u "LATIN1"), (1, u "UTF16")] 323

def k7m0 : Method := { name := "<init>", desc := "()V", sig := { parameters := [], returnType := none }, accessFlags := 1, code := none }
def k7c1 : Code := { maxStack := 5, maxLocals := 2, code := jdk_42_method_3_code, exceptionTable := #[], attributes := #[] }
def k7m1 : Method := { name := "<init>", desc := "([C)V", sig := { parameters := [(.array .char)], returnType := none }, accessFlags := 1, code := some k7c1 }
def k7c2 : Code := { maxStack := 2, maxLocals := 1, code := jdk_42_method_54_code, exceptionTable := #[], attributes := #[] }
def k7m2 : Method := { name := "length", desc := "()I", sig := { parameters := [], returnType := some .int }, accessFlags := 1, code := some k7c2 }
def k7c3 : Code := { maxStack := 2, maxLocals := 2, code := jdk_42_method_56_code, exceptionTable := #[], attributes := #[] }
def k7m3 : Method := { name := "charAt", desc := "(I)C", sig := { parameters := [.int], returnType := some .char }, accessFlags := 1, code := some k7c3 }
def k7c4 : Code := { maxStack := 4, maxLocals := 6, code := jdk_42_method_149_code, exceptionTable := #[], attributes := #[] }
def k7m4 : Method := { name := "<init>", desc := "([CIILjava/lang/Void;)V", sig := { parameters := [(.array .char), .int, .int, (.object "java/lang/Void")], returnType := none }, accessFlags := 2, code := some k7c4 }
def k7c5 : Code := { maxStack := 1, maxLocals := 1, code := jdk_42_method_152_code, exceptionTable := #[], attributes := #[] }
def k7m5 : Method := { name := "coder", desc := "()B", sig := { parameters := [], returnType := some .byte }, accessFlags := 0, code := some k7c5 }
def k7c6 : Code := { maxStack := 1, maxLocals := 1, code := jdk_42_method_154_code, exceptionTable := #[], attributes := #[] }
def k7m6 : Method := { name := "isLatin1", desc := "()Z", sig := { parameters := [], returnType := some .boolean }, accessFlags := 0, code := some k7c6 }
def k7c7 : Code := { maxStack := 3, maxLocals := 2, code := jdk_42_method_155_code, exceptionTable := #[], attributes := #[] }
def k7m7 : Method := { name := "checkIndex", desc := "(II)V", sig := { parameters := [.int, .int], returnType := none }, accessFlags := 8, code := some k7c7 }
/-- java/lang/String -/
def k7 : Class := { plain "java/lang/String" (some 0) with
  accessFlags := 49
  interfaces := #[2, 3, 4, 5, 6]
  cf := some (fileOf pool7 10 #[.nestMembers #[1103]] #[{ accessFlags := 1, nameIndex := 5, descriptorIndex := 6, attributes := #[] }, { accessFlags := 1, nameIndex := 5, descriptorIndex := 1010, attributes := #[] }, { accessFlags := 1, nameIndex := 507, descriptorIndex := 334, attributes := #[] }, { accessFlags := 1, nameIndex := 497, descriptorIndex := 427, attributes := #[] }, { accessFlags := 2, nameIndex := 5, descriptorIndex := 29, attributes := #[] }, { accessFlags := 0, nameIndex := 17, descriptorIndex := 337, attributes := #[] }, { accessFlags := 0, nameIndex := 494, descriptorIndex := 142, attributes := #[] }, { accessFlags := 8, nameIndex := 501, descriptorIndex := 391, attributes := #[] }] 49 2 #[1106, 1108, 575, 1110, 1112] #[{ accessFlags := 18, nameIndex := 13, descriptorIndex := 14, attributes := #[] }, { accessFlags := 18, nameIndex := 17, descriptorIndex := 18, attributes := #[] }, { accessFlags := 2, nameIndex := 21, descriptorIndex := 22, attributes := #[] }, { accessFlags := 2, nameIndex := 25, descriptorIndex := 26, attributes := #[] }, { accessFlags := 26, nameIndex := 1116, descriptorIndex := 1117, attributes := #[] }, { accessFlags := 24, nameIndex := 40, descriptorIndex := 26, attributes := #[] }, { accessFlags := 26, nameIndex := 1101, descriptorIndex := 1102, attributes := #[] }, { accessFlags := 26, nameIndex := 1121, descriptorIndex := 1122, attributes := #[] }, { accessFlags := 25, nameIndex := 599, descriptorIndex := 600, attributes := #[] }, { accessFlags := 24, nameIndex := 1125, descriptorIndex := 18, attributes := #[] }, { accessFlags := 24, nameIndex := 1127, descriptorIndex := 18, attributes := #[] }])
  fields := #[{ name := "value", type := (.array .byte), accessFlags := 18, slot := 0, constantValue := 0 }, { name := "coder", type := .byte, accessFlags := 18, slot := 1, constantValue := 0 }, { name := "hash", type := .int, accessFlags := 2, slot := 2, constantValue := 0 }, { name := "hashIsZero", type := .boolean, accessFlags := 2, slot := 3, constantValue := 0 }, { name := "serialVersionUID", type := .long, accessFlags := 26, slot := 0, constantValue := 0 }, { name := "COMPACT_STRINGS", type := .boolean, accessFlags := 24, slot := 1, constantValue := 0 }, { name := "serialPersistentFields", type := (.array (.object "java/io/ObjectStreamField")), accessFlags := 26, slot := 2, constantValue := 0 }, { name := "REPL", type := .char, accessFlags := 26, slot := 3, constantValue := 0 }, { name := "CASE_INSENSITIVE_ORDER", type := (.object "java/util/Comparator"), accessFlags := 25, slot := 4, constantValue := 0 }, { name := "LATIN1", type := .byte, accessFlags := 24, slot := 5, constantValue := 0 }, { name := "UTF16", type := .byte, accessFlags := 24, slot := 6, constantValue := 0 }]
  methods := #[k7m0, k7m1, k7m2, k7m3, k7m4, k7m5, k7m6, k7m7]
  instanceTypes := #[(.array .byte), .byte, .int, .boolean]
  staticTypes := #[.long, .boolean, (.array (.object "java/io/ObjectStreamField")), .char, (.object "java/util/Comparator"), .byte, .byte]
  resolved := Array.replicate 1451 none
  statics := some 0 }

def pool8 : Array CpInfo := pool [(2, .class_ 4), (1, u "java/lang/Object"), (0, u "<init>"), (0, u "()V"), (0, .class_ 8), (0, u "java/lang/Record")] 13

def k8m0 : Method := { name := "<init>", desc := "()V", sig := { parameters := [], returnType := none }, accessFlags := 4, code := none }
/-- java/lang/Record -/
def k8 : Class := { plain "java/lang/Record" (some 0) with
  accessFlags := 1057
  interfaces := #[]
  cf := some (fileOf pool8 7 #[] #[{ accessFlags := 4, nameIndex := 5, descriptorIndex := 6, attributes := #[] }] 1057 2 #[] #[])
  fields := #[]
  methods := #[k8m0]
  instanceTypes := #[]
  staticTypes := #[]
  resolved := Array.replicate 22 none
  statics := none }

def pool9 : Array CpInfo := pool [(2, .class_ 4), (1, u "java/lang/Record"), (3, u "id"), (13, u "lang"), (1, .class_ 26), (1, u "com/example/anteriorita/anteriorita/PatentRecord"), (7, u "Ljava/lang/String;"), (2, u "kinds"), (0, u "Ljava/util/List;"), (4, u "title"), (0, u "Ljava/util/Map;"), (2, u "abstractText"), (2, u "description"), (2, u "claims"), (2, u "ipc"), (1, .class_ 60), (1, u "java/lang/String"), (2, .methodref 58 64), (0, .nameAndType 65 66), (0, u "length"), (0, u "()I"), (0, .methodref 58 68), (0, .nameAndType 69 70), (0, u "charAt"), (0, u "(I)C"), (13, .class_ 86), (1, u "com/example/anteriorita/anteriorita/PatentRecord$1"), (130, u "ENGLISH"), (1, u "INVALID_ID"), (2, u "EXT_ABSTRACT_PARAGRAPHS"), (0, u "I"), (7, u "(Ljava/lang/String;)Z"), (1, u "isLanguageCode")] 37

def k9c0 : Code := { maxStack := 2, maxLocals := 1, code := prog_13_method_4_code, exceptionTable := #[], attributes := #[] }
def k9m0 : Method := { name := "isLanguageCode", desc := "(Ljava/lang/String;)Z", sig := { parameters := [(.object "java/lang/String")], returnType := some .boolean }, accessFlags := 9, code := some k9c0 }
/-- com/example/anteriorita/anteriorita/PatentRecord -/
def k9 : Class := { plain "com/example/anteriorita/anteriorita/PatentRecord" (some 8) with
  accessFlags := 49
  interfaces := #[]
  cf := some (fileOf pool9 24 #[.nestMembers #[84]] #[{ accessFlags := 9, nameIndex := 233, descriptorIndex := 231, attributes := #[] }] 49 2 #[] #[{ accessFlags := 18, nameIndex := 8, descriptorIndex := 34, attributes := #[] }, { accessFlags := 18, nameIndex := 37, descriptorIndex := 38, attributes := #[] }, { accessFlags := 18, nameIndex := 22, descriptorIndex := 34, attributes := #[] }, { accessFlags := 18, nameIndex := 43, descriptorIndex := 44, attributes := #[] }, { accessFlags := 18, nameIndex := 47, descriptorIndex := 44, attributes := #[] }, { accessFlags := 18, nameIndex := 50, descriptorIndex := 44, attributes := #[] }, { accessFlags := 18, nameIndex := 53, descriptorIndex := 44, attributes := #[] }, { accessFlags := 18, nameIndex := 56, descriptorIndex := 38, attributes := #[] }, { accessFlags := 25, nameIndex := 217, descriptorIndex := 34, attributes := #[] }, { accessFlags := 25, nameIndex := 219, descriptorIndex := 34, attributes := #[] }, { accessFlags := 25, nameIndex := 222, descriptorIndex := 223, attributes := #[] }])
  fields := #[{ name := "id", type := (.object "java/lang/String"), accessFlags := 18, slot := 0, constantValue := 0 }, { name := "kinds", type := (.object "java/util/List"), accessFlags := 18, slot := 1, constantValue := 0 }, { name := "lang", type := (.object "java/lang/String"), accessFlags := 18, slot := 2, constantValue := 0 }, { name := "title", type := (.object "java/util/Map"), accessFlags := 18, slot := 3, constantValue := 0 }, { name := "abstractText", type := (.object "java/util/Map"), accessFlags := 18, slot := 4, constantValue := 0 }, { name := "description", type := (.object "java/util/Map"), accessFlags := 18, slot := 5, constantValue := 0 }, { name := "claims", type := (.object "java/util/Map"), accessFlags := 18, slot := 6, constantValue := 0 }, { name := "ipc", type := (.object "java/util/List"), accessFlags := 18, slot := 7, constantValue := 0 }, { name := "ENGLISH", type := (.object "java/lang/String"), accessFlags := 25, slot := 0, constantValue := 0 }, { name := "INVALID_ID", type := (.object "java/lang/String"), accessFlags := 25, slot := 1, constantValue := 0 }, { name := "EXT_ABSTRACT_PARAGRAPHS", type := .int, accessFlags := 25, slot := 2, constantValue := 0 }]
  methods := #[k9m0]
  instanceTypes := #[(.object "java/lang/String"), (.object "java/util/List"), (.object "java/lang/String"), (.object "java/util/Map"), (.object "java/util/Map"), (.object "java/util/Map"), (.object "java/util/Map"), (.object "java/util/List")]
  staticTypes := #[(.object "java/lang/String"), (.object "java/lang/String"), .int]
  resolved := Array.replicate 271 none
  statics := none }

def pool10 : Array CpInfo := pool [(3, .class_ 4), (0, u "java/lang/String"), (1, .class_ 8), (1, u "java/lang/Object"), (0, u "<init>"), (0, u "()V"), (0, .methodref 12 13), (0, .class_ 14), (0, .nameAndType 15 16), (0, u "java/lang/StringUTF16"), (0, u "newBytesLength"), (0, u "(I)I"), (3, .integer 1073741823), (23, .fieldref 12 45), (0, .nameAndType 46 47), (0, u "$assertionsDisabled"), (0, u "Z"), (0, .methodref 12 49), (0, .nameAndType 50 51), (0, u "length"), (0, u "([B)I"), (7, .fieldref 12 60), (0, .nameAndType 61 62), (0, u "HI_BYTE_SHIFT"), (0, u "I"), (0, .fieldref 12 64), (0, .nameAndType 65 62), (0, u "LO_BYTE_SHIFT"), (1, .methodref 12 68), (0, .nameAndType 69 70), (0, u "checkIndex"), (0, u "(I[B)V"), (0, .methodref 12 72), (0, .nameAndType 73 74), (0, u "getChar"), (0, u "([BI)C"), (32, .methodref 12 108), (0, .nameAndType 109 110), (0, u "newBytesFor"), (0, u "(I)[B"), (0, .methodref 12 112), (0, .nameAndType 113 114), (0, u "putChar"), (0, u "([BII)V"), (0, .methodref 12 116), (0, .nameAndType 117 118), (0, u "compress"), (0, u "([CI[BII)I"), (0, .methodref 12 120), (0, .nameAndType 121 122), (0, u "toBytes"), (0, u "([CII)[B"), (138, u "coderFromArrayLen"), (0, u "([BI)B"), (106, .class_ 371), (1, u "java/lang/StringUTF16$LinesSpliterator"), (20, u "charAt"), (21, .methodref 3 415), (0, .nameAndType 69 416), (0, u "(II)V"), (13, u "MAX_LENGTH"), (196, .class_ 628), (0, u "java/lang/StringUTF16$CodePointsSpliterator"), (0, .class_ 630), (0, u "java/lang/StringUTF16$CharsSpliterator")] 4

def k10m0 : Method := { name := "<init>", desc := "()V", sig := { parameters := [], returnType := none }, accessFlags := 0, code := none }
def k10c1 : Code := { maxStack := 1, maxLocals := 1, code := jdk_52_method_2_code, exceptionTable := #[], attributes := #[] }
def k10m1 : Method := { name := "newBytesFor", desc := "(I)[B", sig := { parameters := [.int], returnType := some (.array .byte) }, accessFlags := 9, code := some k10c1 }
def k10c2 : Code := { maxStack := 4, maxLocals := 1, code := jdk_52_method_3_code, exceptionTable := #[], attributes := #[] }
def k10m2 : Method := { name := "newBytesLength", desc := "(I)I", sig := { parameters := [.int], returnType := some .int }, accessFlags := 9, code := some k10c2 }
def k10c3 : Code := { maxStack := 4, maxLocals := 3, code := jdk_52_method_4_code, exceptionTable := #[], attributes := #[] }
def k10m3 : Method := { name := "putChar", desc := "([BII)V", sig := { parameters := [(.array .byte), .int, .int], returnType := none }, accessFlags := 8, code := some k10c3 }
def k10c4 : Code := { maxStack := 3, maxLocals := 2, code := jdk_52_method_5_code, exceptionTable := #[], attributes := #[] }
def k10m4 : Method := { name := "getChar", desc := "([BI)C", sig := { parameters := [(.array .byte), .int], returnType := some .char }, accessFlags := 8, code := some k10c4 }
def k10c5 : Code := { maxStack := 2, maxLocals := 1, code := jdk_52_method_6_code, exceptionTable := #[], attributes := #[] }
def k10m5 : Method := { name := "length", desc := "([B)I", sig := { parameters := [(.array .byte)], returnType := some .int }, accessFlags := 9, code := some k10c5 }
def k10c6 : Code := { maxStack := 4, maxLocals := 5, code := jdk_52_method_14_code, exceptionTable := #[], attributes := #[] }
def k10m6 : Method := { name := "toBytes", desc := "([CII)[B", sig := { parameters := [(.array .char), .int, .int], returnType := some (.array .byte) }, accessFlags := 9, code := some k10c6 }
def k10c7 : Code := { maxStack := 2, maxLocals := 2, code := jdk_52_method_15_code, exceptionTable := #[], attributes := #[] }
def k10m7 : Method := { name := "coderFromArrayLen", desc := "([BI)B", sig := { parameters := [(.array .byte), .int], returnType := some .byte }, accessFlags := 8, code := some k10c7 }
def k10c8 : Code := { maxStack := 5, maxLocals := 6, code := jdk_52_method_16_code, exceptionTable := #[], attributes := #[] }
def k10m8 : Method := { name := "compress", desc := "([CII)[B", sig := { parameters := [(.array .char), .int, .int], returnType := some (.array .byte) }, accessFlags := 9, code := some k10c8 }
def k10c9 : Code := { maxStack := 3, maxLocals := 7, code := jdk_52_method_21_code, exceptionTable := #[], attributes := #[] }
def k10m9 : Method := { name := "compress", desc := "([CI[BII)I", sig := { parameters := [(.array .char), .int, (.array .byte), .int, .int], returnType := some .int }, accessFlags := 9, code := some k10c9 }
def k10c10 : Code := { maxStack := 2, maxLocals := 2, code := jdk_52_method_83_code, exceptionTable := #[], attributes := #[] }
def k10m10 : Method := { name := "charAt", desc := "([BI)C", sig := { parameters := [(.array .byte), .int], returnType := some .char }, accessFlags := 9, code := some k10c10 }
def k10c11 : Code := { maxStack := 2, maxLocals := 2, code := jdk_52_method_91_code, exceptionTable := #[], attributes := #[] }
def k10m11 : Method := { name := "checkIndex", desc := "(I[B)V", sig := { parameters := [.int, (.array .byte)], returnType := none }, accessFlags := 9, code := some k10c11 }
/-- java/lang/StringUTF16 -/
def k10 : Class := { plain "java/lang/StringUTF16" (some 0) with
  accessFlags := 48
  interfaces := #[]
  cf := some (fileOf pool10 12 #[.nestMembers #[627, 629, 369]] #[{ accessFlags := 0, nameIndex := 9, descriptorIndex := 10, attributes := #[] }, { accessFlags := 9, nameIndex := 109, descriptorIndex := 110, attributes := #[] }, { accessFlags := 9, nameIndex := 15, descriptorIndex := 16, attributes := #[] }, { accessFlags := 8, nameIndex := 113, descriptorIndex := 114, attributes := #[] }, { accessFlags := 8, nameIndex := 73, descriptorIndex := 74, attributes := #[] }, { accessFlags := 9, nameIndex := 50, descriptorIndex := 51, attributes := #[] }, { accessFlags := 9, nameIndex := 121, descriptorIndex := 122, attributes := #[] }, { accessFlags := 8, nameIndex := 261, descriptorIndex := 262, attributes := #[] }, { accessFlags := 9, nameIndex := 117, descriptorIndex := 122, attributes := #[] }, { accessFlags := 9, nameIndex := 117, descriptorIndex := 118, attributes := #[] }, { accessFlags := 9, nameIndex := 392, descriptorIndex := 74, attributes := #[] }, { accessFlags := 9, nameIndex := 69, descriptorIndex := 70, attributes := #[] }] 48 6 #[] #[{ accessFlags := 26, nameIndex := 61, descriptorIndex := 62, attributes := #[] }, { accessFlags := 26, nameIndex := 65, descriptorIndex := 62, attributes := #[] }, { accessFlags := 24, nameIndex := 430, descriptorIndex := 62, attributes := #[] }, { accessFlags := 4120, nameIndex := 46, descriptorIndex := 47, attributes := #[] }])
  fields := #[{ name := "HI_BYTE_SHIFT", type := .int, accessFlags := 26, slot := 0, constantValue := 0 }, { name := "LO_BYTE_SHIFT", type := .int, accessFlags := 26, slot := 1, constantValue := 0 }, { name := "MAX_LENGTH", type := .int, accessFlags := 24, slot := 2, constantValue := 0 }, { name := "$assertionsDisabled", type := .boolean, accessFlags := 4120, slot := 3, constantValue := 0 }]
  methods := #[k10m0, k10m1, k10m2, k10m3, k10m4, k10m5, k10m6, k10m7, k10m8, k10m9, k10m10, k10m11]
  instanceTypes := #[]
  staticTypes := #[.int, .int, .int, .boolean]
  resolved := Array.replicate 635 none
  statics := some 1 }

def pool11 : Array CpInfo := pool [(2, .class_ 4), (1, u "java/lang/Object"), (0, u "<init>"), (0, u "()V"), (17, .class_ 26), (1, u "jdk/internal/util/Preconditions"), (6, u "checkIndex"), (21, .class_ 56), (0, u "jdk/internal/util/Preconditions$4"), (57, .class_ 115), (0, u "jdk/internal/util/Preconditions$1"), (7, u "SIOOBE_FORMATTER"), (0, u "Ljava/util/function/BiFunction;"), (0, .class_ 126), (0, u "jdk/internal/util/Preconditions$2"), (3, u "AIOOBE_FORMATTER"), (0, .class_ 132), (0, u "jdk/internal/util/Preconditions$3"), (3, u "IOOBE_FORMATTER"), (41, u "(IILjava/util/function/BiFunction;)I")] 15

def k11m0 : Method := { name := "<init>", desc := "()V", sig := { parameters := [], returnType := none }, accessFlags := 1, code := none }
def k11c1 : Code := { maxStack := 3, maxLocals := 3, code := jdk_41_method_11_code, exceptionTable := #[], attributes := #[] }
def k11m1 : Method := { name := "checkIndex", desc := "(IILjava/util/function/BiFunction;)I", sig := { parameters := [.int, .int, (.object "java/util/function/BiFunction")], returnType := some .int }, accessFlags := 9, code := some k11c1 }
/-- jdk/internal/util/Preconditions -/
def k11 : Class := { plain "jdk/internal/util/Preconditions" (some 0) with
  accessFlags := 33
  interfaces := #[]
  cf := some (fileOf pool11 24 #[.nestMembers #[55, 131, 125, 114]] #[{ accessFlags := 1, nameIndex := 5, descriptorIndex := 6, attributes := #[] }, { accessFlags := 9, nameIndex := 33, descriptorIndex := 178, attributes := #[] }] 33 2 #[] #[{ accessFlags := 25, nameIndex := 123, descriptorIndex := 124, attributes := #[] }, { accessFlags := 25, nameIndex := 130, descriptorIndex := 124, attributes := #[] }, { accessFlags := 25, nameIndex := 136, descriptorIndex := 124, attributes := #[] }])
  fields := #[{ name := "SIOOBE_FORMATTER", type := (.object "java/util/function/BiFunction"), accessFlags := 25, slot := 0, constantValue := 0 }, { name := "AIOOBE_FORMATTER", type := (.object "java/util/function/BiFunction"), accessFlags := 25, slot := 1, constantValue := 0 }, { name := "IOOBE_FORMATTER", type := (.object "java/util/function/BiFunction"), accessFlags := 25, slot := 2, constantValue := 0 }]
  methods := #[k11m0, k11m1]
  instanceTypes := #[]
  staticTypes := #[(.object "java/util/function/BiFunction"), (.object "java/util/function/BiFunction"), (.object "java/util/function/BiFunction")]
  resolved := Array.replicate 194 none
  statics := some 2 }

def pool12 : Array CpInfo := pool [(1, .class_ 2), (0, u "java/lang/String"), (1, .class_ 6), (1, u "java/lang/Object"), (0, u "<init>"), (0, u "()V"), (0, .methodref 1 10), (0, .nameAndType 11 12), (0, u "checkIndex"), (0, u "(II)V"), (1, .class_ 16), (1, u "java/lang/StringLatin1"), (36, u "([BI)C"), (67, u "$assertionsDisabled"), (0, u "Z"), (98, .class_ 223), (1, u "java/lang/StringLatin1$LinesSpliterator"), (28, u "charAt"), (137, .class_ 391), (0, u "java/lang/StringLatin1$CharsSpliterator")] 3

def k12m0 : Method := { name := "<init>", desc := "()V", sig := { parameters := [], returnType := none }, accessFlags := 0, code := none }
def k12c1 : Code := { maxStack := 2, maxLocals := 2, code := jdk_43_method_2_code, exceptionTable := #[], attributes := #[] }
def k12m1 : Method := { name := "charAt", desc := "([BI)C", sig := { parameters := [(.array .byte), .int], returnType := some .char }, accessFlags := 9, code := some k12c1 }
/-- java/lang/StringLatin1 -/
def k12 : Class := { plain "java/lang/StringLatin1" (some 0) with
  accessFlags := 48
  interfaces := #[]
  cf := some (fileOf pool12 14 #[.nestMembers #[390, 221]] #[{ accessFlags := 0, nameIndex := 7, descriptorIndex := 8, attributes := #[] }, { accessFlags := 9, nameIndex := 252, descriptorIndex := 53, attributes := #[] }] 48 4 #[] #[{ accessFlags := 4120, nameIndex := 121, descriptorIndex := 122, attributes := #[] }])
  fields := #[{ name := "$assertionsDisabled", type := .boolean, accessFlags := 4120, slot := 0, constantValue := 0 }]
  methods := #[k12m0, k12m1]
  instanceTypes := #[]
  staticTypes := #[.boolean]
  resolved := Array.replicate 395 none
  statics := none }

def pool13 : Array CpInfo := pool [(9, u "<init>"), (6, .class_ 18), (1, u "java/lang/Object"), (0, u "()V"), (1, .class_ 23), (1, u "jdk/internal/util/ArraysSupport"), (0, u "LOG2_ARRAY_LONG_INDEX_SCALE"), (0, u "I"), (2, u "U"), (0, u "Ljdk/internal/misc/Unsafe;"), (8, u "BIG_ENDIAN"), (0, u "Z"), (8, u "LOG2_BYTE_BIT_SIZE"), (4, u "LOG2_ARRAY_INT_INDEX_SCALE"), (54, u "JLA"), (0, u "Ljdk/internal/access/JavaLangAccess;"), (11, u "LOG2_ARRAY_BOOLEAN_INDEX_SCALE"), (9, u "LOG2_ARRAY_BYTE_INDEX_SCALE"), (5, u "LOG2_ARRAY_CHAR_INDEX_SCALE"), (5, u "LOG2_ARRAY_SHORT_INDEX_SCALE"), (18, u "LOG2_ARRAY_FLOAT_INDEX_SCALE"), (24, u "LOG2_ARRAY_DOUBLE_INDEX_SCALE"), (89, u "T_BOOLEAN"), (2, u "T_CHAR"), (1, u "T_FLOAT"), (1, u "T_DOUBLE"), (1, u "T_BYTE"), (1, u "T_SHORT"), (1, u "T_INT"), (1, u "T_LONG"), (1, u "SOFT_MAX_ARRAY_LENGTH")] 83

def k13m0 : Method := { name := "<init>", desc := "()V", sig := { parameters := [], returnType := none }, accessFlags := 2, code := none }
/-- jdk/internal/util/ArraysSupport -/
def k13 : Class := { plain "jdk/internal/util/ArraysSupport" (some 0) with
  accessFlags := 33
  interfaces := #[]
  cf := some (fileOf pool13 21 #[] #[{ accessFlags := 2, nameIndex := 9, descriptorIndex := 19, attributes := #[] }] 33 16 #[] #[{ accessFlags := 24, nameIndex := 28, descriptorIndex := 29, attributes := #[] }, { accessFlags := 26, nameIndex := 38, descriptorIndex := 39, attributes := #[] }, { accessFlags := 25, nameIndex := 121, descriptorIndex := 25, attributes := #[] }, { accessFlags := 25, nameIndex := 131, descriptorIndex := 25, attributes := #[] }, { accessFlags := 25, nameIndex := 137, descriptorIndex := 25, attributes := #[] }, { accessFlags := 25, nameIndex := 143, descriptorIndex := 25, attributes := #[] }, { accessFlags := 25, nameIndex := 53, descriptorIndex := 25, attributes := #[] }, { accessFlags := 25, nameIndex := 24, descriptorIndex := 25, attributes := #[] }, { accessFlags := 25, nameIndex := 162, descriptorIndex := 25, attributes := #[] }, { accessFlags := 25, nameIndex := 187, descriptorIndex := 25, attributes := #[] }, { accessFlags := 26, nameIndex := 48, descriptorIndex := 25, attributes := #[] }, { accessFlags := 25, nameIndex := 277, descriptorIndex := 25, attributes := #[] }, { accessFlags := 25, nameIndex := 280, descriptorIndex := 25, attributes := #[] }, { accessFlags := 25, nameIndex := 282, descriptorIndex := 25, attributes := #[] }, { accessFlags := 25, nameIndex := 284, descriptorIndex := 25, attributes := #[] }, { accessFlags := 25, nameIndex := 286, descriptorIndex := 25, attributes := #[] }, { accessFlags := 25, nameIndex := 288, descriptorIndex := 25, attributes := #[] }, { accessFlags := 25, nameIndex := 290, descriptorIndex := 25, attributes := #[] }, { accessFlags := 25, nameIndex := 292, descriptorIndex := 25, attributes := #[] }, { accessFlags := 26, nameIndex := 108, descriptorIndex := 109, attributes := #[] }, { accessFlags := 25, nameIndex := 294, descriptorIndex := 25, attributes := #[] }])
  fields := #[{ name := "U", type := (.object "jdk/internal/misc/Unsafe"), accessFlags := 24, slot := 0, constantValue := 0 }, { name := "BIG_ENDIAN", type := .boolean, accessFlags := 26, slot := 1, constantValue := 0 }, { name := "LOG2_ARRAY_BOOLEAN_INDEX_SCALE", type := .int, accessFlags := 25, slot := 2, constantValue := 0 }, { name := "LOG2_ARRAY_BYTE_INDEX_SCALE", type := .int, accessFlags := 25, slot := 3, constantValue := 0 }, { name := "LOG2_ARRAY_CHAR_INDEX_SCALE", type := .int, accessFlags := 25, slot := 4, constantValue := 0 }, { name := "LOG2_ARRAY_SHORT_INDEX_SCALE", type := .int, accessFlags := 25, slot := 5, constantValue := 0 }, { name := "LOG2_ARRAY_INT_INDEX_SCALE", type := .int, accessFlags := 25, slot := 6, constantValue := 0 }, { name := "LOG2_ARRAY_LONG_INDEX_SCALE", type := .int, accessFlags := 25, slot := 7, constantValue := 0 }, { name := "LOG2_ARRAY_FLOAT_INDEX_SCALE", type := .int, accessFlags := 25, slot := 8, constantValue := 0 }, { name := "LOG2_ARRAY_DOUBLE_INDEX_SCALE", type := .int, accessFlags := 25, slot := 9, constantValue := 0 }, { name := "LOG2_BYTE_BIT_SIZE", type := .int, accessFlags := 26, slot := 10, constantValue := 0 }, { name := "T_BOOLEAN", type := .int, accessFlags := 25, slot := 11, constantValue := 0 }, { name := "T_CHAR", type := .int, accessFlags := 25, slot := 12, constantValue := 0 }, { name := "T_FLOAT", type := .int, accessFlags := 25, slot := 13, constantValue := 0 }, { name := "T_DOUBLE", type := .int, accessFlags := 25, slot := 14, constantValue := 0 }, { name := "T_BYTE", type := .int, accessFlags := 25, slot := 15, constantValue := 0 }, { name := "T_SHORT", type := .int, accessFlags := 25, slot := 16, constantValue := 0 }, { name := "T_INT", type := .int, accessFlags := 25, slot := 17, constantValue := 0 }, { name := "T_LONG", type := .int, accessFlags := 25, slot := 18, constantValue := 0 }, { name := "JLA", type := (.object "jdk/internal/access/JavaLangAccess"), accessFlags := 26, slot := 19, constantValue := 0 }, { name := "SOFT_MAX_ARRAY_LENGTH", type := .int, accessFlags := 25, slot := 20, constantValue := 0 }]
  methods := #[k13m0]
  instanceTypes := #[]
  staticTypes := #[(.object "jdk/internal/misc/Unsafe"), .boolean, .int, .int, .int, .int, .int, .int, .int, .int, .int, .int, .int, .int, .int, .int, .int, .int, .int, (.object "jdk/internal/access/JavaLangAccess"), .int]
  resolved := Array.replicate 378 none
  statics := none }

def pool14 : Array CpInfo := pool [(1, u "java/lang/Cloneable"), (0, .class_ 1), (0, u "java/lang/Object"), (0, .class_ 3)] 3

/-- java/lang/Cloneable -/
def k14 : Class := { plain "java/lang/Cloneable" (some 0) with
  accessFlags := 1537
  interfaces := #[]
  cf := some (fileOf pool14 2 #[] #[] 1537 4 #[] #[])
  fields := #[]
  methods := #[]
  instanceTypes := #[]
  staticTypes := #[]
  resolved := Array.replicate 8 none
  statics := none }

/-- the primitive byte -/
def k15 : Class := { plain "byte" none with kind := .primitive 'B', accessFlags := 0x411 }
/-- [B -/
def k16 : Class := { plain "[B" (some 0) with kind := .array 15 .byte, interfaces := #[14, 2], accessFlags := 1041 }

/-- the primitive char -/
def k17 : Class := { plain "char" none with kind := .primitive 'C', accessFlags := 0x411 }
/-- [C -/
def k18 : Class := { plain "[C" (some 0) with kind := .array 17 .char, interfaces := #[14, 2], accessFlags := 1041 }

/-- the primitive int -/
def k19 : Class := { plain "int" none with kind := .primitive 'I', accessFlags := 0x411 }
/-- [I -/
def k20 : Class := { plain "[I" (some 0) with kind := .array 19 .int, interfaces := #[14, 2], accessFlags := 1041 }

def heap : Heap := #[{ cls := 7, slots := #[.long 0, .int 1, .null, .int 0, .null, .int 0, .int 0], vm := .statics 7 },
  { cls := 10, slots := #[.int 0, .int 8, .int 0, .int 1], vm := .statics 10 },
  { cls := 11, slots := #[.null, .null, .null], vm := .statics 11 }]
def classes : Array Class := #[k0, k1, k2, k3, k4, k5, k6, k7, k8, k9, k10, k11, k12, k13, k14, k15, k16, k17, k18, k19, k20]
def interned : List (Array UInt16 × Addr) := []
def slotsUsed : Nat := 14
def theMethod : MethodId := ⟨1, 1⟩
def args0 : Array Value := #[.int 2, .int 97, .int 98, .int 9]
def aboutOver (below : List Frame) : State where
  vm := { classes := classes, interned := interned.toArray }
  heap := heap
  slotsUsed := slotsUsed
  threads := #[{ frames := .invoking theMethod args0 :: below }]
def below0 : List Frame := [.native { method := ⟨0, 0⟩, args := #[] }]
def about1 : State := aboutOver below0
def p0 : Program := .bare "" "" ""
def e0 : Env := launch0.env 0 0 0
theorem w_frames : about1.frames = Frame.invoking theMethod args0 :: below0 := rfl
set_option maxRecDepth 65536 in
theorem w_args : argsFit about1.vm theMethod args0 = true := by decide +kernel
set_option maxRecDepth 65536 in
theorem w_heap : heapFits about1 = true := by decide +kernel
set_option maxRecDepth 65536 in
theorem w_runnable : about1.curStatus? = some .runnable := by decide +kernel
set_option maxRecDepth 65536 in
theorem w_alone : about1.alone = true := by decide +kernel
set_option maxRecDepth 65536 in
theorem w_named : about1.methodNamed? x = some theMethod := by decide +kernel
set_option maxRecDepth 65536 in
theorem w_hears : about1.hears theMethod below0 = true := by decide +kernel
set_option maxRecDepth 65536 in
theorem w_ripe : about1.ripe theMethod args0 below0 = true := by decide +kernel
theorem w_running : about1.status = .running := rfl
set_option maxRecDepth 65536 in
theorem w_room : about1.hasRoom e0.platform room_1 = true :=
  launch0.hasRoom_least _ room_1 (by decide +kernel) (by decide +kernel) (by decide +kernel) (by decide +kernel) (by decide +kernel) (by decide +kernel)
theorem allAtoms_all (ts : List Jvm.Cond) (a : Array Jvm.Value) (st : Jvm.State) : (allAtoms ts).before a st = ts.all (fun c => c.before a st) := by
  induction ts with
  | nil => rfl
  | cons c t ih =>
    show (Jvm.Cond.and c (allAtoms t)).before a st = _
    rw [Jvm.Cond.before_and, ih, List.all_cons]
def words1 : List Jvm.Cond := Jvm.Cond.code x code maxLocals ret :: tables_1
/-- a 'code' word, met by the world's own term for the bytes: nothing is compared byte by byte -/
theorem code_word {y : MethodName} {bytes : ByteArray} {mx : Nat} {rt : Option FieldType} {a : Array Value} {s : State} {m : MethodId} {meth : Method} {c : Code} (h1 : s.methodNamed? y = some m) (h2 : s.vm.method? m = some meth) (h3 : meth.code = some c) (h4 : c.code = bytes)
    (h5 : (c.maxLocals == mx && c.exceptionTable.isEmpty && decide (c.maxStack ≤ mostOperands) && decide (meth.sig.returnType = rt) && !meth.locks && decide (parseMethodDescriptor y.desc = some meth.sig)) = true) : (Jvm.Cond.code y bytes mx rt).before a s = true := by
  simp only [Bool.and_eq_true, beq_iff_eq, Bool.not_eq_true', decide_eq_true_eq] at h5
  obtain ⟨⟨⟨⟨⟨g1, g2⟩, g3⟩, g4⟩, g5⟩, g6⟩ := h5
  simp [Cond.before, Cond.holds, Cond.value, h1, h2, h3, h4, g1, g2, g3, g4, g5, g6]
def isCode : Jvm.Cond → Bool
  | .code _ _ _ _ => true
  | _ => false
theorem all_split {L : List Jvm.Cond} {P : Jvm.Cond → Bool} (h1 : L.all (fun c => isCode c || P c) = true) (h2 : ∀ c ∈ L.filter isCode, P c = true) : L.all P = true := by
  refine List.all_eq_true.mpr fun c hc => ?_
  have h := List.all_eq_true.mp h1 c hc
  rcases Bool.eq_false_or_eq_true (isCode c) with hi | hi
  · exact h2 c (List.mem_filter.mpr ⟨hc, hi⟩)
  · simpa [hi] using h
set_option maxRecDepth 65536 in
theorem w_c0 : (Jvm.Cond.code x code maxLocals ret).before args0 about1 = true := code_word (m := ⟨1, 1⟩) (meth := k1m1) (c := k1c1) (by decide +kernel) rfl rfl rfl (by decide +kernel)
set_option maxRecDepth 65536 in
theorem w_c1 : (Jvm.Cond.code ({ cls := "com/example/anteriorita/anteriorita/PatentRecordIsLanguageCodePinLaw", name := "chars", desc := "(ICCC)[C" } : Jvm.MethodName) method_4_code (4 : Nat) (Option.some (Jvm.ClassFile.FieldType.array Jvm.ClassFile.FieldType.char))).before args0 about1 = true := code_word (m := ⟨1, 3⟩) (meth := k1m3) (c := k1c3) (by decide +kernel) rfl rfl rfl (by decide +kernel)
set_option maxRecDepth 65536 in
theorem w_c2 : (Jvm.Cond.code ({ cls := "java/lang/String", name := "<init>", desc := "([C)V" } : Jvm.MethodName) jdk_42_method_3_code (2 : Nat) (Option.none : Option Jvm.ClassFile.FieldType)).before args0 about1 = true := code_word (m := ⟨7, 1⟩) (meth := k7m1) (c := k7c1) (by decide +kernel) rfl rfl rfl (by decide +kernel)
set_option maxRecDepth 65536 in
theorem w_c3 : (Jvm.Cond.code ({ cls := "java/lang/String", name := "<init>", desc := "([CIILjava/lang/Void;)V" } : Jvm.MethodName) jdk_42_method_149_code (6 : Nat) (Option.none : Option Jvm.ClassFile.FieldType)).before args0 about1 = true := code_word (m := ⟨7, 4⟩) (meth := k7m4) (c := k7c4) (by decide +kernel) rfl rfl rfl (by decide +kernel)
set_option maxRecDepth 65536 in
theorem w_c4 : (Jvm.Cond.code ({ cls := "java/lang/Object", name := "<init>", desc := "()V" } : Jvm.MethodName) object_method_1_code (1 : Nat) (Option.none : Option Jvm.ClassFile.FieldType)).before args0 about1 = true := code_word (m := ⟨0, 0⟩) (meth := k0m0) (c := k0c0) (by decide +kernel) rfl rfl rfl (by decide +kernel)
set_option maxRecDepth 65536 in
theorem w_c5 : (Jvm.Cond.code ({ cls := "com/example/anteriorita/anteriorita/PatentRecord", name := "isLanguageCode", desc := "(Ljava/lang/String;)Z" } : Jvm.MethodName) prog_13_method_4_code (1 : Nat) (Option.some Jvm.ClassFile.FieldType.boolean)).before args0 about1 = true := code_word (m := ⟨9, 0⟩) (meth := k9m0) (c := k9c0) (by decide +kernel) rfl rfl rfl (by decide +kernel)
set_option maxRecDepth 65536 in
theorem w_c6 : (Jvm.Cond.code ({ cls := "java/lang/String", name := "length", desc := "()I" } : Jvm.MethodName) jdk_42_method_54_code (1 : Nat) (Option.some Jvm.ClassFile.FieldType.int)).before args0 about1 = true := code_word (m := ⟨7, 2⟩) (meth := k7m2) (c := k7c2) (by decide +kernel) rfl rfl rfl (by decide +kernel)
set_option maxRecDepth 65536 in
theorem w_c7 : (Jvm.Cond.code ({ cls := "java/lang/String", name := "coder", desc := "()B" } : Jvm.MethodName) jdk_42_method_152_code (1 : Nat) (Option.some Jvm.ClassFile.FieldType.byte)).before args0 about1 = true := code_word (m := ⟨7, 5⟩) (meth := k7m5) (c := k7c5) (by decide +kernel) rfl rfl rfl (by decide +kernel)
set_option maxRecDepth 65536 in
theorem w_c8 : (Jvm.Cond.code ({ cls := "java/lang/StringUTF16", name := "compress", desc := "([CII)[B" } : Jvm.MethodName) jdk_52_method_16_code (6 : Nat) (Option.some (Jvm.ClassFile.FieldType.array Jvm.ClassFile.FieldType.byte))).before args0 about1 = true := code_word (m := ⟨10, 8⟩) (meth := k10m8) (c := k10c8) (by decide +kernel) rfl rfl rfl (by decide +kernel)
set_option maxRecDepth 65536 in
theorem w_c9 : (Jvm.Cond.code ({ cls := "java/lang/StringUTF16", name := "compress", desc := "([CI[BII)I" } : Jvm.MethodName) jdk_52_method_21_code (7 : Nat) (Option.some Jvm.ClassFile.FieldType.int)).before args0 about1 = true := code_word (m := ⟨10, 9⟩) (meth := k10m9) (c := k10c9) (by decide +kernel) rfl rfl rfl (by decide +kernel)
set_option maxRecDepth 65536 in
theorem w_c10 : (Jvm.Cond.code ({ cls := "java/lang/StringUTF16", name := "coderFromArrayLen", desc := "([BI)B" } : Jvm.MethodName) jdk_52_method_15_code (2 : Nat) (Option.some Jvm.ClassFile.FieldType.byte)).before args0 about1 = true := code_word (m := ⟨10, 7⟩) (meth := k10m7) (c := k10c7) (by decide +kernel) rfl rfl rfl (by decide +kernel)
set_option maxRecDepth 65536 in
theorem w_c11 : (Jvm.Cond.code ({ cls := "java/lang/StringUTF16", name := "toBytes", desc := "([CII)[B" } : Jvm.MethodName) jdk_52_method_14_code (5 : Nat) (Option.some (Jvm.ClassFile.FieldType.array Jvm.ClassFile.FieldType.byte))).before args0 about1 = true := code_word (m := ⟨10, 6⟩) (meth := k10m6) (c := k10c6) (by decide +kernel) rfl rfl rfl (by decide +kernel)
set_option maxRecDepth 65536 in
theorem w_c12 : (Jvm.Cond.code ({ cls := "java/lang/StringUTF16", name := "newBytesFor", desc := "(I)[B" } : Jvm.MethodName) jdk_52_method_2_code (1 : Nat) (Option.some (Jvm.ClassFile.FieldType.array Jvm.ClassFile.FieldType.byte))).before args0 about1 = true := code_word (m := ⟨10, 1⟩) (meth := k10m1) (c := k10c1) (by decide +kernel) rfl rfl rfl (by decide +kernel)
set_option maxRecDepth 65536 in
theorem w_c13 : (Jvm.Cond.code ({ cls := "java/lang/StringUTF16", name := "newBytesLength", desc := "(I)I" } : Jvm.MethodName) jdk_52_method_3_code (1 : Nat) (Option.some Jvm.ClassFile.FieldType.int)).before args0 about1 = true := code_word (m := ⟨10, 2⟩) (meth := k10m2) (c := k10c2) (by decide +kernel) rfl rfl rfl (by decide +kernel)
set_option maxRecDepth 65536 in
theorem w_c14 : (Jvm.Cond.code ({ cls := "java/lang/StringUTF16", name := "putChar", desc := "([BII)V" } : Jvm.MethodName) jdk_52_method_4_code (3 : Nat) (Option.none : Option Jvm.ClassFile.FieldType)).before args0 about1 = true := code_word (m := ⟨10, 3⟩) (meth := k10m3) (c := k10c3) (by decide +kernel) rfl rfl rfl (by decide +kernel)
set_option maxRecDepth 65536 in
theorem w_c15 : (Jvm.Cond.code ({ cls := "java/lang/StringUTF16", name := "getChar", desc := "([BI)C" } : Jvm.MethodName) jdk_52_method_5_code (2 : Nat) (Option.some Jvm.ClassFile.FieldType.char)).before args0 about1 = true := code_word (m := ⟨10, 4⟩) (meth := k10m4) (c := k10c4) (by decide +kernel) rfl rfl rfl (by decide +kernel)
set_option maxRecDepth 65536 in
theorem w_c16 : (Jvm.Cond.code ({ cls := "com/example/anteriorita/anteriorita/PatentRecordIsLanguageCodePinLaw", name := "lower", desc := "(C)Z" } : Jvm.MethodName) method_3_code (2 : Nat) (Option.some Jvm.ClassFile.FieldType.boolean)).before args0 about1 = true := code_word (m := ⟨1, 2⟩) (meth := k1m2) (c := k1c2) (by decide +kernel) rfl rfl rfl (by decide +kernel)
set_option maxRecDepth 65536 in
theorem w_c17 : (Jvm.Cond.code ({ cls := "java/lang/String", name := "charAt", desc := "(I)C" } : Jvm.MethodName) jdk_42_method_56_code (2 : Nat) (Option.some Jvm.ClassFile.FieldType.char)).before args0 about1 = true := code_word (m := ⟨7, 3⟩) (meth := k7m3) (c := k7c3) (by decide +kernel) rfl rfl rfl (by decide +kernel)
set_option maxRecDepth 65536 in
theorem w_c18 : (Jvm.Cond.code ({ cls := "java/lang/String", name := "isLatin1", desc := "()Z" } : Jvm.MethodName) jdk_42_method_154_code (1 : Nat) (Option.some Jvm.ClassFile.FieldType.boolean)).before args0 about1 = true := code_word (m := ⟨7, 6⟩) (meth := k7m6) (c := k7c6) (by decide +kernel) rfl rfl rfl (by decide +kernel)
set_option maxRecDepth 65536 in
theorem w_c19 : (Jvm.Cond.code ({ cls := "java/lang/StringUTF16", name := "charAt", desc := "([BI)C" } : Jvm.MethodName) jdk_52_method_83_code (2 : Nat) (Option.some Jvm.ClassFile.FieldType.char)).before args0 about1 = true := code_word (m := ⟨10, 10⟩) (meth := k10m10) (c := k10c10) (by decide +kernel) rfl rfl rfl (by decide +kernel)
set_option maxRecDepth 65536 in
theorem w_c20 : (Jvm.Cond.code ({ cls := "java/lang/StringUTF16", name := "checkIndex", desc := "(I[B)V" } : Jvm.MethodName) jdk_52_method_91_code (2 : Nat) (Option.none : Option Jvm.ClassFile.FieldType)).before args0 about1 = true := code_word (m := ⟨10, 11⟩) (meth := k10m11) (c := k10c11) (by decide +kernel) rfl rfl rfl (by decide +kernel)
set_option maxRecDepth 65536 in
theorem w_c21 : (Jvm.Cond.code ({ cls := "java/lang/StringUTF16", name := "length", desc := "([B)I" } : Jvm.MethodName) jdk_52_method_6_code (1 : Nat) (Option.some Jvm.ClassFile.FieldType.int)).before args0 about1 = true := code_word (m := ⟨10, 5⟩) (meth := k10m5) (c := k10c5) (by decide +kernel) rfl rfl rfl (by decide +kernel)
set_option maxRecDepth 65536 in
theorem w_c22 : (Jvm.Cond.code ({ cls := "java/lang/String", name := "checkIndex", desc := "(II)V" } : Jvm.MethodName) jdk_42_method_155_code (2 : Nat) (Option.none : Option Jvm.ClassFile.FieldType)).before args0 about1 = true := code_word (m := ⟨7, 7⟩) (meth := k7m7) (c := k7c7) (by decide +kernel) rfl rfl rfl (by decide +kernel)
set_option maxRecDepth 65536 in
theorem w_c23 : (Jvm.Cond.code ({ cls := "jdk/internal/util/Preconditions", name := "checkIndex", desc := "(IILjava/util/function/BiFunction;)I" } : Jvm.MethodName) jdk_41_method_11_code (3 : Nat) (Option.some Jvm.ClassFile.FieldType.int)).before args0 about1 = true := code_word (m := ⟨11, 1⟩) (meth := k11m1) (c := k11c1) (by decide +kernel) rfl rfl rfl (by decide +kernel)
set_option maxRecDepth 65536 in
theorem w_c24 : (Jvm.Cond.code ({ cls := "java/lang/StringLatin1", name := "charAt", desc := "([BI)C" } : Jvm.MethodName) jdk_43_method_2_code (2 : Nat) (Option.some Jvm.ClassFile.FieldType.char)).before args0 about1 = true := code_word (m := ⟨12, 1⟩) (meth := k12m1) (c := k12c1) (by decide +kernel) rfl rfl rfl (by decide +kernel)
def codes1 : List Jvm.Cond := [Jvm.Cond.code x code maxLocals ret, Jvm.Cond.code ({ cls := "com/example/anteriorita/anteriorita/PatentRecordIsLanguageCodePinLaw", name := "chars", desc := "(ICCC)[C" } : Jvm.MethodName) method_4_code (4 : Nat) (Option.some (Jvm.ClassFile.FieldType.array Jvm.ClassFile.FieldType.char)), Jvm.Cond.code ({ cls := "java/lang/String", name := "<init>", desc := "([C)V" } : Jvm.MethodName) jdk_42_method_3_code (2 : Nat) (Option.none : Option Jvm.ClassFile.FieldType), Jvm.Cond.code ({ cls := "java/lang/String", name := "<init>", desc := "([CIILjava/lang/Void;)V" } : Jvm.MethodName) jdk_42_method_149_code (6 : Nat) (Option.none : Option Jvm.ClassFile.FieldType), Jvm.Cond.code ({ cls := "java/lang/Object", name := "<init>", desc := "()V" } : Jvm.MethodName) object_method_1_code (1 : Nat) (Option.none : Option Jvm.ClassFile.FieldType), Jvm.Cond.code ({ cls := "com/example/anteriorita/anteriorita/PatentRecord", name := "isLanguageCode", desc := "(Ljava/lang/String;)Z" } : Jvm.MethodName) prog_13_method_4_code (1 : Nat) (Option.some Jvm.ClassFile.FieldType.boolean), Jvm.Cond.code ({ cls := "java/lang/String", name := "length", desc := "()I" } : Jvm.MethodName) jdk_42_method_54_code (1 : Nat) (Option.some Jvm.ClassFile.FieldType.int), Jvm.Cond.code ({ cls := "java/lang/String", name := "coder", desc := "()B" } : Jvm.MethodName) jdk_42_method_152_code (1 : Nat) (Option.some Jvm.ClassFile.FieldType.byte), Jvm.Cond.code ({ cls := "java/lang/StringUTF16", name := "compress", desc := "([CII)[B" } : Jvm.MethodName) jdk_52_method_16_code (6 : Nat) (Option.some (Jvm.ClassFile.FieldType.array Jvm.ClassFile.FieldType.byte)), Jvm.Cond.code ({ cls := "java/lang/StringUTF16", name := "compress", desc := "([CI[BII)I" } : Jvm.MethodName) jdk_52_method_21_code (7 : Nat) (Option.some Jvm.ClassFile.FieldType.int), Jvm.Cond.code ({ cls := "java/lang/StringUTF16", name := "coderFromArrayLen", desc := "([BI)B" } : Jvm.MethodName) jdk_52_method_15_code (2 : Nat) (Option.some Jvm.ClassFile.FieldType.byte), Jvm.Cond.code ({ cls := "java/lang/StringUTF16", name := "toBytes", desc := "([CII)[B" } : Jvm.MethodName) jdk_52_method_14_code (5 : Nat) (Option.some (Jvm.ClassFile.FieldType.array Jvm.ClassFile.FieldType.byte)), Jvm.Cond.code ({ cls := "java/lang/StringUTF16", name := "newBytesFor", desc := "(I)[B" } : Jvm.MethodName) jdk_52_method_2_code (1 : Nat) (Option.some (Jvm.ClassFile.FieldType.array Jvm.ClassFile.FieldType.byte)), Jvm.Cond.code ({ cls := "java/lang/StringUTF16", name := "newBytesLength", desc := "(I)I" } : Jvm.MethodName) jdk_52_method_3_code (1 : Nat) (Option.some Jvm.ClassFile.FieldType.int), Jvm.Cond.code ({ cls := "java/lang/StringUTF16", name := "putChar", desc := "([BII)V" } : Jvm.MethodName) jdk_52_method_4_code (3 : Nat) (Option.none : Option Jvm.ClassFile.FieldType), Jvm.Cond.code ({ cls := "java/lang/StringUTF16", name := "getChar", desc := "([BI)C" } : Jvm.MethodName) jdk_52_method_5_code (2 : Nat) (Option.some Jvm.ClassFile.FieldType.char), Jvm.Cond.code ({ cls := "com/example/anteriorita/anteriorita/PatentRecordIsLanguageCodePinLaw", name := "lower", desc := "(C)Z" } : Jvm.MethodName) method_3_code (2 : Nat) (Option.some Jvm.ClassFile.FieldType.boolean), Jvm.Cond.code ({ cls := "java/lang/String", name := "charAt", desc := "(I)C" } : Jvm.MethodName) jdk_42_method_56_code (2 : Nat) (Option.some Jvm.ClassFile.FieldType.char), Jvm.Cond.code ({ cls := "java/lang/String", name := "isLatin1", desc := "()Z" } : Jvm.MethodName) jdk_42_method_154_code (1 : Nat) (Option.some Jvm.ClassFile.FieldType.boolean), Jvm.Cond.code ({ cls := "java/lang/StringUTF16", name := "charAt", desc := "([BI)C" } : Jvm.MethodName) jdk_52_method_83_code (2 : Nat) (Option.some Jvm.ClassFile.FieldType.char), Jvm.Cond.code ({ cls := "java/lang/StringUTF16", name := "checkIndex", desc := "(I[B)V" } : Jvm.MethodName) jdk_52_method_91_code (2 : Nat) (Option.none : Option Jvm.ClassFile.FieldType), Jvm.Cond.code ({ cls := "java/lang/StringUTF16", name := "length", desc := "([B)I" } : Jvm.MethodName) jdk_52_method_6_code (1 : Nat) (Option.some Jvm.ClassFile.FieldType.int), Jvm.Cond.code ({ cls := "java/lang/String", name := "checkIndex", desc := "(II)V" } : Jvm.MethodName) jdk_42_method_155_code (2 : Nat) (Option.none : Option Jvm.ClassFile.FieldType), Jvm.Cond.code ({ cls := "jdk/internal/util/Preconditions", name := "checkIndex", desc := "(IILjava/util/function/BiFunction;)I" } : Jvm.MethodName) jdk_41_method_11_code (3 : Nat) (Option.some Jvm.ClassFile.FieldType.int), Jvm.Cond.code ({ cls := "java/lang/StringLatin1", name := "charAt", desc := "([BI)C" } : Jvm.MethodName) jdk_43_method_2_code (2 : Nat) (Option.some Jvm.ClassFile.FieldType.char)]
set_option maxRecDepth 65536 in
theorem codes_eq : words1.filter isCode = codes1 := rfl
theorem w_codes : ∀ c ∈ words1.filter isCode, c.before args0 about1 = true := by
  rw [codes_eq]
  intro c hc
  simp only [codes1, List.mem_cons, List.not_mem_nil, or_false] at hc
  rcases hc with rfl | rfl | rfl | rfl | rfl | rfl | rfl | rfl | rfl | rfl | rfl | rfl | rfl | rfl | rfl | rfl | rfl | rfl | rfl | rfl | rfl | rfl | rfl | rfl | rfl
  · exact w_c0
  · exact w_c1
  · exact w_c2
  · exact w_c3
  · exact w_c4
  · exact w_c5
  · exact w_c6
  · exact w_c7
  · exact w_c8
  · exact w_c9
  · exact w_c10
  · exact w_c11
  · exact w_c12
  · exact w_c13
  · exact w_c14
  · exact w_c15
  · exact w_c16
  · exact w_c17
  · exact w_c18
  · exact w_c19
  · exact w_c20
  · exact w_c21
  · exact w_c22
  · exact w_c23
  · exact w_c24
set_option maxRecDepth 65536 in
theorem w_t1 : (words1.take 24).all (fun c => isCode c || c.before args0 about1) = true := by decide +kernel
set_option maxRecDepth 65536 in
theorem w_t2 : ((words1.drop 24).take 24).all (fun c => isCode c || c.before args0 about1) = true := by decide +kernel
set_option maxRecDepth 65536 in
theorem w_t3 : (((words1.drop 24).drop 24).take 24).all (fun c => isCode c || c.before args0 about1) = true := by decide +kernel
set_option maxRecDepth 65536 in
theorem w_t4 : ((((words1.drop 24).drop 24).drop 24).take 24).all (fun c => isCode c || c.before args0 about1) = true := by decide +kernel
set_option maxRecDepth 65536 in
theorem w_t5 : ((((words1.drop 24).drop 24).drop 24).drop 24).all (fun c => isCode c || c.before args0 about1) = true := by decide +kernel
theorem w_tables : (allAtoms (Jvm.Cond.code x code maxLocals ret :: tables_1)).before args0 about1 = true := by
  rw [allAtoms_all]
  show words1.all (fun c => c.before args0 about1) = true
  refine all_split ?_ w_codes
  rw [← List.take_append_drop 24 words1, List.all_append, w_t1, ← List.take_append_drop 24 (words1.drop 24), List.all_append, w_t2, ← List.take_append_drop 24 ((words1.drop 24).drop 24), List.all_append, w_t3, ← List.take_append_drop 24 (((words1.drop 24).drop 24).drop 24), List.all_append, w_t4, w_t5]
  rfl
set_option maxRecDepth 65536 in
theorem w_rest : rest_1_c.before args0 about1 = true := by decide +kernel
set_option maxRecDepth 65536 in
theorem w_case : (Jvm.Cond.and given_1 narrow_1).before args0 about1 = true := by decide +kernel
set_option maxRecDepth 65536 in
theorem w_consts : constsHeld consts_1 about1 := Jvm.Lit.constsHeldB_iff.mp (by decide +kernel)
theorem w_applies : (headSpec (Jvm.Cond.code x code maxLocals ret :: tables_1) room_1).applies x e0.platform about1 = true :=
  (Spec.applies_iff w_frames).mpr ⟨w_running, w_runnable, w_alone, w_named, w_hears, w_ripe, w_room, w_tables⟩
theorem atStart : AtStart classFile x code maxLocals ret World_1 tables_1 room_1 Calls_1 rest_1 Pre_1 launch0 p0 e0 about1 theMethod args0 below0 :=
  ⟨lists_1, trivial, launch0.admits_env _ _ _, launch0.least_env, fairChoices_fair.cas, fairChoices_fair.clock, w_frames, w_args, w_heap, w_applies, ⟨w_consts, trivial⟩, w_rest, w_case⟩
end start1
theorem witness_1 : WitnessClaimed_1 := ⟨start1.p0, start1.e0, start1.about1, start1.theMethod, start1.args0, start1.below0, start1.atStart⟩
end Jvm.Pilot.@@N@@
