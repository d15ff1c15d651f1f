import JvmDerived
import JvmDerived.Pilot.@@N@@Statement
import JvmDerived.Pilot.@@N@@Code
set_option linter.unusedVariables false
set_option linter.unusedSimpArgs false
/- laws to paste: Road.backV (cut by pick.py; bodies as the Statement names them) -/
namespace Jvm.Pilot.@@N@@
namespace StrChars
open Jvm Sem ClassFile Op Lib Jvm.Stand Jvm.Free.XT Jvm.Free.ALB Jvm.Free.JM Jvm.Free
open Jvm.Lib.Cold (StaticIs)
/-- a char array whose places are chars -/
def Ch (a : Addr) (A : Cell) (U : State) : Prop := Arr .char a A U ∧ Typed .char A
theorem Ch.mv {a : Addr} {A : Cell} {U U' : State} (h : Ch a A U) (hal : U.vm.Alike U'.vm) (hh : U'.heap = U.heap) : Ch a A U' := ⟨h.1.mv hal hh, h.2⟩
theorem Ch.keep {a : Addr} {A : Cell} {U U' : State} (h : Ch a A U) (hal : U.vm.Alike U'.vm) (hk : U'.heap[a]? = some A) : Ch a A U' := ⟨h.1.keep hal hk, h.2⟩
/-- what place i of a char[]'s cell holds -/
def cv (A : Cell) (i : Nat) : Int32 := match A.slots[i]? with | some (.int x) => x | _ => 0
theorem Ch.get {a : Addr} {A : Cell} {U : State} (h : Ch a A U) {i : Nat} (hi : i < A.slots.size) : A.slots[i]? = some (.int (cv A i)) := by
  have e := Array.getElem?_eq_getElem hi
  have f := h.2 i _ e
  unfold cv; rw [e]
  generalize A.slots[i] = v at f
  cases v <;> simp [fits] at f ⊢
/-- the byte that i2b leaves of a char -/
def lo8 (x : Int32) : Int32 := x.toInt8.toInt32
theorem fits_lo8 (y : Int32) : fits .byte (.int (lo8 y)) = true := by
  have h1 := y.toInt8.le_toInt
  have h2 := y.toInt8.toInt_lt
  simp only [lo8, fits, Bool.and_eq_true, decide_eq_true_eq, Int32.le_iff_toInt_le, Int8.toInt_toInt32, show (-128 : Int32).toInt = -128 from by decide, show (127 : Int32).toInt = 127 from by decide]
  omega
/-- A' is A but that each place j of lo .. hi - 1 holds f j -/
def Laid (A A' : Cell) (lo hi : Nat) (f : Nat → Value) : Prop := A'.cls = A.cls ∧ A'.vm = A.vm ∧ A'.slots.size = A.slots.size ∧ ∀ i, A'.slots[i]? = if lo ≤ i ∧ i < hi then some (f i) else A.slots[i]?
theorem Laid.zero (A : Cell) (lo : Nat) (f : Nat → Value) : Laid A A lo (lo + 0) f := ⟨rfl, rfl, rfl, fun i => by rw [if_neg (by omega)]⟩
theorem Laid.step {A Ak : Cell} {lo k : Nat} {f : Nat → Value} {v : Value} (h : Laid A Ak lo k f) (hlo : lo ≤ k) (hk : k < Ak.slots.size) (hv : v = f k) : Laid A (Ak.setSlot k v) lo (k + 1) f := by
  refine ⟨h.1, h.2.1, by simpa [Cell.setSlot] using h.2.2.1, fun i => ?_⟩
  by_cases e : k = i
  · subst e; rw [Cell.slots_setSlot_self v hk, if_pos (by omega), hv]
  · rw [Cell.slots_setSlot_ne v e, h.2.2.2 i]
    by_cases q : lo ≤ i ∧ i < k
    · rw [if_pos q, if_pos (by omega)]
    · rw [if_neg q, if_neg (by omega)]
def U16 : String := "java/lang/StringUTF16"
namespace Cmp5
def yN : MethodName := ⟨"java/lang/StringUTF16", "compress", "([CI[BII)I"⟩
abbrev yB : ByteArray := jdk_52_method_21_code
theorem d0 : decode yB 0 = .ok (.iconst 0, 1) := by decide +kernel
theorem d1 : decode yB 1 = .ok (.istore 5, 2) := by decide +kernel
theorem d3 : decode yB 3 = .ok (.iload 5, 2) := by decide +kernel
theorem d5 : decode yB 5 = .ok (.iload 4, 2) := by decide +kernel
theorem d7 : decode yB 7 = .ok (.if_icmp (.ge) 37, 3) := by decide +kernel
theorem d10 : decode yB 10 = .ok (.aload_n 0, 1) := by decide +kernel
theorem d11 : decode yB 11 = .ok (.iload_n 1, 1) := by decide +kernel
theorem d12 : decode yB 12 = .ok (.caload, 1) := by decide +kernel
theorem d13 : decode yB 13 = .ok (.istore 6, 2) := by decide +kernel
theorem d15 : decode yB 15 = .ok (.iload 6, 2) := by decide +kernel
theorem d17 : decode yB 17 = .ok (.sipush 255, 3) := by decide +kernel
theorem d20 : decode yB 20 = .ok (.if_icmp (.le) 6, 3) := by decide +kernel
theorem d26 : decode yB 26 = .ok (.aload_n 2, 1) := by decide +kernel
theorem d27 : decode yB 27 = .ok (.iload_n 3, 1) := by decide +kernel
theorem d28 : decode yB 28 = .ok (.iload 6, 2) := by decide +kernel
theorem d30 : decode yB 30 = .ok (.i2b, 1) := by decide +kernel
theorem d31 : decode yB 31 = .ok (.bastore, 1) := by decide +kernel
theorem d32 : decode yB 32 = .ok (.iinc 1 1, 3) := by decide +kernel
theorem d35 : decode yB 35 = .ok (.iinc 3 1, 3) := by decide +kernel
theorem d38 : decode yB 38 = .ok (.iinc 5 1, 3) := by decide +kernel
theorem d41 : decode yB 41 = .ok (.goto (-38), 3) := by decide +kernel
theorem d44 : decode yB 44 = .ok (.iload 4, 2) := by decide +kernel
theorem d46 : decode yB 46 = .ok (.ireturn, 1) := by decide +kernel
def site : List Cond := []
def tab : Cond := tabOf yN yB 7 (some .int) site
def P (b : Addr) (A : Cell) (d : Addr) (B : Cell) (o q len : Nat) (args : Array Value) (s : State) : Prop := args = #[.ref b, .int (Int32.ofNat o), .ref d, .int (Int32.ofNat q), .int (Int32.ofNat len)] ∧ Ch b A s ∧ Arr .byte d B s ∧ b ≠ d ∧ o + len ≤ A.slots.size ∧ q + len ≤ B.slots.size ∧ ∀ i, i < len → ¬ 255 < cv A (o + i)
def E (b : Addr) (A : Cell) (d : Addr) (B : Cell) (o q len : Nat) (r : Option Value) (s u : State) : Prop := r = some (.int (Int32.ofNat len)) ∧ ∃ B', Put d B' s u ∧ Laid B B' q (q + len) (fun j => Value.int (lo8 (cv A (o + (j - q)))))
/-- no char of the range above 255: len; the places written hold each char's low byte -/
theorem law (l : Launch) (b : Addr) (A : Cell) (d : Addr) (B : Cell) (o q len : Nat) : Law l yN 5 5 0 0 yB 7 (some .int) site (P b A d B o q len) (E b A d B o q len) (copyLocs d q len) 0 0 := by
  refine Law.of_walk (plainFor_of_name (by decide +kernel)) (by decide +kernel) (by decide +kernel) (by decide) (fun _ _ h => by rw [h.1]; rfl) (fun _ U U' hal hh h => ⟨h.1, h.2.1.mv hal hh, h.2.2.1.mv hal hh, h.2.2.2⟩) (fun r U U' V V' h1 hal h2 h => ⟨h.1, h.2.elim fun B' q => ⟨B', q.1.mv h1 h2, q.2⟩⟩) ?_
  intro p e s m args below meth c s₁ X0 hexec hbytes hml hret hlk hnm hown hh0 W hP
  obtain ⟨rfl, hA, hB, hne, l1, l2, hp⟩ := hP
  have c1 : Steps p.tables e below (s₁.setTop (entryFrame m #[.ref b, .int (Int32.ofNat o), .ref d, .int (Int32.ofNat q), .int (Int32.ofNat len)] 7)) (s₁.setTop (mkF m 0 #[.val (.ref b), .val (.int (Int32.ofNat o)), .val (.ref d), .val (.int (Int32.ofNat q)), .val (.int (Int32.ofNat len)), .unset, .unset] [])) := entry rfl
  have hA0 := hA.1.mv X0.warmed.alike hh0
  have hB0 := hB.mv X0.warmed.alike hh0
  have a31 := hA.1.2.2.2
  have c2 : Steps p.tables e below (s₁.setTop (entryFrame m #[.ref b, .int (Int32.ofNat o), .ref d, .int (Int32.ofNat q), .int (Int32.ofNat len)] 7)) (s₁.setTop (mkF m 3 #[.val (.ref b), .val (.int (Int32.ofNat o)), .val (.ref d), .val (.int (Int32.ofNat q)), .val (.int (Int32.ofNat len)), .val (.int 0), .unset] [])) := c1.trans (by
    refine iconstV X0.here hexec rfl 0 (hb hbytes d0) (by decide) ?_
    refine XS.istore X0.here hexec rfl (hb hbytes d1) rfl rfl ?_
    exact Steps.refl _)
  have loop : ∀ (r i : Nat), i + r = len → ∀ (z : Slot), (z = .unset ∨ ∃ w, z = .val w ∧ w.category = 1) → ∀ (Tl : State) (Bk : Cell), Stand p l e { frames := 0, locals := 0, cells := 0, slots := 0 } s m #[.ref b, .int (Int32.ofNat o), .ref d, .int (Int32.ofNat q), .int (Int32.ofNat len)] below meth c Tl ([] ++ copyLocs d q i) 0 0 → Put d Bk s₁ Tl → Laid B Bk q (q + i) (fun j => Value.int (lo8 (cv A (o + (j - q))))) →
      Steps p.tables e below (s₁.setTop (entryFrame m #[.ref b, .int (Int32.ofNat o), .ref d, .int (Int32.ofNat q), .int (Int32.ofNat len)] 7)) (Tl.setTop (mkF m 3 #[.val (.ref b), .val (.int (Int32.ofNat (o + i))), .val (.ref d), .val (.int (Int32.ofNat (q + i))), .val (.int (Int32.ofNat len)), .val (.int (Int32.ofNat i)), z] [])) → ∃ (T' : State) (B' : Cell) (z' : Slot), Stand p l e { frames := 0, locals := 0, cells := 0, slots := 0 } s m #[.ref b, .int (Int32.ofNat o), .ref d, .int (Int32.ofNat q), .int (Int32.ofNat len)] below meth c T' ([] ++ copyLocs d q len) 0 0 ∧ Put d B' s₁ T' ∧ Laid B B' q (q + len) (fun j => Value.int (lo8 (cv A (o + (j - q))))) ∧
      Steps p.tables e below (s₁.setTop (entryFrame m #[.ref b, .int (Int32.ofNat o), .ref d, .int (Int32.ofNat q), .int (Int32.ofNat len)] 7)) (T'.setTop (mkF m 3 #[.val (.ref b), .val (.int (Int32.ofNat (o + len))), .val (.ref d), .val (.int (Int32.ofNat (q + len))), .val (.int (Int32.ofNat len)), .val (.int (Int32.ofNat len)), z'] [])) := by
    intro r
    induction r with
    | zero =>
      intro i hi z hz Tl Bk Xl pl fl cl
      have hil : i = len := by omega
      rw [hil] at Xl fl cl
      exact ⟨Tl, Bk, z, Xl, pl, fl, cl⟩
    | succ r ih =>
      intro i hi z hz Tl Bk Xl pl fl cl
      have all := X0.warmed.alike.symm.trans Xl.warmed.alike
      have hAl := hA0.keep all (pl.other hne hA0.1)
      have hBk := hB0.like all pl.1 fl.1 fl.2.1 fl.2.2.1
      have hlt : q + i < Bk.slots.size := by rw [fl.2.2.1]; omega
      have c3 : Steps p.tables e below (s₁.setTop (entryFrame m #[.ref b, .int (Int32.ofNat o), .ref d, .int (Int32.ofNat q), .int (Int32.ofNat len)] 7)) (Tl.setTop (mkF m 12 #[.val (.ref b), .val (.int (Int32.ofNat (o + i))), .val (.ref d), .val (.int (Int32.ofNat (q + i))), .val (.int (Int32.ofNat len)), .val (.int (Int32.ofNat i)), z] [.int (Int32.ofNat (o + i)), .ref b])) := cl.trans (by
        refine XS.iload Xl.here hexec rfl (hb hbytes d3) rfl ?_
        refine XS.iload Xl.here hexec rfl (hb hbytes d5) rfl ?_
        refine XS.icmpNo Xl.here hexec rfl (hb hbytes d7) rfl (ii_ge_f (lt32 (by omega) (by omega))) ?_
        refine XS.aloadN Xl.here hexec rfl (hb hbytes d10) rfl rfl ?_
        refine XS.iloadN Xl.here hexec rfl (hb hbytes d11) rfl ?_
        exact Steps.refl _)
      have c4 : Steps p.tables e below (s₁.setTop (entryFrame m #[.ref b, .int (Int32.ofNat o), .ref d, .int (Int32.ofNat q), .int (Int32.ofNat len)] 7)) (Tl.setTop (mkF m 13 #[.val (.ref b), .val (.int (Int32.ofNat (o + i))), .val (.ref d), .val (.int (Int32.ofNat (q + i))), .val (.int (Int32.ofNat len)), .val (.int (Int32.ofNat i)), z] [.int (cv A (o + i))])) := c3.trans (by
        refine Xl.aget hexec hAl rfl (hA.get (i := o + i) (by omega)) rfl rfl (hb hbytes d12) ?_
        exact Steps.refl _)
      have c5 : Steps p.tables e below (s₁.setTop (entryFrame m #[.ref b, .int (Int32.ofNat o), .ref d, .int (Int32.ofNat q), .int (Int32.ofNat len)] 7)) (Tl.setTop (mkF m 15 #[.val (.ref b), .val (.int (Int32.ofNat (o + i))), .val (.ref d), .val (.int (Int32.ofNat (q + i))), .val (.int (Int32.ofNat len)), .val (.int (Int32.ofNat i)), .val (.int (cv A (o + i)))] [])) := c4.trans (by
        refine XS.istoreS Xl.here hexec rfl (hb hbytes d13) rfl rfl hz ?_
        exact Steps.refl _)
      have c6 : Steps p.tables e below (s₁.setTop (entryFrame m #[.ref b, .int (Int32.ofNat o), .ref d, .int (Int32.ofNat q), .int (Int32.ofNat len)] 7)) (Tl.setTop (mkF m 31 #[.val (.ref b), .val (.int (Int32.ofNat (o + i))), .val (.ref d), .val (.int (Int32.ofNat (q + i))), .val (.int (Int32.ofNat len)), .val (.int (Int32.ofNat i)), .val (.int (cv A (o + i)))] [.int (lo8 (cv A (o + i))), .int (Int32.ofNat (q + i)), .ref d])) := c5.trans (by
        refine XS.iload Xl.here hexec rfl (hb hbytes d15) rfl ?_
        refine sipushV Xl.here hexec rfl 255 (hb hbytes d17) (by decide) ?_
        refine XS.icmpYes Xl.here hexec rfl (pc0 := 20) rfl (hb hbytes d20) rfl (ii_le_t (hp i (by omega))) (by decide) rfl ?_
        refine XS.aloadN Xl.here hexec rfl (hb hbytes d26) rfl rfl ?_
        refine XS.iloadN Xl.here hexec rfl (hb hbytes d27) rfl ?_
        refine XS.iload Xl.here hexec rfl (hb hbytes d28) rfl ?_
        refine i2b Xl.here hexec rfl (hb hbytes d30) rfl ?_
        exact Steps.refl _)
      obtain ⟨T7, X7, p7, st7⟩ := Xl.aput hexec hBk rfl hlt rfl (fits_lo8 (cv A (o + i))) (g := (mkF m 31 #[.val (.ref b), .val (.int (Int32.ofNat (o + i))), .val (.ref d), .val (.int (Int32.ofNat (q + i))), .val (.int (Int32.ofNat len)), .val (.int (Int32.ofNat i)), .val (.int (cv A (o + i)))] [.int (lo8 (cv A (o + i))), .int (Int32.ofNat (q + i)), .ref d])) rfl (rest := []) rfl (hb hbytes d31)
      have c8 : Steps p.tables e below (s₁.setTop (entryFrame m #[.ref b, .int (Int32.ofNat o), .ref d, .int (Int32.ofNat q), .int (Int32.ofNat len)] 7)) (T7.setTop (mkF m 32 #[.val (.ref b), .val (.int (Int32.ofNat (o + i))), .val (.ref d), .val (.int (Int32.ofNat (q + i))), .val (.int (Int32.ofNat len)), .val (.int (Int32.ofNat i)), .val (.int (cv A (o + i)))] [])) := c6.trans (st7 _ (Steps.refl _))
      have c9 : Steps p.tables e below (s₁.setTop (entryFrame m #[.ref b, .int (Int32.ofNat o), .ref d, .int (Int32.ofNat q), .int (Int32.ofNat len)] 7)) (T7.setTop (mkF m 3 #[.val (.ref b), .val (.int (Int32.ofNat (o + i) + 1)), .val (.ref d), .val (.int (Int32.ofNat (q + i) + 1)), .val (.int (Int32.ofNat len)), .val (.int (Int32.ofNat i + 1)), .val (.int (cv A (o + i)))] [])) := c8.trans (by
        refine iincV X7.here hexec rfl 1 (hb hbytes d32) (by decide) rfl rfl ?_
        refine iincV X7.here hexec rfl 1 (hb hbytes d35) (by decide) rfl rfl ?_
        refine iincV X7.here hexec rfl 1 (hb hbytes d38) (by decide) rfl rfl ?_
        refine XS.goto X7.here hexec rfl (pc0 := 41) rfl (hb hbytes d41) (by decide) rfl ?_
        exact Steps.refl _)
      have c10 : Steps p.tables e below (s₁.setTop (entryFrame m #[.ref b, .int (Int32.ofNat o), .ref d, .int (Int32.ofNat q), .int (Int32.ofNat len)] 7)) (T7.setTop (mkF m 3 #[.val (.ref b), .val (.int (Int32.ofNat (o + (i + 1)))), .val (.ref d), .val (.int (Int32.ofNat (q + (i + 1)))), .val (.int (Int32.ofNat len)), .val (.int (Int32.ofNat (i + 1))), .val (.int (cv A (o + i)))] [])) := by
        have := c9
        rw [succ32, succ32, succ32] at this
        exact this
      exact ih (i + 1) (by omega) _ (Or.inr ⟨_, rfl, rfl⟩) T7 _ (by rw [copyLocs_step, ← List.append_assoc]; exact X7) (pl.trans p7) (fl.step (by omega) hlt (by simp)) c10
  obtain ⟨T9, B9, z9, X9, p9, f9, g9⟩ := loop len 0 (by omega) .unset (Or.inl rfl) s₁ B (by simpa [copyLocs] using X0) ⟨hB0.1, fun _ _ => rfl, rfl⟩ (Laid.zero _ _ _) c2
  have c11 : Steps p.tables e below (s₁.setTop (entryFrame m #[.ref b, .int (Int32.ofNat o), .ref d, .int (Int32.ofNat q), .int (Int32.ofNat len)] 7)) (T9.setTop (mkF m 46 #[.val (.ref b), .val (.int (Int32.ofNat (o + len))), .val (.ref d), .val (.int (Int32.ofNat (q + len))), .val (.int (Int32.ofNat len)), .val (.int (Int32.ofNat len)), z9] [.int (Int32.ofNat len)])) := g9.trans (by
    refine XS.iload X9.here hexec rfl (hb hbytes d3) rfl ?_
    refine XS.iload X9.here hexec rfl (hb hbytes d5) rfl ?_
    refine XS.icmpYes X9.here hexec rfl (pc0 := 7) rfl (hb hbytes d7) rfl (ii_ge_t (nlt32 (by omega) (Nat.le_refl _))) (by decide) rfl ?_
    refine XS.iload X9.here hexec rfl (hb hbytes d44) rfl ?_
    exact Steps.refl _)
  exact ⟨T9, some (.int (Int32.ofNat len)), _, _, _, X9, by simp, rfl, rfl, (fun h => by cases h), ⟨rfl, B9, p9.from hh0, f9⟩, fun fs hl => c11.trans (X9.ireturnOut hexec hret rfl (Or.inl rfl) (hb hbytes d46) hl)⟩
end Cmp5
namespace Cmp3
def yN : MethodName := ⟨"java/lang/StringUTF16", "compress", "([CII)[B"⟩
abbrev yB : ByteArray := jdk_52_method_16_code
theorem d0 : decode yB 0 = .ok (.iload_n 2, 1) := by decide +kernel
theorem d1 : decode yB 1 = .ok (.newarray .byte, 2) := by decide +kernel
theorem d3 : decode yB 3 = .ok (.astore_n 3, 1) := by decide +kernel
theorem d4 : decode yB 4 = .ok (.aload_n 0, 1) := by decide +kernel
theorem d5 : decode yB 5 = .ok (.iload_n 1, 1) := by decide +kernel
theorem d6 : decode yB 6 = .ok (.aload_n 3, 1) := by decide +kernel
theorem d7 : decode yB 7 = .ok (.iconst 0, 1) := by decide +kernel
theorem d8 : decode yB 8 = .ok (.iload_n 2, 1) := by decide +kernel
theorem d9 : decode yB 9 = .ok (.invokestatic 115, 3) := by decide +kernel
theorem d12 : decode yB 12 = .ok (.istore 4, 2) := by decide +kernel
theorem d14 : decode yB 14 = .ok (.iload 4, 2) := by decide +kernel
theorem d16 : decode yB 16 = .ok (.iload_n 2, 1) := by decide +kernel
theorem d17 : decode yB 17 = .ok (.if_icmp (.eq) 40, 3) := by decide +kernel
theorem d57 : decode yB 57 = .ok (.aload_n 3, 1) := by decide +kernel
theorem d58 : decode yB 58 = .ok (.areturn, 1) := by decide +kernel
def site : List Cond := [.arrayClass .byte, Cmp5.tab] ++ staticW U16 115 Cmp5.yN
def tab : Cond := tabOf yN yB 6 (some (.array .byte)) site
def P (b : Addr) (A : Cell) (o len : Nat) (args : Array Value) (s : State) : Prop := args = #[.ref b, .int (Int32.ofNat o), .int (Int32.ofNat len)] ∧ Ch b A s ∧ o + len ≤ A.slots.size ∧ len ≤ 536870912 ∧ ∀ i, i < len → ¬ 255 < cv A (o + i)
def E (b : Addr) (A : Cell) (o len : Nat) (r : Option Value) (s u : State) : Prop := NewArr .byte "[B" len (fun j => .int (lo8 (cv A (o + j)))) r s u ∧ u.heap.size = s.heap.size + 1
/-- no char of the range above 255: a new byte[] of their low bytes -/
theorem law (l : Launch) (b : Addr) (A : Cell) (o len : Nat) : Law l yN 3 3 1 18 yB 6 (some (.array .byte)) site (P b A o len) (E b A o len) [] 1 len := by
  refine Law.of_walk (plainFor_of_name (by decide +kernel)) (by decide +kernel) (by decide +kernel) (by decide) (fun _ _ h => by rw [h.1]; rfl) (fun _ U U' hal hh h => ⟨h.1, h.2.1.mv hal hh, h.2.2⟩) (fun r U U' V V' h1 hal h2 h => ⟨NewArr.mv r U U' V V' h1 hal h2 h.1, by rw [h1, h2]; exact h.2⟩) ?_
  intro p e s m args below meth c s₁ X0 hexec hbytes hml hret hlk hnm hown hh0 W hP
  obtain ⟨rfl, hA, l1, l2, hp⟩ := hP
  have a31 := hA.1.2.2.2
  have c1 : Steps p.tables e below (s₁.setTop (entryFrame m #[.ref b, .int (Int32.ofNat o), .int (Int32.ofNat len)] 6)) (s₁.setTop (mkF m 0 #[.val (.ref b), .val (.int (Int32.ofNat o)), .val (.int (Int32.ofNat len)), .unset, .unset, .unset] [])) := entry rfl
  have c2 : Steps p.tables e below (s₁.setTop (entryFrame m #[.ref b, .int (Int32.ofNat o), .int (Int32.ofNat len)] 6)) (s₁.setTop (mkF m 1 #[.val (.ref b), .val (.int (Int32.ofNat o)), .val (.int (Int32.ofNat len)), .unset, .unset, .unset] [.int (Int32.ofNat len)])) := c1.trans (by
    refine XS.iloadN X0.here hexec rfl (hb hbytes d0) rfl ?_
    exact Steps.refl _)
  obtain ⟨T3, B3, X3, ba3, bs3, bv3, bh3, bf3, st3⟩ := X0.anew hexec (atype := .byte) (wk W (.arrayClass .byte)) rfl (by show len * 1 ≤ _; omega) (by omega) (g := (mkF m 1 #[.val (.ref b), .val (.int (Int32.ofNat o)), .val (.int (Int32.ofNat len)), .unset, .unset, .unset] [.int (Int32.ofNat len)])) rfl (hb hbytes d1) (rest := []) rfl (Nat.le_refl _) (by show 0 + len ≤ len; omega)
  rw [hh0] at ba3 st3
  have kp3 : XT.Kept s T3 := (XT.Kept.of_eq hh0).push bh3
  have hA3 := hA.keep X3.warmed.alike (kp3 _ _ hA.1.1)
  have hne : b ≠ s.heap.size := hA.1.ne
  have c4 : Steps p.tables e below (s₁.setTop (entryFrame m #[.ref b, .int (Int32.ofNat o), .int (Int32.ofNat len)] 6)) (T3.setTop (mkF m 3 #[.val (.ref b), .val (.int (Int32.ofNat o)), .val (.int (Int32.ofNat len)), .unset, .unset, .unset] [.ref s.heap.size])) := c2.trans (st3 _ (Steps.refl _))
  have c5 : Steps p.tables e below (s₁.setTop (entryFrame m #[.ref b, .int (Int32.ofNat o), .int (Int32.ofNat len)] 6)) (T3.setTop (mkF m 9 #[.val (.ref b), .val (.int (Int32.ofNat o)), .val (.int (Int32.ofNat len)), .val (.ref s.heap.size), .unset, .unset] [.int (Int32.ofNat len), .int 0, .ref s.heap.size, .int (Int32.ofNat o), .ref b])) := c4.trans (by
    refine XS.astoreN X3.here hexec rfl (hb hbytes d3) rfl rfl rfl ?_
    refine XS.aloadN X3.here hexec rfl (hb hbytes d4) rfl rfl ?_
    refine XS.iloadN X3.here hexec rfl (hb hbytes d5) rfl ?_
    refine XS.aloadN X3.here hexec rfl (hb hbytes d6) rfl rfl ?_
    refine iconstV X3.here hexec rfl 0 (hb hbytes d7) (by decide) ?_
    refine XS.iloadN X3.here hexec rfl (hb hbytes d8) rfl ?_
    exact Steps.refl _)
  obtain ⟨v6, T6, X6, E6, g6⟩ := X3.callS hexec (Cmp5.law l b A s.heap.size B3 o 0 len) hown (wks W (staticW U16 115 Cmp5.yN)) (wk W Cmp5.tab) (W := 0) (Nat.le_of_ble_eq_true rfl) (Nat.le_of_ble_eq_true rfl) (Nat.le_refl _) (by show 0 + len + 0 ≤ len; omega) (g := (mkF m 9 #[.val (.ref b), .val (.int (Int32.ofNat o)), .val (.int (Int32.ofNat len)), .val (.ref s.heap.size), .unset, .unset] [.int (Int32.ofNat len), .int (Int32.ofNat 0), .ref s.heap.size, .int (Int32.ofNat o), .ref b])) rfl (by rw [hml]; rfl) c5 (argsL := [.ref b, .int (Int32.ofNat o), .ref s.heap.size, .int (Int32.ofNat 0), .int (Int32.ofNat len)]) (rest := []) rfl rfl (by show 2 * 0 + 0 ≤ _; decide) (hb hbytes d9) (⟨rfl, hA3, ba3, hne, l1, by rw [bs3]; simp, hp⟩)
  obtain ⟨rfl, B6, p6, f6⟩ := E6
  have c7 : Steps p.tables e below (s₁.setTop (entryFrame m #[.ref b, .int (Int32.ofNat o), .int (Int32.ofNat len)] 6)) (T6.setTop (mkF m 12 #[.val (.ref b), .val (.int (Int32.ofNat o)), .val (.int (Int32.ofNat len)), .val (.ref s.heap.size), .unset, .unset] [.int (Int32.ofNat len)])) := g6
  have c8 : Steps p.tables e below (s₁.setTop (entryFrame m #[.ref b, .int (Int32.ofNat o), .int (Int32.ofNat len)] 6)) (T6.setTop (mkF m 58 #[.val (.ref b), .val (.int (Int32.ofNat o)), .val (.int (Int32.ofNat len)), .val (.ref s.heap.size), .val (.int (Int32.ofNat len)), .unset] [.ref s.heap.size])) := c7.trans (by
    refine XS.istore X6.here hexec rfl (hb hbytes d12) rfl rfl ?_
    refine XS.iload X6.here hexec rfl (hb hbytes d14) rfl ?_
    refine XS.iloadN X6.here hexec rfl (hb hbytes d16) rfl ?_
    refine XS.icmpYes X6.here hexec rfl (pc0 := 17) rfl (hb hbytes d17) rfl (ii_eq_t rfl) (by decide) rfl ?_
    refine XS.aloadN X6.here hexec rfl (hb hbytes d57) rfl rfl ?_
    exact Steps.refl _)
  have X8 := X6.wide (L' := []) (cells' := 1) (slots' := len) (fun x hx hlt => by
    simp only [List.nil_append, copyLocs, List.mem_map, List.mem_range] at hx
    obtain ⟨i, -, rfl⟩ := hx
    exact absurd hlt (Nat.lt_irrefl _)) (Nat.le_refl _) (by omega)
  exact ⟨T6, some (.ref s.heap.size), _, _, _, X8, rfl, rfl, rfl, (fun h => by cases h), ⟨⟨rfl, B6, ba3.like (X3.warmed.alike.symm.trans X6.warmed.alike) p6.1 f6.1 f6.2.1 f6.2.2.1, f6.2.1.trans bv3, by rw [X6.warmed.alike.findClass, f6.1]; exact bf3, by rw [f6.2.2.1, bs3]; simp, fun j hj => by rw [f6.2.2.2 j, if_pos (by omega)]; rfl, kp3.put p6 (Nat.le_refl _)⟩, by rw [p6.2.2, bh3, hh0]; simp⟩, fun fs hl => c8.trans (X8.areturnOut hexec rfl hret rfl (hb hbytes d58) hl)⟩
end Cmp3
namespace CodL
def yN : MethodName := ⟨"java/lang/StringUTF16", "coderFromArrayLen", "([BI)B"⟩
abbrev yB : ByteArray := jdk_52_method_15_code
theorem d0 : decode yB 0 = .ok (.iload_n 1, 1) := by decide +kernel
theorem d1 : decode yB 1 = .ok (.aload_n 0, 1) := by decide +kernel
theorem d2 : decode yB 2 = .ok (.arraylength, 1) := by decide +kernel
theorem d3 : decode yB 3 = .ok (.isub, 1) := by decide +kernel
theorem d4 : decode yB 4 = .ok (.bipush 31, 2) := by decide +kernel
theorem d6 : decode yB 6 = .ok (.iushr, 1) := by decide +kernel
theorem d7 : decode yB 7 = .ok (.i2b, 1) := by decide +kernel
theorem d8 : decode yB 8 = .ok (.ireturn, 1) := by decide +kernel
def site : List Cond := []
def tab : Cond := tabOf yN yB 2 (some .byte) site
def P (d : Addr) (B : Cell) (args : Array Value) (s : State) : Prop := args = #[.ref d, .int (Int32.ofNat B.slots.size)] ∧ Arr .byte d B s
def E (r : Option Value) (s u : State) : Prop := XT.PureE (some (.int 0)) r s u
/-- an array as long as the number of chars: LATIN1 -/
theorem law (l : Launch) (d : Addr) (B : Cell) : Law l yN 2 2 0 0 yB 2 (some .byte) site (P d B) E [] 0 0 := by
  refine Law.of_walk (plainFor_of_name (by decide +kernel)) (by decide +kernel) (by decide +kernel) (by decide) (fun _ _ h => by rw [h.1]; rfl) (fun _ U U' hal hh h => ⟨h.1, h.2.mv hal hh⟩) (fun r U U' V V' h1 hal h2 h => XT.PureE.mv r U U' V V' h1 hal h2 h) ?_
  intro p e s m args below meth c s₁ X0 hexec hbytes hml hret hlk hnm hown hh0 W hP
  obtain ⟨rfl, hB⟩ := hP
  have hB0 := hB.mv X0.warmed.alike hh0
  have c1 : Steps p.tables e below (s₁.setTop (entryFrame m #[.ref d, .int (Int32.ofNat B.slots.size)] 2)) (s₁.setTop (mkF m 0 #[.val (.ref d), .val (.int (Int32.ofNat B.slots.size))] [])) := entry rfl
  have c2 : Steps p.tables e below (s₁.setTop (entryFrame m #[.ref d, .int (Int32.ofNat B.slots.size)] 2)) (s₁.setTop (mkF m 2 #[.val (.ref d), .val (.int (Int32.ofNat B.slots.size))] [.ref d, .int (Int32.ofNat B.slots.size)])) := c1.trans (by
    refine XS.iloadN X0.here hexec rfl (hb hbytes d0) rfl ?_
    refine XS.aloadN X0.here hexec rfl (hb hbytes d1) rfl rfl ?_
    exact Steps.refl _)
  have c3 : Steps p.tables e below (s₁.setTop (entryFrame m #[.ref d, .int (Int32.ofNat B.slots.size)] 2)) (s₁.setTop (mkF m 8 #[.val (.ref d), .val (.int (Int32.ofNat B.slots.size))] [.int (lo8 (ushr (Int32.ofNat B.slots.size - Int32.ofNat B.slots.size) 31))])) := c2.trans (by
    refine X0.alen hexec hB0 rfl rfl (hb hbytes d2) ?_
    refine XS.isub X0.here hexec rfl (hb hbytes d3) rfl ?_
    refine bipushV X0.here hexec rfl 31 (hb hbytes d4) (by decide) ?_
    refine iushr X0.here hexec rfl (hb hbytes d6) rfl ?_
    refine i2b X0.here hexec rfl (hb hbytes d7) rfl ?_
    exact Steps.refl _)
  have e0 : lo8 (ushr (Int32.ofNat B.slots.size - Int32.ofNat B.slots.size) 31) = 0 := by rw [Int32.sub_self]; decide
  rw [e0] at c3
  exact ⟨s₁, some (.int 0), _, _, _, X0, rfl, rfl, rfl, (fun h => by cases h), ⟨rfl, hh0⟩, fun fs hl => c3.trans (X0.ireturnOut hexec hret rfl (Or.inr (Or.inr (Or.inl rfl))) (hb hbytes d8) hl)⟩
end CodL
/-- the String at a is Latin-1 over a new byte[] (the heap's one new cell): the low bytes of the len chars of A from o on; every cell but a is kept -/
def Got (a : Addr) (D : Cell) (fV fC : Field) (A : Cell) (o len : Nat) (r : Option Value) (s u : State) : Prop := r = none ∧ ∃ D' V : Cell, Blank "java/lang/String" a D' u ∧ Same D D' [fV.slot, fC.slot] ∧ D'.slots[fV.slot]? = some (.ref s.heap.size) ∧ D'.slots[fC.slot]? = some (.int 0) ∧ Arr .byte s.heap.size V u ∧ V.vm = .none ∧ u.vm.findClass "[B" = some V.cls ∧ V.slots.size = len ∧ (∀ j, j < len → V.slots[j]? = some (.int (lo8 (cv A (o + j))))) ∧ (∀ (y : Addr) (c : Cell), y ≠ a → s.heap[y]? = some c → u.heap[y]? = some c) ∧ u.heap.size = s.heap.size + 1
theorem Got.mv {a : Addr} {D A : Cell} {fV fC : Field} {o len : Nat} : ∀ r (U U' V V' : State), U'.heap = U.heap → V.vm.Alike V'.vm → V'.heap = V.heap → Got a D fV fC A o len r U V → Got a D fV fC A o len r U' V' :=
  fun r U U' V V' h1 hal h2 ⟨e0, D', X, a1, a2, a3, a4, a5, a6, a7, a8, a9, a10, a11⟩ => ⟨e0, D', X, a1.mv hal h2, a2, by rw [h1]; exact a3, a4, by rw [h1]; exact a5.mv hal h2, a6, by rw [hal.findClass]; exact a7, a8, a9, by rw [h1, h2]; exact a10, by rw [h1, h2]; exact a11⟩
namespace New4
def yN : MethodName := ⟨"java/lang/String", "<init>", "([CIILjava/lang/Void;)V"⟩
abbrev yB : ByteArray := jdk_42_method_149_code
theorem d0 : decode yB 0 = .ok (.aload_n 0, 1) := by decide +kernel
theorem d1 : decode yB 1 = .ok (.invokespecial 1, 3) := by decide +kernel
theorem d4 : decode yB 4 = .ok (.iload_n 3, 1) := by decide +kernel
theorem d5 : decode yB 5 = .ok (.ifCond (.ne) 22, 3) := by decide +kernel
theorem d27 : decode yB 27 = .ok (.getstatic 38, 3) := by decide +kernel
theorem d30 : decode yB 30 = .ok (.ifCond (.eq) 28, 3) := by decide +kernel
theorem d33 : decode yB 33 = .ok (.aload_n 1, 1) := by decide +kernel
theorem d34 : decode yB 34 = .ok (.iload_n 2, 1) := by decide +kernel
theorem d35 : decode yB 35 = .ok (.iload_n 3, 1) := by decide +kernel
theorem d36 : decode yB 36 = .ok (.invokestatic 177, 3) := by decide +kernel
theorem d39 : decode yB 39 = .ok (.astore 5, 2) := by decide +kernel
theorem d41 : decode yB 41 = .ok (.aload_n 0, 1) := by decide +kernel
theorem d42 : decode yB 42 = .ok (.aload 5, 2) := by decide +kernel
theorem d44 : decode yB 44 = .ok (.iload_n 3, 1) := by decide +kernel
theorem d45 : decode yB 45 = .ok (.invokestatic 47, 3) := by decide +kernel
theorem d48 : decode yB 48 = .ok (.putfield 15, 3) := by decide +kernel
theorem d51 : decode yB 51 = .ok (.aload_n 0, 1) := by decide +kernel
theorem d52 : decode yB 52 = .ok (.aload 5, 2) := by decide +kernel
theorem d54 : decode yB 54 = .ok (.putfield 9, 3) := by decide +kernel
theorem d57 : decode yB 57 = .ok (.return_, 1) := by decide +kernel
def site : List Cond := [.fieldLink "java/lang/String" 38 "java/lang/String" "COMPACT_STRINGS" "Z", Cmp3.tab, CodL.tab, .laysFinal "java/lang/String" "java/lang/String" "value" "[B", .fieldLink "java/lang/String" 9 "java/lang/String" "value" "[B", .laysFinal "java/lang/String" "java/lang/String" "coder" "B", .fieldLink "java/lang/String" 15 "java/lang/String" "coder" "B"] ++ objW "java/lang/String" 1 ++ staticW "java/lang/String" 177 Cmp3.yN ++ staticW "java/lang/String" 47 CodL.yN
def tab : Cond := tabOf yN yB 6 none site
def P (a : Addr) (D : Cell) (fV fC : Field) (b : Addr) (A : Cell) (z : Int32) (o len : Nat) (args : Array Value) (s : State) : Prop := args = #[.ref a, .ref b, .int (Int32.ofNat o), .int (Int32.ofNat len), .null] ∧ Blank "java/lang/String" a D s ∧ Found "java/lang/String" "value" "[B" fV s ∧ Found "java/lang/String" "coder" "B" fC s ∧ Ch b A s ∧ StaticIs s "java/lang/String" "COMPACT_STRINGS" "Z" (.int z) ∧ ¬ z = 0 ∧ 0 < len ∧ o + len ≤ A.slots.size ∧ len ≤ 536870912 ∧ ∀ i, i < len → ¬ 255 < cv A (o + i)
def E (a : Addr) (D : Cell) (fV fC : Field) (A : Cell) (o len : Nat) (r : Option Value) (s u : State) : Prop := Got a D fV fC A o len r s u
/-- len > 0, no char of the range above 255: a Latin-1 String of their low bytes -/
theorem law (l : Launch) (a : Addr) (D : Cell) (fV fC : Field) (b : Addr) (A : Cell) (z : Int32) (o len : Nat) : Law l yN 5 4 2 35 yB 6 none site (P a D fV fC b A z o len) (E a D fV fC A o len) [⟨a, fC.slot⟩, ⟨a, fV.slot⟩] 1 len := by
  refine Law.of_walk (plainFor_of_name (by decide +kernel)) (by decide +kernel) (by decide +kernel) (by decide) (fun _ _ h => by rw [h.1]; rfl) (fun _ U U' hal hh h => ⟨h.1, h.2.1.mv hal hh, h.2.2.1.al hal, h.2.2.2.1.al hal, h.2.2.2.2.1.mv hal hh, h.2.2.2.2.2.1.there hal hh, h.2.2.2.2.2.2⟩) (fun r U U' V V' h1 hal h2 h => Got.mv r U U' V V' h1 hal h2 h) ?_
  intro p e s m args below meth c s₁ X0 hexec hbytes hml hret hlk hnm hown hh0 W hP
  obtain ⟨rfl, hB, f1, f2, hA, s1, hz, l0, l1, l2, hp⟩ := hP
  have a31 := hA.1.2.2.2
  have c1 : Steps p.tables e below (s₁.setTop (entryFrame m #[.ref a, .ref b, .int (Int32.ofNat o), .int (Int32.ofNat len), .null] 6)) (s₁.setTop (mkF m 0 #[.val (.ref a), .val (.ref b), .val (.int (Int32.ofNat o)), .val (.int (Int32.ofNat len)), .val .null, .unset] [])) := entry rfl
  have c2 : Steps p.tables e below (s₁.setTop (entryFrame m #[.ref a, .ref b, .int (Int32.ofNat o), .int (Int32.ofNat len), .null] 6)) (s₁.setTop (mkF m 1 #[.val (.ref a), .val (.ref b), .val (.int (Int32.ofNat o)), .val (.int (Int32.ofNat len)), .val .null, .unset] [.ref a])) := c1.trans (by
    refine XS.aloadN X0.here hexec rfl (hb hbytes d0) rfl rfl ?_
    exact Steps.refl _)
  obtain ⟨T3, X3, q3, st3⟩ := X0.oinit hexec hown (wks W (objW "java/lang/String" 1)) (g := (mkF m 1 #[.val (.ref a), .val (.ref b), .val (.int (Int32.ofNat o)), .val (.int (Int32.ofNat len)), .val .null, .unset] [.ref a])) rfl (by rw [hml]; rfl) (rest := []) rfl (hb hbytes d1) (W := 0) (by show 2 * 0 + 0 ≤ _; decide) (Nat.le_of_ble_eq_true rfl) (Nat.le_of_ble_eq_true rfl)
  have hh3 := q3.trans hh0
  have c4 : Steps p.tables e below (s₁.setTop (entryFrame m #[.ref a, .ref b, .int (Int32.ofNat o), .int (Int32.ofNat len), .null] 6)) (T3.setTop (mkF m 27 #[.val (.ref a), .val (.ref b), .val (.int (Int32.ofNat o)), .val (.int (Int32.ofNat len)), .val .null, .unset] [])) := (c2.trans (st3 _ (Steps.refl _))).trans (by
    refine XS.iloadN X3.here hexec rfl (hb hbytes d4) rfl ?_
    refine XS.ifYes X3.here hexec rfl (pc0 := 5) rfl (hb hbytes d5) rfl (i0_ne_t (nz32 (by omega) l0)) (by decide) rfl ?_
    exact Steps.refl _)
  obtain ⟨T5, X5, q5, st5⟩ := X3.sget hexec hown (wk W (.fieldLink "java/lang/String" 38 "java/lang/String" "COMPACT_STRINGS" "Z")) s1 (fun _ _ h => by rw [hh3]; exact h) (g := (mkF m 27 #[.val (.ref a), .val (.ref b), .val (.int (Int32.ofNat o)), .val (.int (Int32.ofNat len)), .val .null, .unset] [])) rfl (hb hbytes d27)
  have hh5 := q5.trans hh3
  have c6 : Steps p.tables e below (s₁.setTop (entryFrame m #[.ref a, .ref b, .int (Int32.ofNat o), .int (Int32.ofNat len), .null] 6)) (T5.setTop (mkF m 30 #[.val (.ref a), .val (.ref b), .val (.int (Int32.ofNat o)), .val (.int (Int32.ofNat len)), .val .null, .unset] [.int z])) := c4.trans (st5 _ (Steps.refl _))
  have c7 : Steps p.tables e below (s₁.setTop (entryFrame m #[.ref a, .ref b, .int (Int32.ofNat o), .int (Int32.ofNat len), .null] 6)) (T5.setTop (mkF m 36 #[.val (.ref a), .val (.ref b), .val (.int (Int32.ofNat o)), .val (.int (Int32.ofNat len)), .val .null, .unset] [.int (Int32.ofNat len), .int (Int32.ofNat o), .ref b])) := c6.trans (by
    refine XS.ifNo X5.here hexec rfl (hb hbytes d30) rfl (i0_eq_f hz) ?_
    refine XS.aloadN X5.here hexec rfl (hb hbytes d33) rfl rfl ?_
    refine XS.iloadN X5.here hexec rfl (hb hbytes d34) rfl ?_
    refine XS.iloadN X5.here hexec rfl (hb hbytes d35) rfl ?_
    exact Steps.refl _)
  obtain ⟨v8, T8, X8, E8, g8⟩ := X5.callS hexec (Cmp3.law l b A o len) hown (wks W (staticW "java/lang/String" 177 Cmp3.yN)) (wk W Cmp3.tab) (W := 0) (Nat.le_of_ble_eq_true rfl) (Nat.le_of_ble_eq_true rfl) (Nat.le_refl _) (by show 0 + len ≤ len; omega) (g := (mkF m 36 #[.val (.ref a), .val (.ref b), .val (.int (Int32.ofNat o)), .val (.int (Int32.ofNat len)), .val .null, .unset] [.int (Int32.ofNat len), .int (Int32.ofNat o), .ref b])) rfl (by rw [hml]; rfl) c7 (argsL := [.ref b, .int (Int32.ofNat o), .int (Int32.ofNat len)]) (rest := []) rfl rfl (by show 2 * 0 + 0 ≤ _; decide) (hb hbytes d36) (⟨rfl, hA.mv X5.warmed.alike hh5, l1, l2, hp⟩)
  obtain ⟨e8, z8⟩ := E8
  obtain ⟨rfl, N, n1, n2, n3, n4, n5, n6⟩ := NewArr.mv _ T5 s _ _ hh5.symm (Vm.Alike.refl _) rfl e8
  rw [hh5] at z8
  have hB1 := hB.keep X8.warmed.alike (n6 _ _ hB.1)
  have hne : s.heap.size ≠ a := (Nat.ne_of_lt (Array.getElem?_eq_some_iff.mp hB.1).1).symm
  have c9 : Steps p.tables e below (s₁.setTop (entryFrame m #[.ref a, .ref b, .int (Int32.ofNat o), .int (Int32.ofNat len), .null] 6)) (T8.setTop (mkF m 39 #[.val (.ref a), .val (.ref b), .val (.int (Int32.ofNat o)), .val (.int (Int32.ofNat len)), .val .null, .unset] [.ref s.heap.size])) := g8
  have c10 : Steps p.tables e below (s₁.setTop (entryFrame m #[.ref a, .ref b, .int (Int32.ofNat o), .int (Int32.ofNat len), .null] 6)) (T8.setTop (mkF m 45 #[.val (.ref a), .val (.ref b), .val (.int (Int32.ofNat o)), .val (.int (Int32.ofNat len)), .val .null, .val (.ref s.heap.size)] [.int (Int32.ofNat N.slots.size), .ref s.heap.size, .ref a])) := by
    have hc : Steps p.tables e below (s₁.setTop (entryFrame m #[.ref a, .ref b, .int (Int32.ofNat o), .int (Int32.ofNat len), .null] 6)) (T8.setTop (mkF m 45 #[.val (.ref a), .val (.ref b), .val (.int (Int32.ofNat o)), .val (.int (Int32.ofNat len)), .val .null, .val (.ref s.heap.size)] [.int (Int32.ofNat len), .ref s.heap.size, .ref a])) := c9.trans (by
      refine XS.astore X8.here hexec rfl (hb hbytes d39) rfl rfl rfl ?_
      refine XS.aloadN X8.here hexec rfl (hb hbytes d41) rfl rfl ?_
      refine XS.aload X8.here hexec rfl (hb hbytes d42) rfl rfl ?_
      refine XS.iloadN X8.here hexec rfl (hb hbytes d44) rfl ?_
      exact Steps.refl _)
    rw [n4]; exact hc
  obtain ⟨v11, T11, X11, E11, g11⟩ := X8.callS hexec (CodL.law l s.heap.size N) hown (wks W (staticW "java/lang/String" 47 CodL.yN)) (wk W CodL.tab) (W := 1) (Nat.le_of_ble_eq_true rfl) (Nat.le_of_ble_eq_true rfl) (Nat.le_refl _) (by show 0 + len + 0 ≤ len; omega) (g := (mkF m 45 #[.val (.ref a), .val (.ref b), .val (.int (Int32.ofNat o)), .val (.int (Int32.ofNat len)), .val .null, .val (.ref s.heap.size)] [.int (Int32.ofNat N.slots.size), .ref s.heap.size, .ref a])) rfl (by rw [hml]; rfl) c10 (argsL := [.ref s.heap.size, .int (Int32.ofNat N.slots.size)]) (rest := [.ref a]) rfl rfl (by show 2 * 0 + (1 + 0) ≤ _; decide) (hb hbytes d45) (⟨rfl, n1⟩)
  obtain ⟨rfl, q11⟩ := E11
  have hB11 := hB1.mv (X8.warmed.alike.symm.trans X11.warmed.alike) q11
  have c12 : Steps p.tables e below (s₁.setTop (entryFrame m #[.ref a, .ref b, .int (Int32.ofNat o), .int (Int32.ofNat len), .null] 6)) (T11.setTop (mkF m 48 #[.val (.ref a), .val (.ref b), .val (.int (Int32.ofNat o)), .val (.int (Int32.ofNat len)), .val .null, .val (.ref s.heap.size)] [.int 0, .ref a])) := g11
  obtain ⟨T13, X13, p13, bl13, sl13, st13⟩ := X11.finit hexec hown (wk W (.fieldLink "java/lang/String" 15 "java/lang/String" "coder" "B")) (Or.inr ⟨_, (wk W (.laysFinal "java/lang/String" "java/lang/String" "coder" "B"))⟩) (Or.inl ⟨rfl, hnm⟩) f2 (Or.inl rfl) hB11 (t := .byte) (by decide +kernel) rfl (g := (mkF m 48 #[.val (.ref a), .val (.ref b), .val (.int (Int32.ofNat o)), .val (.int (Int32.ofNat len)), .val .null, .val (.ref s.heap.size)] [.int 0, .ref a])) rfl (rest := []) rfl (hb hbytes d48)
  have c14 : Steps p.tables e below (s₁.setTop (entryFrame m #[.ref a, .ref b, .int (Int32.ofNat o), .int (Int32.ofNat len), .null] 6)) (T13.setTop (mkF m 54 #[.val (.ref a), .val (.ref b), .val (.int (Int32.ofNat o)), .val (.int (Int32.ofNat len)), .val .null, .val (.ref s.heap.size)] [.ref s.heap.size, .ref a])) := (c12.trans (st13 _ (Steps.refl _))).trans (by
    refine XS.aloadN X13.here hexec rfl (hb hbytes d51) rfl rfl ?_
    refine XS.aload X13.here hexec rfl (hb hbytes d52) rfl rfl ?_
    exact Steps.refl _)
  obtain ⟨T15, X15, p15, bl15, sl15, st15⟩ := X13.finit hexec hown (wk W (.fieldLink "java/lang/String" 9 "java/lang/String" "value" "[B")) (Or.inr ⟨_, (wk W (.laysFinal "java/lang/String" "java/lang/String" "value" "[B"))⟩) (Or.inl ⟨rfl, hnm⟩) f1 (Or.inl rfl) bl13 (t := (.array .byte)) (by decide +kernel) rfl (g := (mkF m 54 #[.val (.ref a), .val (.ref b), .val (.int (Int32.ofNat o)), .val (.int (Int32.ofNat len)), .val .null, .val (.ref s.heap.size)] [.ref s.heap.size, .ref a])) rfl (rest := []) rfl (hb hbytes d54)
  have c16 : Steps p.tables e below (s₁.setTop (entryFrame m #[.ref a, .ref b, .int (Int32.ofNat o), .int (Int32.ofNat len), .null] 6)) (T15.setTop (mkF m 57 #[.val (.ref a), .val (.ref b), .val (.int (Int32.ofNat o)), .val (.int (Int32.ofNat len)), .val .null, .val (.ref s.heap.size)] [])) := c14.trans (st15 _ (Steps.refl _))
  have ap := apart (Or.inr ⟨_, (wk W (.laysFinal "java/lang/String" "java/lang/String" "value" "[B"))⟩) (Or.inr ⟨_, (wk W (.laysFinal "java/lang/String" "java/lang/String" "coder" "B"))⟩) f1 f2 (t₁ := .array .byte) (t₂ := .byte) (by decide +kernel) (by decide +kernel) (by decide)
  have al := X8.warmed.alike.symm.trans X15.warmed.alike
  have n7 : T11.heap[s.heap.size]? = some N := by rw [q11]; exact n1.1
  exact ⟨T15, none, _, _, _, X15, by simp, rfl, by omega, (fun _ => rfl), ⟨rfl, _, N, bl15, ((Same.refl D _).set _ (by simp)).set _ (by simp), sl15, (Cell.slots_setSlot_ne _ ap).trans sl13, n1.keep al (p15.other hne (p13.other hne n7)), n2, by rw [al.findClass]; exact n3, n4, n5, fun y c h1 h2 => p15.other h1 (p13.other h1 (by rw [q11]; exact n6 y c h2)), by rw [p15.2.2, p13.2.2, q11]; exact z8⟩, fun fs hl => c16.trans (X15.returnOut hexec hret (hb hbytes d57) hl)⟩
end New4
namespace New1
def yN : MethodName := ⟨"java/lang/String", "<init>", "([C)V"⟩
abbrev yB : ByteArray := jdk_42_method_3_code
theorem d0 : decode yB 0 = .ok (.aload_n 0, 1) := by decide +kernel
theorem d1 : decode yB 1 = .ok (.aload_n 1, 1) := by decide +kernel
theorem d2 : decode yB 2 = .ok (.iconst 0, 1) := by decide +kernel
theorem d3 : decode yB 3 = .ok (.aload_n 1, 1) := by decide +kernel
theorem d4 : decode yB 4 = .ok (.arraylength, 1) := by decide +kernel
theorem d5 : decode yB 5 = .ok (.aconst_null, 1) := by decide +kernel
theorem d6 : decode yB 6 = .ok (.invokespecial 27, 3) := by decide +kernel
theorem d9 : decode yB 9 = .ok (.return_, 1) := by decide +kernel
def site : List Cond := [New4.tab] ++ initW "java/lang/String" 27 New4.yN
def tab : Cond := tabOf yN yB 2 none site
def P (a : Addr) (D : Cell) (fV fC : Field) (b : Addr) (A : Cell) (z : Int32) (args : Array Value) (s : State) : Prop := args = #[.ref a, .ref b] ∧ Blank "java/lang/String" a D s ∧ Found "java/lang/String" "value" "[B" fV s ∧ Found "java/lang/String" "coder" "B" fC s ∧ Ch b A s ∧ StaticIs s "java/lang/String" "COMPACT_STRINGS" "Z" (.int z) ∧ ¬ z = 0 ∧ 0 < A.slots.size ∧ A.slots.size ≤ 536870912 ∧ ∀ i, i < A.slots.size → ¬ 255 < cv A i
def E (a : Addr) (D : Cell) (fV fC : Field) (A : Cell) (r : Option Value) (s u : State) : Prop := Got a D fV fC A 0 A.slots.size r s u
/-- new String(chars), not empty, no char above 255: a Latin-1 String of their low bytes -/
theorem law (l : Launch) (a : Addr) (D : Cell) (fV fC : Field) (b : Addr) (A : Cell) (z : Int32) : Law l yN 2 1 3 52 yB 2 none site (P a D fV fC b A z) (E a D fV fC A) [⟨a, fC.slot⟩, ⟨a, fV.slot⟩] 1 A.slots.size := by
  refine Law.of_walk (plainFor_of_name (by decide +kernel)) (by decide +kernel) (by decide +kernel) (by decide) (fun _ _ h => by rw [h.1]; rfl) (fun _ U U' hal hh h => ⟨h.1, h.2.1.mv hal hh, h.2.2.1.al hal, h.2.2.2.1.al hal, h.2.2.2.2.1.mv hal hh, h.2.2.2.2.2.1.there hal hh, h.2.2.2.2.2.2⟩) (fun r U U' V V' h1 hal h2 h => Got.mv r U U' V V' h1 hal h2 h) ?_
  intro p e s m args below meth c s₁ X0 hexec hbytes hml hret hlk hnm hown hh0 W hP
  obtain ⟨rfl, hB, f1, f2, hA, s1, hz, l0, l2, hp⟩ := hP
  have c1 : Steps p.tables e below (s₁.setTop (entryFrame m #[.ref a, .ref b] 2)) (s₁.setTop (mkF m 0 #[.val (.ref a), .val (.ref b)] [])) := entry rfl
  have c2 : Steps p.tables e below (s₁.setTop (entryFrame m #[.ref a, .ref b] 2)) (s₁.setTop (mkF m 6 #[.val (.ref a), .val (.ref b)] [.null, .int (Int32.ofNat A.slots.size), .int 0, .ref b, .ref a])) := c1.trans (by
    refine XS.aloadN X0.here hexec rfl (hb hbytes d0) rfl rfl ?_
    refine XS.aloadN X0.here hexec rfl (hb hbytes d1) rfl rfl ?_
    refine iconstV X0.here hexec rfl 0 (hb hbytes d2) (by decide) ?_
    refine XS.aloadN X0.here hexec rfl (hb hbytes d3) rfl rfl ?_
    refine X0.alen hexec (hA.1.mv X0.warmed.alike hh0) rfl rfl (hb hbytes d4) ?_
    refine XS.aconstNull X0.here hexec rfl (hb hbytes d5) ?_
    exact Steps.refl _)
  obtain ⟨v3, T3, X3, E3, g3⟩ := X0.callN hexec (New4.law l a D fV fC b A z 0 A.slots.size) rfl hown (wks W (initW "java/lang/String" 27 New4.yN)) (W New4.tab (by simp only [site, List.mem_cons, List.mem_append, true_or, or_true])) (W := 0) (Nat.le_of_ble_eq_true rfl) (Nat.le_of_ble_eq_true rfl) (Nat.le_refl _) (by show 0 + A.slots.size ≤ A.slots.size; omega) (g := (mkF m 6 #[.val (.ref a), .val (.ref b)] [.null, .int (Int32.ofNat A.slots.size), .int (Int32.ofNat 0), .ref b, .ref a])) rfl (by rw [hml]; rfl) c2 (argsL := [.ref b, .int (Int32.ofNat 0), .int (Int32.ofNat A.slots.size), .null]) (rest := []) rfl rfl (by show 2 * 0 + 0 ≤ _; decide) (hb hbytes d6) (⟨rfl, hB.mv X0.warmed.alike hh0, f1.al X0.warmed.alike, f2.al X0.warmed.alike, hA.mv X0.warmed.alike hh0, s1.there X0.warmed.alike hh0, hz, l0, by omega, l2, fun i hi => by rw [Nat.zero_add]; exact hp i hi⟩)
  have e0 := Got.mv _ s₁ s _ _ hh0.symm (Vm.Alike.refl _) rfl E3
  obtain rfl := e0.1
  have c4 : Steps p.tables e below (s₁.setTop (entryFrame m #[.ref a, .ref b] 2)) (T3.setTop (mkF m 9 #[.val (.ref a), .val (.ref b)] [])) := g3
  exact ⟨T3, none, _, _, _, X3, by simp, rfl, by omega, (fun _ => rfl), e0, fun fs hl => c4.trans (X3.returnOut hexec hret (hb hbytes d9) hl)⟩
theorem pays {l : Launch} {R : Room} {p : Program} {e : Env} {below : List Frame} {s : State} {sargs : Array Value} {len W : Nat} (a : Addr) (D : Cell) (fV fC : Field) (b : Addr) (A : Cell) (z : Int32) (htab : tab.before sargs s = true) (hfr : 4 ≤ R.frames) (hlo : W + 65 ≤ R.locals) :
    Back l R p e below s sargs yN len W (fun A₁ a₁ => A₁.cells + 1 ≤ R.cells ∧ A₁.slots + A.slots.size ≤ R.slots ∧ P a D fV fC b A z a₁ A₁.U) (fun A₁ _ v₁ B₁ => E a D fV fC A v₁ A₁.U B₁.U ∧ B₁.locs = A₁.locs ++ [⟨a, fC.slot⟩, ⟨a, fV.slot⟩] ∧ B₁.cells = A₁.cells + 1 ∧ B₁.slots = A₁.slots + A.slots.size) :=
  (law l a D fV fC b A z).pays htab hfr (by omega)
end New1
end StrChars
namespace StrChars.Road
open Jvm Sem ClassFile Op Lib Jvm.Stand Jvm.Free Jvm.Free.XT
open Jvm.Lib.Cold (StaticIs)
abbrev ST : String := "java/lang/String"
/-- every table word that New1's law asks, flat -/
abbrev words : List Jvm.Cond := [.code New1.yN New1.yB 2 none, .initialized ST, .methodLink ST 27 New4.yN, .instanceMethod New4.yN,
  .code New4.yN New4.yB 6 none, .fieldLink ST 38 ST "COMPACT_STRINGS" "Z", .laysFinal ST ST "value" "[B", .fieldLink ST 9 ST "value" "[B", .laysFinal ST ST "coder" "B", .fieldLink ST 15 ST "coder" "B",
  .methodLink ST 1 Lib.objectInit, .instanceMethod Lib.objectInit, .code Lib.objectInit ⟨#[0xb1]⟩ 1 none, .methodLink ST 177 Cmp3.yN, .static Cmp3.yN, .methodLink ST 47 CodL.yN, .static CodL.yN,
  .code Cmp3.yN Cmp3.yB 6 (some (.array .byte)), .initialized U16, .arrayClass .byte, .methodLink U16 115 Cmp5.yN, .static Cmp5.yN, .code Cmp5.yN Cmp5.yB 7 (some .int), .code CodL.yN CodL.yB 2 (some .byte)]
theorem tab_of {a : Array Value} {s : State} (h : ∀ w ∈ words, w.before a s = true) : New1.tab.before a s = true := by
  have h5 : Cmp5.tab.before a s = true := unparts (wk h (.code Cmp5.yN Cmp5.yB 7 (some .int))) (wks h (.initialized Cmp5.yN.cls :: Cmp5.site))
  have hc : CodL.tab.before a s = true := unparts (wk h (.code CodL.yN CodL.yB 2 (some .byte))) (wks h (.initialized CodL.yN.cls :: CodL.site))
  have q5 : ∀ w ∈ Cmp5.tab :: words, w.before a s = true := fun w hw => (List.mem_cons.mp hw).elim (fun e => e ▸ h5) (h w)
  have h3 : Cmp3.tab.before a s = true := unparts (wk q5 (.code Cmp3.yN Cmp3.yB 6 (some (.array .byte)))) (wks q5 (.initialized Cmp3.yN.cls :: Cmp3.site))
  have q3 : ∀ w ∈ Cmp3.tab :: CodL.tab :: words, w.before a s = true := fun w hw => (List.mem_cons.mp hw).elim (fun e => e ▸ h3) fun hw => (List.mem_cons.mp hw).elim (fun e => e ▸ hc) (h w)
  have h4 : New4.tab.before a s = true := unparts (wk q3 (.code New4.yN New4.yB 6 none)) (wks q3 (.initialized New4.yN.cls :: New4.site))
  have q4 : ∀ w ∈ New4.tab :: words, w.before a s = true := fun w hw => (List.mem_cons.mp hw).elim (fun e => e ▸ h4) (h w)
  exact unparts (wk q4 (.code New1.yN New1.yB 2 none)) (wks q4 (.initialized New1.yN.cls :: New1.site))
/-- the words ride from the start Z to the walk's own state -/
theorem moved {Z s : State} {a0 args : Array Value} (hZ : Z.Warmed39 s.vm) (hw : ∀ d ∈ words, d.before a0 Z = true) : ∀ d ∈ words, d.before args s = true := fun d hd => by
  have q := hw d hd
  have t : ∀ d ∈ words, d = .arrayClass .byte ∨ (d.onTables && d.keepsFace) = true := by decide +kernel
  rcases t d hd with rfl | t
  · exact RoadKit.mvA hZ q
  · exact RoadKit.mv hZ q t
/-- WHAT COMES BACK, over the tables of the start Z: h the heap at the call, h' behind it -/
def Q (Z : State) (x : Addr) (A : Cell) (h : Heap) (v : Option Value) (h' : Heap) (L : List Loc) : Prop := v = none ∧ (∀ y ∈ L, y.base = x) ∧ RoadKit.Keep h h' [x] ∧ h'.size = h.size + 1 ∧ RoadKit.Exa Z h' x ST ∧ RoadKit.Fld Z h' x ST "value" "[B" (.ref h.size) ∧ RoadKit.Fld Z h' x ST "coder" "B" (.int 0) ∧
  (∃ V : Cell, RoadKit.Arr Z h' h.size V .byte ∧ V.vm = .none ∧ Z.vm.findClass "[B" = some V.cls ∧ V.slots.size = A.slots.size ∧ ∀ j, j < A.slots.size → V.slots[j]? = some (.int (lo8 (cv A j)))) ∧
  ∀ (O n d : String) (w : Value), RoadKit.Fld Z h x O n d w → RoadKit.slotOf Z O n d ≠ RoadKit.slotOf Z ST "value" "[B" → RoadKit.slotOf Z O n d ≠ RoadKit.slotOf Z ST "coder" "B" → RoadKit.Fld Z h' x O n d w
/-- **new String(chars) AT A CALL, IN THE ROAD'S FORM**: for specialBack behind newO: x the fresh String, b the char[] with the cell A -/
theorem back {p : Program} {l : Launch} {e : Env} {R : Room} {s : State} {args : Array Value} {below : List Frame} {len W : Nat} {Z : State} {a0 : Array Value} {h : Heap} (hZ : Z.Warmed39 s.vm) (hw : ∀ d ∈ words, d.before a0 Z = true) {kI : Nat} (wi : (Jvm.Cond.instantiable ST kI).before a0 Z = true)
    {x b : Addr} {A : Cell} {z : Int32} {v0 c0 : Value} (E : RoadKit.Exa Z h x ST) (V : RoadKit.Fld Z h x ST "value" "[B" v0) (C : RoadKit.Fld Z h x ST "coder" "B" c0) (K : RoadKit.Arr Z h b A .char) (hty : Typed .char A) (S : RoadKit.Sta Z h ST "COMPACT_STRINGS" "Z" (.int z)) (hz : ¬ z = 0)
    (l0 : 0 < A.slots.size) (l2 : A.slots.size ≤ 536870912) (hp : ∀ i, i < A.slots.size → ¬ 255 < cv A i) (hfr : 4 ≤ R.frames) (hlo : W + 65 ≤ R.locals) :
    Back l R p e below s args New1.yN len W (fun P a => a = #[.ref x, .ref b] ∧ P.U.heap = h ∧ P.cells + 1 ≤ R.cells ∧ P.slots + A.slots.size ≤ R.slots)
      (fun P _ v B => ∃ L, Q Z x A h v B.U.heap L ∧ B.locs = P.locs ++ L ∧ B.cells = P.cells + 1 ∧ B.slots = P.slots + A.slots.size) := by
  intro m meth c P g ig mk a X hg hsize hdg hW hn hp'
  obtain ⟨rfl, rfl, r1, r2⟩ := hp'
  have al : Z.vm.Alike P.U.vm := hZ.alike.trans X.warmed.alike
  obtain ⟨D, cfV, kV, iV, fV, hD, gV, stV, knV, obV, asV, slV⟩ := id V
  obtain ⟨D', cfC, kC, iC, fC, hD', gC, stC, -, -, asC, slC⟩ := id C
  cases hD.symm.trans hD'
  obtain ⟨D2, kD, e1, e2, e3, e4, e5⟩ := id E
  cases hD.symm.trans e1
  obtain ⟨c2, k2, i1, i2, i3, -⟩ := Cond.instantiable_spec wi
  cases e2.symm.trans i1
  cases e3.symm.trans i2
  obtain ⟨kU, u1, u2⟩ := al.2.2 _ _ e3
  have hB : Blank ST x D P.U := ⟨hD, ⟨knV, fun q hq => by rw [hq] at obV; cases obV⟩, by rw [al.findClass]; exact e2, kU, u1, by rw [u2]; exact i3, by rw [u2]; exact e5 i3⟩
  have F1 : Found ST "value" "[B" fV P.U := ⟨SBG.found_only al ⟨cfV, kV, iV, gV⟩, stV⟩
  have F2 : Found ST "coder" "B" fC P.U := ⟨SBG.found_only al ⟨cfC, kC, iC, gC⟩, stC⟩
  have hA : Ch b A P.U := ⟨⟨K.1, State.isArrayOf_alike al K.2.1, K.2.2, by omega⟩, hty⟩
  have hS : StaticIs P.U ST "COMPACT_STRINGS" "Z" (.int z) := by
    obtain ⟨cfS, iS, kS, fS, st, cS, t1, t2, t3, t4, t5, t6, t7⟩ := S
    exact StaticIs.there (s := { Z with heap := P.U.heap }) ⟨cfS, iS, kS, fS, st, cS, t1, t2, t3, t4, t5, (fun q => by rw [q] at t6; cases t6), t7⟩ al rfl
  obtain ⟨v, B, X', ⟨⟨hv, E', V', q1, q2, q3, q4, q5, q6, q7, q8, q9, q10, q11⟩, hl, hc, hs⟩, st⟩ := New1.pays x D fV fC b A z (tab_of (moved hZ hw)) hfr hlo m meth c P g ig mk _ X hg hsize hdg hW hn ⟨r1, r2, rfl, hB, F1, F2, hA, hS, hz, l0, l2, hp⟩
  have al' : Z.vm.Alike B.U.vm := hZ.alike.trans X'.warmed.alike
  have hsz : E'.slots.size = D.slots.size := by
    obtain ⟨-, -, -, kB, w1, w2, w3⟩ := q1
    obtain ⟨kB', y1, y2⟩ := al'.2.2 _ _ e3
    rw [q2.2.1] at w1
    cases w1.symm.trans y1
    rw [w3, e5 i3, y2]
  refine ⟨v, B, X', ⟨_, ⟨hv, ?_, ⟨by omega, fun y cy hy hn' => q10 y cy (by simpa using hn') hy, fun y cy hy => ?_⟩, q11, ⟨E', _, q1.1, by rw [q2.2.1]; exact e2, by rw [q2.2.1]; exact e3, by rw [q2.1]; exact obV, fun _ => by rw [hsz]; exact e5 i3⟩,
    ⟨E', cfV, kV, iV, fV, q1.1, gV, stV, by rw [q2.1]; exact knV, by rw [q2.1]; exact obV, by rw [q2.2.1]; exact asV, q3⟩, ⟨E', cfC, kC, iC, fC, q1.1, gC, stC, by rw [q2.1]; exact knV, by rw [q2.1]; exact obV, by rw [q2.2.1]; exact asC, q4⟩,
    ⟨V', ⟨q5.1, State.isArrayOf_alike al'.symm q5.2.1, q5.2.2.1⟩, q6, by rw [← al'.findClass]; exact q7, q8, fun j hj => by have := q9 j hj; rwa [Nat.zero_add] at this⟩, fun O n d w F n1 n2 => ?_⟩, hl, hc, hs⟩, st⟩
  · intro y hy
    simp only [List.mem_cons, List.not_mem_nil, or_false] at hy
    rcases hy with rfl | rfl <;> rfl
  · by_cases q : y = x
    · subst q
      cases hD.symm.trans hy
      exact ⟨E', q1.1, q2.2.1, q2.1, hsz⟩
    · exact ⟨cy, q10 y cy q hy, rfl, rfl, rfl⟩
  · obtain ⟨D3, cf, k, i, f, g1, g2, g3, g4, g5, g6, g7⟩ := F
    cases hD.symm.trans g1
    simp only [RoadKit.slotOf, g2, gV, gC, Option.map_some, Option.getD_some] at n1 n2
    exact ⟨E', cf, k, i, f, q1.1, g2, g3, by rw [q2.1]; exact g4, by rw [q2.1]; exact g5, by rw [q2.2.1]; exact g6, by rw [q2.2.2 f.slot (by simp [n1, n2])]; exact g7⟩
end StrChars.Road
namespace StrChars.Road
open Jvm Sem ClassFile Op Lib Jvm.Stand Jvm.Free Jvm.Free.XT
/-- WHAT COMES BACK, the byte[] as a list of values -/
def QA (Z : State) (x : Addr) (zn : Int32) (cs : List Int32) (h : Heap) (v : Option Value) (h' : Heap) (L : List Loc) : Prop := v = none ∧ (∀ y ∈ L, y.base = x) ∧ RoadKit.Keep h h' [x] ∧ h'.size = h.size + 1 ∧ RoadKit.Exa Z h' x ST ∧ RoadKit.Fld Z h' x ST "value" "[B" (.ref h.size) ∧ RoadKit.Fld Z h' x ST "coder" "B" (.int 0) ∧
  (∃ kb, Z.vm.findClass "[B" = some kb ∧ RoadKit.Arv Z h' h.size kb .byte zn (cs.map fun c => .int (lo8 c)) (.int 0)) ∧
  ∀ (O n d : String) (w : Value), RoadKit.Fld Z h x O n d w → RoadKit.slotOf Z O n d ≠ RoadKit.slotOf Z ST "value" "[B" → RoadKit.slotOf Z O n d ≠ RoadKit.slotOf Z ST "coder" "B" → RoadKit.Fld Z h' x O n d w
/-- **new String(chars) AT A CALL, THE ARRAYS AS LISTS**: the char[] at b holds cs, not empty, no char above 255 -/
theorem backArv {p : Program} {l : Launch} {e : Env} {R : Room} {s : State} {args : Array Value} {below : List Frame} {len W : Nat} {Z : State} {a0 : Array Value} {h : Heap} (hZ : Z.Warmed39 s.vm) (hw : ∀ d ∈ words, d.before a0 Z = true) {kI : Nat} (wi : (Jvm.Cond.instantiable ST kI).before a0 Z = true)
    {x b : Addr} {k : ClassId} {zn z : Int32} {cs : List Int32} {dv v0 c0 : Value} (E : RoadKit.Exa Z h x ST) (V : RoadKit.Fld Z h x ST "value" "[B" v0) (C : RoadKit.Fld Z h x ST "coder" "B" c0) (K : RoadKit.Arv Z h b k .char zn (cs.map Value.int) dv) (S : RoadKit.Sta Z h ST "COMPACT_STRINGS" "Z" (.int z)) (hz : ¬ z = 0)
    (hlen : zn.toNatClampNeg = cs.length) (h0 : 0 < cs.length) (hbig : cs.length ≤ 536870912) (hall : ∀ c ∈ cs, ¬ 255 < c) (hfr : 4 ≤ R.frames) (hlo : W + 65 ≤ R.locals) :
    Back l R p e below s args New1.yN len W (fun P a => a = #[.ref x, .ref b] ∧ P.U.heap = h ∧ P.cells + 1 ≤ R.cells ∧ P.slots + cs.length ≤ R.slots)
      (fun P _ v B => ∃ L, QA Z x zn cs h v B.U.heap L ∧ B.locs = P.locs ++ L ∧ B.cells = P.cells + 1 ∧ B.slots = P.slots + cs.length) := by
  obtain ⟨A, K1, K2, K3, K4, K5, K6⟩ := K
  have e : A.slots.size = cs.length := K3.trans hlen
  have hat : ∀ (i : Nat) (hi : i < cs.length), A.slots[i]? = some (.int cs[i]) := fun i hi => by rw [K5 i (by omega)]; simp [List.getD_eq_getElem?_getD, hi]
  have hcv : ∀ (i : Nat) (hi : i < cs.length), cv A i = cs[i] := fun i hi => by unfold cv; rw [hat i hi]
  have hty : Typed .char A := fun i v hv => by
    have hi : i < A.slots.size := (Array.getElem?_eq_some_iff.mp hv).1
    have q := K5 i hi
    rw [hv] at q
    rw [Option.some.inj q]
    exact K6 i hi
  refine Back.mono (back hZ hw wi E V C K1 hty S hz (by omega) (by omega) (fun i hi => by rw [hcv i (by omega)]; exact hall _ (List.getElem_mem _)) hfr hlo) (fun P a hp => ⟨hp.1, hp.2.1, hp.2.2.1, by rw [e]; exact hp.2.2.2⟩) (fun P a v B hp hq => ?_)
  obtain ⟨L, ⟨q1, q2, q3, q4, q5, q6, q7, ⟨V', v1, v2, v3, v4, v5⟩, q9⟩, hl, hc, hs⟩ := hq
  refine ⟨L, ⟨q1, q2, q3, q4, q5, q6, q7, ⟨V'.cls, v3, V', v1, rfl, by rw [v4, e, hlen], K4, fun i hi => ?_, fun i hi => ?_⟩, q9⟩, hl, hc, by rw [hs, e]⟩
  · have hi' : i < cs.length := by omega
    rw [v5 i (by omega), hcv i hi']; simp [List.getD_eq_getElem?_getD, hi']
  · have hi' : i < cs.length := by omega
    simp only [List.getD_eq_getElem?_getD, List.getElem?_map, List.getElem?_eq_getElem hi', Option.map_some, Option.getD_some]
    exact fits_lo8 _
end StrChars.Road
namespace StrChars.Road
open Jvm Sem ClassFile Op Lib Jvm.Stand Jvm.Free Jvm.Free.XT
/-- WHAT COMES BACK, in the writer's own shape -/
def QV (Z : State) (x : Addr) (N : Int32) (bs : List Int32) (h : Heap) (n0 : Nat) (v : Option Value) (h' : Heap) (L : List Loc) : Prop := v = none ∧ RoadKit.Fr n0 L ∧ RoadKit.Keep h h' [x] ∧ RoadKit.Exa Z h' x ST ∧ RoadKit.Fld Z h' x ST "coder" "B" (.int 0) ∧
  ∃ (t : Addr) (kb : ClassId), n0 ≤ t ∧ h.size ≤ t ∧ ¬ t = x ∧ RoadKit.Fld Z h' x ST "value" "[B" (.ref t) ∧ RoadKit.Arv Z h' t kb .byte N (bs.map Value.int) (.int 0)
/-- **new String(chars) AT A CALL, FOR THE WRITER**: a char[] of n known ints, each 0 to 255 -/
theorem backV {p : Program} {l : Launch} {e : Env} {R : Room} {s : State} {args : Array Value} {below : List Frame} {len W : Nat} {Z : State} {a0 : Array Value} {h : Heap} (hZ : Z.Warmed39 s.vm) (hw : ∀ d ∈ words, d.before a0 Z = true) {kI : Nat} (wi : (Jvm.Cond.instantiable ST kI).before a0 Z = true)
    {x b : Addr} {kC : ClassId} {cs bs : List Int32} {d v0 c0 : Value} {z N : Int32} {n n0 : Nat} (hx0 : n0 ≤ x) (hh0 : n0 ≤ h.size) (E : RoadKit.Exa Z h x ST) (V : RoadKit.Fld Z h x ST "value" "[B" v0) (C : RoadKit.Fld Z h x ST "coder" "B" c0) (K : RoadKit.Arv Z h b kC .char N (cs.map Value.int) d) (S : RoadKit.Sta Z h ST "COMPACT_STRINGS" "Z" (.int z)) (hz : ¬ z = 0)
    (hn : cs.length = n) (hN : N = Int32.ofNat n) (l0 : 0 < n) (l2 : n ≤ 4000) (hp : ∀ c ∈ cs, ¬ c < 0 ∧ ¬ (255 : Int32) < c) (hb : bs = cs.map (fun c => c.toInt8.toInt32)) (hfr : 4 ≤ R.frames) (hlo : W + 65 ≤ R.locals) :
    Back l R p e below s args (⟨"java/lang/String", "<init>", "([C)V"⟩ : MethodName) len W (fun P a => a = #[.ref x, .ref b] ∧ P.U.heap = h ∧ P.cells + 1 ≤ R.cells ∧ P.slots + n ≤ R.slots)
      (fun P _ v B => ∃ L, QV Z x N bs h n0 v B.U.heap L ∧ B.locs = P.locs ++ L ∧ B.cells = P.cells + 1 ∧ B.slots = P.slots + n) := by
  subst hn hN hb
  refine Back.mono (backArv hZ hw wi E V C K S hz (n32 (by omega)) l0 (by omega) (fun c hc => (hp c hc).2) hfr hlo) (fun P a hp => hp) (fun P a v B hp hq => ?_)
  obtain ⟨L, ⟨q1, q2, q3, q4, q5, q6, q7, ⟨kb, v1, v2⟩, q9⟩, hl, hc, hs⟩ := hq
  exact ⟨L, ⟨q1, fun y hy => by rw [q2 y hy]; exact hx0, q3, q5, q7, h.size, kb, hh0, Nat.le_refl _, Nat.ne_of_gt E.lt, q6, by rw [List.map_map]; exact v2⟩, hl, hc, hs⟩
end StrChars.Road
end Jvm.Pilot.@@N@@
namespace Jvm.OwnKit
open Jvm Jvm.ClassFile Sem Op Lib Jvm.Free Jvm.Stand Jvm.LawKit Jvm.RoadKit Bundle
/-- what is left to show of a walk that stands at S: it ends, and Q holds there -/
def Go (tb : Tables) (e : Env) (below : List Frame) (Q : Outcome → State → Prop) (S : State) : Prop :=
  ∃ (U : State) (o : Outcome), Steps tb e below S U ∧ U.status = .running ∧ Ended U below o ∧ Q o U
section
variable {tb : Tables} {e : Env} {below : List Frame} {Q : Outcome → State → Prop} {S S' : State}
theorem Go.st (f : ∀ {t : State}, Steps tb e below S' t → Steps tb e below S t) (h : Go tb e below Q S') : Go tb e below Q S := by
  obtain ⟨U, o, h1, h2⟩ := h
  exact ⟨U, o, f h1, h2⟩
theorem Go.to (f : ∀ t : State, Steps tb e below S' t → Steps tb e below S t) (h : Go tb e below Q S') : Go tb e below Q S := Go.st (fun {t} => f t) h
theorem Go.run (f : Steps tb e below S S') (h : Go tb e below Q S') : Go tb e below Q S := by
  obtain ⟨U, o, h1, h2⟩ := h
  exact ⟨U, o, f.trans h1, h2⟩
end
theorem castGo {tb : Tables} {e : Env} {below : List Frame} {Q : Outcome → State → Prop} {T : State} {g g' : JFrame} (q : g = g') (k : Go tb e below Q (T.setTop g')) : Go tb e below Q (T.setTop g) := q ▸ k
/-- the end of a plain walk -/
def PEnd (s : State) (Qc : Option Value → Heap → List Loc → Prop) (kc ks : Nat) (o : Outcome) (U : State) : Prop :=
  ∃ v L, o = .returned v ∧ Qc v U.heap L ∧ FrameEnd s o U L kc ks
/-- a plain contract: from the heap h with these arguments it returns, Qc holds, the room is kept -/
def Con (l : Launch) (Z : State) (y : MethodName) (bytes : ByteArray) (maxL : Nat) (ret : Option FieldType) (rm : Room) (as' : Array Value) (h : Heap) (Qc : Option Value → Heap → List Loc → Prop) : Prop :=
  ∀ ws : List Jvm.Cond, MetFree l y (head1 (Jvm.Cond.code y bytes maxL ret :: ws) rm) (fun a U => a = as' ∧ Z.Warmed39 U.vm ∧ U.heap = h) (fun _ _ _ _ _ => True) (fun _ U o U' => PEnd U Qc rm.cells rm.slots o U')
theorem Con.intro {l : Launch} {Z : State} {y : MethodName} {bytes : ByteArray} {maxL : Nat} {ret : Option FieldType} {rm : Room} {as' : Array Value} {h : Heap} {Qc : Option Value → Heap → List Loc → Prop} (pn : plainName y.cls = true)
    (body : ∀ (p : Program) (e : Env) (s : State) (m : MethodId) (below : List Frame) (meth : Method) (c : Code) (T : State), Stand p l e rm s m as' below meth c T [] 0 0 → p.tables.exec = Jvm.exec → c.code = bytes → c.maxLocals = maxL →
      s.vm.findClass y.cls = some m.cls → meth.name = y.name → meth.sig.returnType = ret → meth.locks = false → Z.Warmed39 s.vm → T.heap = h →
      Go p.tables e below (PEnd s Qc rm.cells rm.slots) (T.setTop (entryFrame m as' maxL))) : Con l Z y bytes maxL ret rm as' h Qc := by
  intro ws
  refine MetFree.of_bodySF (plainFor_of_name pn) hisR ?_
  intro p e s m args below meth c s₁ Bd hml0 hP hK
  obtain ⟨rfl, hZ, hh⟩ := hP
  exact body p e s m below meth c s₁ (Stand.of_body Bd) Bd.exec Bd.bytes hml0 (findClass_of_methodNamed Bd.named) (name_of_methodNamed Bd.named Bd.method).1 Bd.returns Bd.notSynchronized hZ (by rw [← hh, Bd.state]; rfl)
/-- the end of a walk that may have interned -/
def SEnd (Z : State) (EL : List (String × Nat)) (s : State) (Qc : Option Value → Heap → List Loc → Prop) (kc ks : Nat) (o : Outcome) (U : State) : Prop :=
  ∃ v L, o = .returned v ∧ Qc v U.heap L ∧ CHr Z EL s.vm s.heap U.vm U.heap ∧ ReturnedEndW s o U L kc ks
/-- a contract of a method that may load String constants; sl: cells that no constant uses -/
def ConS (l : Launch) (Z : State) (EL : List (String × Nat)) (y : MethodName) (bytes : ByteArray) (maxL : Nat) (ret : Option FieldType) (rm : Room) (as' : Array Value) (h : Heap) (sl : List Addr) (Qc : Option Value → Heap → List Loc → Prop) : Prop :=
  ∀ ws : List Jvm.Cond, MetFree l y (head1 (Jvm.Cond.code y bytes maxL ret :: ws) rm) (fun a U => a = as' ∧ Z.Warmed39 U.vm ∧ U.heap = h ∧ CHv Z EL U.vm h ∧ ∀ x ∈ sl, Safe Z EL U.vm h x) (fun _ _ _ _ _ => True) (fun _ U o U' => SEnd Z EL U Qc rm.cells rm.slots o U')
theorem ConS.intro {l : Launch} {Z : State} {EL : List (String × Nat)} {y : MethodName} {bytes : ByteArray} {maxL : Nat} {ret : Option FieldType} {rm : Room} {as' : Array Value} {h : Heap} {sl : List Addr} {Qc : Option Value → Heap → List Loc → Prop} (pn : plainName y.cls = true)
    (body : ∀ (p : Program) (e : Env) (s : State) (m : MethodId) (below : List Frame) (meth : Method) (c : Code) (T : State) (v0 : Vm), Stand p l e rm (s.setVm v0) m as' below meth c T [] 0 0 → p.tables.exec = Jvm.exec → c.code = bytes → c.maxLocals = maxL →
      v0.findClass y.cls = some m.cls → meth.name = y.name → meth.sig.returnType = ret → meth.locks = false → Z.Warmed39 v0 → T.heap = h → s.Since v0 0 → CHr Z EL s.vm s.heap v0 h → (∀ x ∈ sl, Safe Z EL v0 h x) →
      Go p.tables e below (SEnd Z EL s Qc rm.cells rm.slots) (T.setTop (entryFrame m as' maxL))) : ConS l Z EL y bytes maxL ret rm as' h sl Qc := by
  intro ws
  refine MetFree.of_bodySF (plainFor_of_name pn) hisR ?_
  intro p e s m args below meth c s₁ Bd hml0 hP hK
  obtain ⟨rfl, hZ, hh, hC, hs⟩ := hP
  exact body p e s m below meth c s₁ s.vm (Stand.of_body Bd) Bd.exec Bd.bytes hml0 (findClass_of_methodNamed Bd.named) (name_of_methodNamed Bd.named Bd.method).1 Bd.returns Bd.notSynchronized hZ (by rw [← hh, Bd.state]; rfl) ((State.WarmedH.refl s).since 0) (by rw [hh]; exact CHr.refl hC) hs
section Ends
variable {p : Program} {l : Launch} {e : Env} {R : Room} {s : State} {m : MethodId} {args : Array Value} {below : List Frame} {meth : Method} {c : Code} {T : State} {locs : List Loc} {cells slots : Nat} {Z : State} {a0 : Array Value} {EL : List (String × Nat)} {h : Heap} {Qc : Option Value → Heap → List Loc → Prop} {kc ks pc : Nat} {Ls : Array Slot} {rest : List Value} {vm1 : Vm} {n1 : Nat}
/-- any plain end, its last step given -/
theorem endP (X : Stand p l e R s m args below meth c T locs cells slots) (hlk : meth.locks = false) {v : Option Value} (hv : meth.sig.returnType = none → v = none) {S : State}
    (hst : ∀ fs : List Frame, (∀ (f : JFrame) (acts : List Action), f.method = m → f.locked = none → f.entered = [] → (doReturn e (T.setTop f) acts v).1 = T.setFrames fs) → Steps p.tables e below S (T.setFrames fs))
    (hq : Qc v T.heap locs) (h1 : cells ≤ kc) (h2 : slots ≤ ks) : Go p.tables e below (PEnd s Qc kc ks) S := by
  obtain ⟨fs, hr, hrun, hended, hW, hsame⟩ := X.leave (v := v) hv hlk
  exact ⟨_, _, hst fs hr, hrun, hended, _, _, rfl, hq, ⟨_, rfl⟩, hW, hsame.mono h1 h2⟩
theorem mono_sbn {s t : State} {L : List Loc} {k n k' n' : Nat} {o : Outcome} (h : ReturnedEndW s o t L k n) (h1 : k ≤ k') (h2 : n ≤ n') : ReturnedEndW s o t L k' n' := ⟨h.1, h.2.1, h.2.2.1, h.2.2.2.mono h1 h2⟩
theorem endC (X : Stand p l e R (s.setVm vm1) m args below meth c T locs cells slots) (hlk : meth.locks = false) (hS : s.Since vm1 n1) (hk : n1 ≤ T.heap.size) (hZ : Z.Warmed39 vm1) (w : EW Z a0 EL) (C : CHr Z EL s.vm s.heap vm1 T.heap) {v : Option Value} (hv : meth.sig.returnType = none → v = none) {S : State}
    (hst : ∀ fs : List Frame, (∀ (f : JFrame) (acts : List Action), f.method = m → f.locked = none → f.entered = [] → (doReturn e (T.setTop f) acts v).1 = T.setFrames fs) → Steps p.tables e below S (T.setFrames fs))
    (hq : Qc v T.heap locs) (h1 : cells ≤ kc) (h2 : slots ≤ ks) : Go p.tables e below (SEnd Z EL s Qc kc ks) S := by
  obtain ⟨fs, hr, hrun, hended, hW⟩ := X.leaveW hS hk (v := v) hv hlk
  have hC : CHr Z EL s.vm s.heap T.vm T.heap := C.trans (CHv.at X hZ w C.1)
  exact ⟨_, _, hst fs hr, hrun, hended, _, _, rfl, hq, hC, mono_sbn hW h1 h2⟩
/-- the last steps -/
theorem lastV (X : Stand p l e R s m args below meth c T locs cells slots) (hx : p.tables.exec = Jvm.exec) (hret : meth.sig.returnType = none) (hd : decode c.code pc = .ok (.return_, 1)) : ∀ fs : List Frame, (∀ (f : JFrame) (acts : List Action), f.method = m → f.locked = none → f.entered = [] → (doReturn e (T.setTop f) acts none).1 = T.setFrames fs) →
    Steps p.tables e below (T.setTop (mkF m pc Ls [])) (T.setFrames fs) := fun fs hr => X.returnOut hx hret hd hr
theorem lastN (X : Stand p l e R s m args below meth c T locs cells slots) (hx : p.tables.exec = Jvm.exec) {z z' : Int32} {t : FieldType} (hret : meth.sig.returnType = some t) (ht : t = .boolean ∨ t = .byte ∨ t = .char ∨ t = .short) (hz : nar t z = z') (hd : decode c.code pc = .ok (.ireturn, 1)) :
    ∀ fs : List Frame, (∀ (f : JFrame) (acts : List Action), f.method = m → f.locked = none → f.entered = [] → (doReturn e (T.setTop f) acts (some (.int z'))).1 = T.setFrames fs) → Steps p.tables e below (T.setTop (mkF m pc Ls (.int z :: rest))) (T.setFrames fs) := fun fs hr => by
  subst hz; exact retN X hx hret ht hd hr
theorem lastI (X : Stand p l e R s m args below meth c T locs cells slots) (hx : p.tables.exec = Jvm.exec) {z : Int32} (hret : meth.sig.returnType = some .int) (hd : decode c.code pc = .ok (.ireturn, 1)) :
    ∀ fs : List Frame, (∀ (f : JFrame) (acts : List Action), f.method = m → f.locked = none → f.entered = [] → (doReturn e (T.setTop f) acts (some (.int z))).1 = T.setFrames fs) → Steps p.tables e below (T.setTop (mkF m pc Ls (.int z :: rest))) (T.setFrames fs) := fun fs hr =>
  retOut X hx hret rfl (Or.inl ⟨rfl, Or.inl rfl, z, rfl⟩) hd hr
theorem lastL (X : Stand p l e R s m args below meth c T locs cells slots) (hx : p.tables.exec = Jvm.exec) {z : Int64} (hret : meth.sig.returnType = some .long) (hd : decode c.code pc = .ok (.lreturn, 1)) :
    ∀ fs : List Frame, (∀ (f : JFrame) (acts : List Action), f.method = m → f.locked = none → f.entered = [] → (doReturn e (T.setTop f) acts (some (.long z))).1 = T.setFrames fs) → Steps p.tables e below (T.setTop (mkF m pc Ls (.long z :: rest))) (T.setFrames fs) := fun fs hr =>
  retOut X hx hret rfl (Or.inr (Or.inl ⟨rfl, rfl, z, rfl⟩)) hd hr
theorem lastA (X : Stand p l e R s m args below meth c T locs cells slots) (hx : p.tables.exec = Jvm.exec) {w : Value} {t : FieldType} (hret : meth.sig.returnType = some t) (ht : t.isReference = true) (hn : narrow t w = w) (hw : w.isRef = true) (hd : decode c.code pc = .ok (.areturn, 1)) :
    ∀ fs : List Frame, (∀ (f : JFrame) (acts : List Action), f.method = m → f.locked = none → f.entered = [] → (doReturn e (T.setTop f) acts (some w)).1 = T.setFrames fs) → Steps p.tables e below (T.setTop (mkF m pc Ls (w :: rest))) (T.setFrames fs) := fun fs hr =>
  retOut X hx hret hn (Or.inr (Or.inr (Or.inr (Or.inr ⟨rfl, ht, hw⟩)))) hd hr
end Ends
/-- what pays a call: from the heap h, k cells and n slots -/
abbrev BackQ (l : Launch) (R : Room) (p : Program) (e : Env) (below : List Frame) (s : State) (sargs : Array Value) (y : MethodName) (len W : Nat) (as' : Array Value) (h : Heap) (k n : Nat) (Q : Option Value → Heap → List Loc → Prop) : Prop :=
  Back l R p e below s sargs y len W (fun A a => a = as' ∧ A.U.heap = h ∧ A.cells + k ≤ R.cells ∧ A.slots + n ≤ R.slots) (fun A _ v B => ∃ L, Q v B.U.heap L ∧ B.locs = A.locs ++ L ∧ B.cells = A.cells + k ∧ B.slots = A.slots + n)
abbrev BackSQ (l : Launch) (R : Room) (p : Program) (e : Env) (below : List Frame) (s : State) (vm0 : Vm) (sargs : Array Value) (y : MethodName) (len W : Nat) (as' : Array Value) (h : Heap) (k n : Nat) (Z : State) (EL : List (String × Nat)) (Q : Option Value → Heap → List Loc → Prop) : Prop :=
  BackS l R p e below (s.setVm vm0) sargs y len W (fun A a => a = as' ∧ A.U.heap = h ∧ A.cells + k ≤ R.cells ∧ A.slots + n ≤ R.slots) (fun A _ v B => ∃ L, Q v B.U.heap L ∧ B.locs = A.locs ++ L ∧ B.cells = A.cells + k ∧ B.slots = A.slots + n ∧ CHr Z EL vm0 h B.U.vm B.U.heap)
section Calls
variable {p : Program} {l : Launch} {e : Env} {R : Room} {s : State} {m : MethodId} {args : Array Value} {below : List Frame} {meth : Method} {c : Code} {T : State} {locs : List Loc} {cells slots : Nat} {Z : State} {a0 : Array Value} {EL : List (String × Nat)} {h : Heap} {Qc : Option Value → Heap → List Loc → Prop} {vm0 : Vm} {n0 : Nat}
  {y z : MethodName} {bytes : ByteArray} {maxL : Nat} {ret : Option FieldType} {rm : Room} {as' : Array Value} {own C : String} {index count W k n len : Nat} {g : JFrame} {a : Addr} {argsL rest : List Value}
theorem Con.back (hM : Con l Z y bytes maxL ret rm as' h Qc) (hZ : Z.Warmed39 s.vm) (wc : (Jvm.Cond.code y bytes maxL ret).before a0 Z = true) (wz : (Jvm.Cond.initialized y.cls).before a0 Z = true) (hf : rm.frames + 1 ≤ R.frames) (hl : W + (maxL + 11) + rm.locals ≤ R.locals) :
    BackQ l R p e below s args y len W as' h rm.cells rm.slots Qc := backOf (Q := Qc) (hM []) hZ wc wz hf hl
theorem ConS.back {sl : List Addr} (hM : ConS l Z EL y bytes maxL ret rm as' h sl Qc) (hZ : Z.Warmed39 vm0) (wc : (Jvm.Cond.code y bytes maxL ret).before a0 Z = true) (wz : (Jvm.Cond.initialized y.cls).before a0 Z = true) (hf : rm.frames + 1 ≤ R.frames) (hl : W + (maxL + 11) + rm.locals ≤ R.locals) (hEL : EW Z a0 EL) (H : CHv Z EL vm0 h)
    (hs : ∀ x ∈ sl, Safe Z EL vm0 h x) (hlt : ∀ x ∈ sl, x < h.size) : BackSQ l R p e below s vm0 args y len W as' h rm.cells rm.slots Z EL Qc :=
  BackS.of_freeW (bytes := bytes) (maxL := maxL) (ret := ret) (E := fun _ first o t L k n => k = rm.cells ∧ n = rm.slots ∧ (∃ v, o = .returned v ∧ Qc v t.heap L) ∧ CHr Z EL first.vm first.heap t.vm t.heap) (hM []) hf hl
    (fun m meth c A a Y hp => have hU : Z.Warmed39 A.U.vm := wtrans (s := s.setVm vm0) hZ Y.warmed
      ⟨by show (Cond.and _ .tt).before a A.U = true; rw [Cond.before_and, mv hU wc]; rfl, mv hU wc, mv hU wz, hp.2.2.1, hp.2.2.2⟩)
    (fun m meth c A a g mk Y hp => ⟨hp.1, wtrans (s := s.setVm vm0) hZ Y.warmed, hp.2.1, (CHv.at Y hZ hEL H).1, fun x hx => (CHv.at Y hZ hEL H).safe (hlt x hx) (hs x hx)⟩) (fun _ _ _ _ _ _ _ _ _ => trivial)
    (fun _ _ _ _ ⟨v, L, h1, h2, h3, h4⟩ => ⟨L, _, _, h4, rfl, rfl, ⟨v, h1, h2⟩, h3⟩)
    (fun m meth c A a g mk v t L k n Y hp _ _ ⟨e1, e2, ⟨v', e3, e4⟩, e5⟩ => by
      cases e3; subst e1 e2
      refine ⟨L, e4, rfl, rfl, rfl, (CHv.at Y hZ hEL H).trans ?_⟩
      rw [← hp.2.1]; exact e5)
theorem callSp (X : Stand p l e R s m args below meth c T locs cells slots) (hx : p.tables.exec = Jvm.exec) (hZ : Z.Warmed39 s.vm) (hown : s.vm.findClass own = some m.cls) (hy1 : y.name = "<init>") (w1 : (Jvm.Cond.methodLink own index y).before a0 Z = true) (w2 : (Jvm.Cond.instanceMethod y).before a0 Z = true) (w3 : (Jvm.Cond.code y bytes maxL none).before a0 Z = true)
    (hyc : y.cls ≠ "java/lang/invoke/MethodHandle" ∧ y.cls ≠ "java/lang/invoke/VarHandle") (eT : T.heap = h) (hK : BackQ l R p e below s args y 3 W (.ref a :: argsL).toArray h k n Qc)
    (hg : g.method = m) (hsize : g.locals.size = c.maxLocals) (hlen : ∀ sig, parseMethodDescriptor y.desc = some sig → argsL.length = sig.parameters.length) (hstack : g.stack = argsL.reverse ++ .ref a :: rest) (hW : 2 * g.monitorRoom + (rest.map fun v => v.category).sum ≤ W)
    (hdg : decode c.code g.pc = .ok (.invokespecial index, 3)) (hc : cells + k ≤ R.cells) (hs : slots + n ≤ R.slots) :
    ∃ v T' L, Stand p l e R s m args below meth c T' (locs ++ L) (cells + k) (slots + n) ∧ Qc v T'.heap L ∧ Steps p.tables e below (T.setTop g) (T'.setTop { g with pc := g.pc + 3, stack := v.toList ++ rest }) := by
  obtain ⟨v, vm1, ⟨T', L', k', n'⟩, -, X', ⟨L, hQ, rfl, rfl, rfl⟩, st⟩ := X.specialBack hx hy1 hown (mvT hZ w1) (mvT hZ w2) (mvT hZ w3) hyc hK hg hsize (Steps.refl _) hlen hstack hW hdg (fun _ _ => ⟨rfl, eT, hc, hs⟩)
  exact ⟨v, T', L, X', hQ, st⟩
theorem callVi (X : Stand p l e R s m args below meth c T locs cells slots) (hx : p.tables.exec = Jvm.exec) (hZ : Z.Warmed39 s.vm) (hown : s.vm.findClass own = some m.cls) (w1 : (Jvm.Cond.methodLink own index y).before a0 Z = true) (w2 : (Jvm.Cond.declares y).before a0 Z = true) (nf : NotFace s y) (w4 : (Jvm.Cond.selects C y z).before a0 Z = true) (w5 : (Jvm.Cond.instanceMethod z).before a0 Z = true)
    (hyc : y.cls ≠ "java/lang/invoke/MethodHandle" ∧ y.cls ≠ "java/lang/invoke/VarHandle") (eT : T.heap = h) (E : Exa Z h a C) (hK : BackQ l R p e below s args z 3 W (.ref a :: argsL).toArray h k n Qc)
    (hg : g.method = m) (hsize : g.locals.size = c.maxLocals) (hlen : ∀ sig, parseMethodDescriptor y.desc = some sig → argsL.length = sig.parameters.length) (hstack : g.stack = argsL.reverse ++ .ref a :: rest) (hW : 2 * g.monitorRoom + (rest.map fun v => v.category).sum ≤ W)
    (hdg : decode c.code g.pc = .ok (.invokevirtual index, 3)) (hc : cells + k ≤ R.cells) (hs : slots + n ≤ R.slots) :
    ∃ v T' L, Stand p l e R s m args below meth c T' (locs ++ L) (cells + k) (slots + n) ∧ Qc v T'.heap L ∧ Steps p.tables e below (T.setTop g) (T'.setTop { g with pc := g.pc + 3, stack := v.toList ++ rest }) := by
  obtain ⟨cB, kB, q1, q2, q3⟩ := isOf hZ eT E
  obtain ⟨v, vm1, ⟨T', L', k', n'⟩, -, X', ⟨L, hQ, rfl, rfl, rfl⟩, st⟩ := X.virtualBack hx hown (mvT hZ w1) (mvT hZ w2) nf (mvT hZ w4) (mvT hZ w5) hyc hK q1 q3 hg hsize (Steps.refl _) hlen hstack hW hdg (fun _ _ => ⟨rfl, eT, hc, hs⟩)
  exact ⟨v, T', L, X', hQ, st⟩
theorem callSt (X : Stand p l e R s m args below meth c T locs cells slots) (hx : p.tables.exec = Jvm.exec) (hZ : Z.Warmed39 s.vm) (hown : s.vm.findClass own = some m.cls) (w1 : (Jvm.Cond.methodLink own index y).before a0 Z = true) (w2 : (Jvm.Cond.static y).before a0 Z = true) (w3 : (Jvm.Cond.initialized y.cls).before a0 Z = true) (w4 : (Jvm.Cond.code y bytes maxL ret).before a0 Z = true)
    (hyc : y.cls ≠ "java/lang/invoke/MethodHandle" ∧ y.cls ≠ "java/lang/invoke/VarHandle") (eT : T.heap = h) (hK : BackQ l R p e below s args y 3 W argsL.toArray h k n Qc)
    (hg : g.method = m) (hsize : g.locals.size = c.maxLocals) (hlen : ∀ sig, parseMethodDescriptor y.desc = some sig → argsL.length = sig.parameters.length) (hstack : g.stack = argsL.reverse ++ rest) (hW : 2 * g.monitorRoom + (rest.map fun v => v.category).sum ≤ W)
    (hdg : decode c.code g.pc = .ok (.invokestatic index, 3)) (hc : cells + k ≤ R.cells) (hs : slots + n ≤ R.slots) :
    ∃ v T' L, Stand p l e R s m args below meth c T' (locs ++ L) (cells + k) (slots + n) ∧ Qc v T'.heap L ∧ Steps p.tables e below (T.setTop g) (T'.setTop { g with pc := g.pc + 3, stack := v.toList ++ rest }) := by
  obtain ⟨v, vm1, ⟨T', L', k', n'⟩, -, X', ⟨L, hQ, rfl, rfl, rfl⟩, st⟩ := Jvm.LawKit.callS X hx hown (mvT hZ w1) (mvT hZ w2) (mvT hZ w3) (mvT hZ w4) hyc hK hg hsize hlen hstack hW hdg (fun _ _ => ⟨rfl, eT, hc, hs⟩)
  exact ⟨v, T', L, X', hQ, st _ (Steps.refl _)⟩
theorem callIf (X : Stand p l e R s m args below meth c T locs cells slots) (hx : p.tables.exec = Jvm.exec) (hZ : Z.Warmed39 s.vm) (hown : s.vm.findClass own = some m.cls) (w1 : (Jvm.Cond.methodLink own index y).before a0 Z = true) (w2 : (Jvm.Cond.declares y).before a0 Z = true) (w3 : (Jvm.Cond.interfaceMethod y.cls y.cls y.name y.desc).before a0 Z = true) (h3 : ((Jvm.Cond.interfaceMethod y.cls y.cls y.name y.desc).onTables && (Jvm.Cond.interfaceMethod y.cls y.cls y.name y.desc).keepsFace) = true) (w4 : (Jvm.Cond.selects C y z).before a0 Z = true) (w5 : (Jvm.Cond.instanceMethod z).before a0 Z = true)
    (w6 : (Jvm.Cond.publicMethod z).before a0 Z = true) (w7 : (Jvm.Cond.unhidden C y.name y.desc).before a0 Z = true) (w8 : (Jvm.Cond.castable C y.cls).before a0 Z = true)
    (hyc : y.cls ≠ "java/lang/invoke/MethodHandle" ∧ y.cls ≠ "java/lang/invoke/VarHandle") (eT : T.heap = h) (E : Exa Z h a C) (hK : BackQ l R p e below s args z 5 W (.ref a :: argsL).toArray h k n Qc)
    (hg : g.method = m) (hsize : g.locals.size = c.maxLocals) (hlen : ∀ sig, parseMethodDescriptor y.desc = some sig → argsL.length = sig.parameters.length) (hstack : g.stack = argsL.reverse ++ .ref a :: rest) (hW : 2 * g.monitorRoom + (rest.map fun v => v.category).sum ≤ W)
    (hdg : decode c.code g.pc = .ok (.invokeinterface index count, 5)) (hc : cells + k ≤ R.cells) (hs : slots + n ≤ R.slots) :
    ∃ v T' L, Stand p l e R s m args below meth c T' (locs ++ L) (cells + k) (slots + n) ∧ Qc v T'.heap L ∧ Steps p.tables e below (T.setTop g) (T'.setTop { g with pc := g.pc + 5, stack := v.toList ++ rest }) := by
  obtain ⟨cB, kB, q1, q2, q3⟩ := isOf hZ eT E
  obtain ⟨v, vm1, ⟨T', L', k', n'⟩, -, X', ⟨L, hQ, rfl, rfl, rfl⟩, st⟩ := X.interfaceBack hx hown (mvT hZ w1) (mvT hZ w2) (mvT hZ w3 h3) (mvT hZ w4) (mvT hZ w5) (mvT hZ w6) (mvT hZ w7) (mvT hZ w8) hyc hK q1 q2 q3 hg hsize (Steps.refl _) hlen hstack hW hdg (fun _ _ => ⟨rfl, eT, hc, hs⟩)
  exact ⟨v, T', L, X', hQ, st⟩
theorem callVu (X : Stand p l e R s m args below meth c T locs cells slots) (hx : p.tables.exec = Jvm.exec) (hZ : Z.Warmed39 s.vm) (hown : s.vm.findClass own = some m.cls) {owner : String} (w1 : (Jvm.Cond.methodLink own index y).before a0 Z = true) (w2 : (Jvm.Cond.sameMethod y.cls owner y.name y.desc).before a0 Z = true) (w3 : (Jvm.Cond.declares ⟨owner, y.name, y.desc⟩).before a0 Z = true) (hyc : owner ≠ "java/lang/invoke/MethodHandle" ∧ owner ≠ "java/lang/invoke/VarHandle") (w4 : (Jvm.Cond.selects C y z).before a0 Z = true) (w5 : (Jvm.Cond.instanceMethod z).before a0 Z = true)
    (eT : T.heap = h) (E : Exa Z h a C) (hK : BackQ l R p e below s args z 3 W (.ref a :: argsL).toArray h k n Qc)
    (hg : g.method = m) (hsize : g.locals.size = c.maxLocals) (hlen : ∀ sig, parseMethodDescriptor y.desc = some sig → argsL.length = sig.parameters.length) (hstack : g.stack = argsL.reverse ++ .ref a :: rest) (hW : 2 * g.monitorRoom + (rest.map fun v => v.category).sum ≤ W)
    (hdg : decode c.code g.pc = .ok (.invokevirtual index, 3)) (hc : cells + k ≤ R.cells) (hs : slots + n ≤ R.slots) :
    ∃ v T' L, Stand p l e R s m args below meth c T' (locs ++ L) (cells + k) (slots + n) ∧ Qc v T'.heap L ∧ Steps p.tables e below (T.setTop g) (T'.setTop { g with pc := g.pc + 3, stack := v.toList ++ rest }) := by
  obtain ⟨cB, kB, q1, q2, q3⟩ := isOf hZ eT E
  obtain ⟨v, vm1, ⟨T', L', k', n'⟩, -, X', ⟨L, hQ, rfl, rfl, rfl⟩, st⟩ := X.virtualBackUp hx hown (mvT hZ w1) (mvT hZ w2) (mvT hZ w3) hyc (mvT hZ w4) (mvT hZ w5) hK q1 q3 hg hsize (Steps.refl _) hlen hstack hW hdg (fun _ _ => ⟨rfl, eT, hc, hs⟩)
  exact ⟨v, T', L, X', hQ, st⟩
/-- an object of C is one of K, or it isn't, as the tables have it -/
theorem insEither (hZ : Z.Warmed39 s.vm) (hown : s.vm.findClass own = some m.cls) {K : String} (w : (Jvm.Cond.classLink own index K).before a0 Z = true) (E : Exa Z h a C) : Ins Z h a K true ∨ ∃ c t, Z.vm.findClass C = some c ∧ Z.vm.findClass K = some t ∧ Z.vm.assignable c t = false := by
  have hd : Z.vm.findClass own = some m.cls := by rw [← hZ.alike.findClass]; exact hown
  obtain ⟨t, ht, -⟩ := Cond.classLink_spec hd w {} rfl
  obtain ⟨cell, k, h1, h2, h3, h4, h5⟩ := E
  cases hq : Z.vm.assignable cell.cls t with
  | true => exact Or.inl ⟨cell, t, h1, ht, by simp [h4, hq]⟩
  | false => exact Or.inr ⟨cell.cls, t, h2, ht, hq⟩
/-- what stands behind a call that may have interned -/
def AfterS (p : Program) (l : Launch) (e : Env) (R : Room) (s : State) (m : MethodId) (args : Array Value) (below : List Frame) (meth : Method) (c : Code) (Z : State) (EL : List (String × Nat)) (own : String) (vm0 : Vm) (h : Heap) (T' : State) (locs : List Loc) (cells slots : Nat) : Prop :=
  Stand p l e R (s.setVm T'.vm) m args below meth c T' locs cells slots ∧ s.Since T'.vm T'.heap.size ∧ Z.Warmed39 T'.vm ∧ T'.vm.findClass own = some m.cls ∧ CHr Z EL vm0 h T'.vm T'.heap
theorem callSpS (X : Stand p l e R (s.setVm vm0) m args below meth c T locs cells slots) (hx : p.tables.exec = Jvm.exec) (hZ : Z.Warmed39 vm0) (hown : vm0.findClass own = some m.cls) (hS : s.Since vm0 n0) (hk : n0 ≤ h.size) (hy1 : y.name = "<init>") (w1 : (Jvm.Cond.methodLink own index y).before a0 Z = true) (w2 : (Jvm.Cond.instanceMethod y).before a0 Z = true) (w3 : (Jvm.Cond.code y bytes maxL none).before a0 Z = true)
    (hyc : y.cls ≠ "java/lang/invoke/MethodHandle" ∧ y.cls ≠ "java/lang/invoke/VarHandle") (eT : T.heap = h) (hK : BackSQ l R p e below s vm0 args y 3 W (.ref a :: argsL).toArray h k n Z EL Qc)
    (hg : g.method = m) (hsize : g.locals.size = c.maxLocals) (hlen : ∀ sig, parseMethodDescriptor y.desc = some sig → argsL.length = sig.parameters.length) (hstack : g.stack = argsL.reverse ++ .ref a :: rest) (hW : 2 * g.monitorRoom + (rest.map fun v => v.category).sum ≤ W)
    (hdg : decode c.code g.pc = .ok (.invokespecial index, 3)) (hc : cells + k ≤ R.cells) (hs : slots + n ≤ R.slots) :
    ∃ v T' L, AfterS p l e R s m args below meth c Z EL own vm0 h T' (locs ++ L) (cells + k) (slots + n) ∧ Qc v T'.heap L ∧ Steps p.tables e below (T.setTop g) (T'.setTop { g with pc := g.pc + 3, stack := v.toList ++ rest }) := by
  obtain ⟨v, vm1, ⟨T', L', k', n'⟩, -, X', h2, gr, ⟨L, hQ, rfl, rfl, rfl, hC⟩, st⟩ := X.specialBackS hx hy1 hown (mvT hZ w1) (mvT hZ w2) (mvT hZ w3) hyc hK hg hsize (Steps.refl _) hlen hstack hW hdg (fun _ _ => ⟨rfl, eT, hc, hs⟩)
  obtain ⟨b1, b2, b3, b4⟩ := rebS hS (eT ▸ hk) X' h2 gr hZ hown
  exact ⟨v, T', L, ⟨b1, b2, b3, b4, hC⟩, hQ, st⟩
theorem callViS (X : Stand p l e R (s.setVm vm0) m args below meth c T locs cells slots) (hx : p.tables.exec = Jvm.exec) (hZ : Z.Warmed39 vm0) (hown : vm0.findClass own = some m.cls) (hS : s.Since vm0 n0) (hk : n0 ≤ h.size) (w1 : (Jvm.Cond.methodLink own index y).before a0 Z = true) (w2 : (Jvm.Cond.declares y).before a0 Z = true) (nf : NotFace (s.setVm vm0) y) (w4 : (Jvm.Cond.selects C y z).before a0 Z = true) (w5 : (Jvm.Cond.instanceMethod z).before a0 Z = true)
    (hyc : y.cls ≠ "java/lang/invoke/MethodHandle" ∧ y.cls ≠ "java/lang/invoke/VarHandle") (eT : T.heap = h) (E : Exa Z h a C) (hK : BackSQ l R p e below s vm0 args z 3 W (.ref a :: argsL).toArray h k n Z EL Qc)
    (hg : g.method = m) (hsize : g.locals.size = c.maxLocals) (hlen : ∀ sig, parseMethodDescriptor y.desc = some sig → argsL.length = sig.parameters.length) (hstack : g.stack = argsL.reverse ++ .ref a :: rest) (hW : 2 * g.monitorRoom + (rest.map fun v => v.category).sum ≤ W)
    (hdg : decode c.code g.pc = .ok (.invokevirtual index, 3)) (hc : cells + k ≤ R.cells) (hs : slots + n ≤ R.slots) :
    ∃ v T' L, AfterS p l e R s m args below meth c Z EL own vm0 h T' (locs ++ L) (cells + k) (slots + n) ∧ Qc v T'.heap L ∧ Steps p.tables e below (T.setTop g) (T'.setTop { g with pc := g.pc + 3, stack := v.toList ++ rest }) := by
  obtain ⟨cB, kB, q1, q2, q3⟩ := isOf (s := s.setVm vm0) hZ eT E
  obtain ⟨v, vm1, ⟨T', L', k', n'⟩, -, X', h2, gr, ⟨L, hQ, rfl, rfl, rfl, hC⟩, st⟩ := X.virtualBackS hx hown (mvT hZ w1) (mvT hZ w2) nf (mvT hZ w4) (mvT hZ w5) hyc hK q1 q3 hg hsize (Steps.refl _) hlen hstack hW hdg (fun _ _ => ⟨rfl, eT, hc, hs⟩)
  obtain ⟨b1, b2, b3, b4⟩ := rebS hS (eT ▸ hk) X' h2 gr hZ hown
  exact ⟨v, T', L, ⟨b1, b2, b3, b4, hC⟩, hQ, st⟩
theorem callStS (X : Stand p l e R (s.setVm vm0) m args below meth c T locs cells slots) (hx : p.tables.exec = Jvm.exec) (hZ : Z.Warmed39 vm0) (hown : vm0.findClass own = some m.cls) (hS : s.Since vm0 n0) (hk : n0 ≤ h.size) (w1 : (Jvm.Cond.methodLink own index y).before a0 Z = true) (w2 : (Jvm.Cond.static y).before a0 Z = true) (w3 : (Jvm.Cond.initialized y.cls).before a0 Z = true) (w4 : (Jvm.Cond.code y bytes maxL ret).before a0 Z = true)
    (hyc : y.cls ≠ "java/lang/invoke/MethodHandle" ∧ y.cls ≠ "java/lang/invoke/VarHandle") (eT : T.heap = h) (hK : BackSQ l R p e below s vm0 args y 3 W argsL.toArray h k n Z EL Qc)
    (hg : g.method = m) (hsize : g.locals.size = c.maxLocals) (hlen : ∀ sig, parseMethodDescriptor y.desc = some sig → argsL.length = sig.parameters.length) (hstack : g.stack = argsL.reverse ++ rest) (hW : 2 * g.monitorRoom + (rest.map fun v => v.category).sum ≤ W)
    (hdg : decode c.code g.pc = .ok (.invokestatic index, 3)) (hc : cells + k ≤ R.cells) (hs : slots + n ≤ R.slots) :
    ∃ v T' L, AfterS p l e R s m args below meth c Z EL own vm0 h T' (locs ++ L) (cells + k) (slots + n) ∧ Qc v T'.heap L ∧ Steps p.tables e below (T.setTop g) (T'.setTop { g with pc := g.pc + 3, stack := v.toList ++ rest }) := by
  obtain ⟨v, vm1, ⟨T', L', k', n'⟩, -, X', h2, gr, ⟨L, hQ, rfl, rfl, rfl, hC⟩, st⟩ := callSS X hx hown (mvT hZ w1) (mvT hZ w2) (mvT hZ w3) (mvT hZ w4) hyc hK hg hsize hlen hstack hW hdg (fun _ _ => ⟨rfl, eT, hc, hs⟩)
  obtain ⟨b1, b2, b3, b4⟩ := rebS hS (eT ▸ hk) X' h2 gr hZ hown
  exact ⟨v, T', L, ⟨b1, b2, b3, b4, hC⟩, hQ, st⟩
end Calls
section Arrays
variable {p : Program} {l : Launch} {e : Env} {R : Room} {s : State} {m : MethodId} {args : Array Value} {below : List Frame} {meth : Method} {c : Code} {T : State} {locs : List Loc} {cells slots : Nat} {Z : State} {a0 : Array Value} {h : Heap} {g : JFrame} {rest : List Value} {a : Addr} {k : ClassId} {ty : FieldType} {z j x x' : Int32} {i : Nat} {vs : List Value} {d v : Value}
theorem newArr (X : Stand p l e R s m args below meth c T locs cells slots) (hx : p.tables.exec = Jvm.exec) (hZ : Z.Warmed39 s.vm) {aty : ArrayType} (w : (Jvm.Cond.arrayClass (newarray.typeOf aty)).before a0 Z = true) (eT : T.heap = h) (hg : g.method = m) (hd : decode c.code g.pc = .ok (.newarray aty, 2)) {n : Int32} (hs : g.stack = .int n :: rest)
    (hn : ¬ n < 0) {q : Nat} (hq : n.toNatClampNeg = q) (hb : q * 8 ≤ 536870912) (hc : cells + 1 ≤ R.cells) (hl : slots + q ≤ R.slots) :
    ∃ T' h' cA, Stand p l e R s m args below meth c T' locs (cells + 1) (slots + q) ∧ T'.heap = h' ∧ Ext h h' ∧ Arv Z h' h.size cA (newarray.typeOf aty) n (List.replicate q (defaultValue (newarray.typeOf aty))) (defaultValue (newarray.typeOf aty)) ∧
      ∀ target, Steps p.tables e below (T'.setTop { g with pc := g.pc + 2, stack := .ref h.size :: rest }) target → Steps p.tables e below (T.setTop g) target := by
  obtain ⟨T', h', cA, X', e', E', A', st⟩ := newP X hx hZ w eT hg hd hs hn (cap := q) (Nat.le_of_eq hq) hb hc hl
  exact ⟨T', h', cA, X', e', E', (Arv.new A' hn).pad (fun i => by have := pad_rep [] (defaultValue (newarray.typeOf aty)) q i; simpa using this), st⟩
theorem setC (X : Stand p l e R s m args below meth c T locs cells slots) (hx : p.tables.exec = Jvm.exec) (hZ : Z.Warmed39 s.vm) (eT : T.heap = h) (A : Arv Z h a k .char z vs d) (hj : j.toNatClampNeg = i) (h0 : ¬ j < 0) (hjz : j < z) (hi : i < vs.length) (hn : nar .char x = x') (hg : g.method = m) (hs : g.stack = .int x :: .int j :: .ref a :: rest) (hd : decode c.code g.pc = .ok (.castore, 1)) :
    ∃ T' h', Stand p l e R s m args below meth c T' (locs ++ [⟨a, i⟩]) cells slots ∧ T'.heap = h' ∧ Wr h h' a i (.int x') ∧ Arv Z h' a k .char z (vs.set i (.int x')) d ∧ ∀ target, Steps p.tables e below (T'.setTop { g with pc := g.pc + 1, stack := rest }) target → Steps p.tables e below (T.setTop g) target := by
  subst hj hn
  obtain ⟨cl, A1, A2, A3, A4, A5, A6⟩ := A
  obtain ⟨T', h', X', e', W', st⟩ := stC X hx hZ eT A1 (inb_of A3 ⟨h0, hjz⟩) hg hs hd
  exact ⟨T', h', X', e', W', Arv.set A1 A2 A3 A4 A5 A6 (fits_nar_char x) W' _ rfl hi, st⟩
theorem setB (X : Stand p l e R s m args below meth c T locs cells slots) (hx : p.tables.exec = Jvm.exec) (hZ : Z.Warmed39 s.vm) (eT : T.heap = h) (A : Arv Z h a k .byte z vs d) (hj : j.toNatClampNeg = i) (h0 : ¬ j < 0) (hjz : j < z) (hi : i < vs.length) (hn : nar .byte x = x') (hg : g.method = m) (hs : g.stack = .int x :: .int j :: .ref a :: rest) (hd : decode c.code g.pc = .ok (.bastore, 1)) :
    ∃ T' h', Stand p l e R s m args below meth c T' (locs ++ [⟨a, i⟩]) cells slots ∧ T'.heap = h' ∧ Wr h h' a i (.int x') ∧ Arv Z h' a k .byte z (vs.set i (.int x')) d ∧ ∀ target, Steps p.tables e below (T'.setTop { g with pc := g.pc + 1, stack := rest }) target → Steps p.tables e below (T.setTop g) target := by
  subst hj hn
  obtain ⟨cl, A1, A2, A3, A4, A5, A6⟩ := A
  obtain ⟨T', h', X', e', W', st⟩ := stB X hx hZ eT A1 (inb_of A3 ⟨h0, hjz⟩) hg hs hd
  exact ⟨T', h', X', e', W', Arv.set A1 A2 A3 A4 A5 A6 (fits_nar_byte x) W' _ rfl hi, st⟩
theorem setI (X : Stand p l e R s m args below meth c T locs cells slots) (hx : p.tables.exec = Jvm.exec) (hZ : Z.Warmed39 s.vm) (eT : T.heap = h) (A : Arv Z h a k .int z vs d) (hj : j.toNatClampNeg = i) (h0 : ¬ j < 0) (hjz : j < z) (hi : i < vs.length) (hg : g.method = m) (hs : g.stack = .int x :: .int j :: .ref a :: rest) (hd : decode c.code g.pc = .ok (.iastore, 1)) :
    ∃ T' h', Stand p l e R s m args below meth c T' (locs ++ [⟨a, i⟩]) cells slots ∧ T'.heap = h' ∧ Wr h h' a i (.int x) ∧ Arv Z h' a k .int z (vs.set i (.int x)) d ∧ ∀ target, Steps p.tables e below (T'.setTop { g with pc := g.pc + 1, stack := rest }) target → Steps p.tables e below (T.setTop g) target := by
  subst hj
  obtain ⟨cl, A1, A2, A3, A4, A5, A6⟩ := A
  obtain ⟨T', h', X', e', W', st⟩ := stI X hx hZ eT A1 (inb_of A3 ⟨h0, hjz⟩) hg hs hd
  exact ⟨T', h', X', e', W', Arv.set A1 A2 A3 A4 A5 A6 rfl W' _ rfl hi, st⟩
theorem setR (X : Stand p l e R s m args below meth c T locs cells slots) (hx : p.tables.exec = Jvm.exec) (hZ : Z.Warmed39 s.vm) (eT : T.heap = h) (A : Arv Z h a k ty z vs d) (hty : ty.isReference = true) (F : Sto Z h a v) (hfit : fits ty v = true) (hj : j.toNatClampNeg = i) (h0 : ¬ j < 0) (hjz : j < z) (hi : i < vs.length) (hg : g.method = m) (hs : g.stack = v :: .int j :: .ref a :: rest) (hd : decode c.code g.pc = .ok (.aastore, 1)) :
    ∃ T' h', Stand p l e R s m args below meth c T' (locs ++ [⟨a, i⟩]) cells slots ∧ T'.heap = h' ∧ Wr h h' a i v ∧ Arv Z h' a k ty z (vs.set i v) d ∧ ∀ target, Steps p.tables e below (T'.setTop { g with pc := g.pc + 1, stack := rest }) target → Steps p.tables e below (T.setTop g) target := by
  subst hj
  obtain ⟨cl, A1, A2, A3, A4, A5, A6⟩ := A
  obtain ⟨T', h', X', e', W', st⟩ := stR X hx hZ eT A1 (inb_of A3 ⟨h0, hjz⟩) hty F hg hs hd
  exact ⟨T', h', X', e', W', Arv.set A1 A2 A3 A4 A5 A6 hfit W' _ rfl hi, st⟩
theorem ldC (X : Stand p l e R s m args below meth c T locs cells slots) (hx : p.tables.exec = Jvm.exec) (hZ : Z.Warmed39 s.vm) (eT : T.heap = h) (A : Arv Z h a k .char z vs d) (hj : j.toNatClampNeg = i) (h0 : ¬ j < 0) (hjz : j < z) (hv : vs.getD i d = v) (hg : g.method = m) (hs : g.stack = .int j :: .ref a :: rest) (hd : decode c.code g.pc = .ok (.caload, 1)) :
    ∀ target, Steps p.tables e below (T.setTop { g with pc := g.pc + 1, stack := v :: rest }) target → Steps p.tables e below (T.setTop g) target := by
  subst hj hv
  obtain ⟨cl, A1, A2, A3, A4, A5, A6⟩ := A
  exact X.caload hx (by rw [eT]; exact A1.1) (State.isArrayOf_alike hZ.alike A1.2.1) A1.2.2 (inb_of A3 ⟨h0, hjz⟩) (A5.at (inb_of A3 ⟨h0, hjz⟩) rfl) hg hs hd
theorem ldB (X : Stand p l e R s m args below meth c T locs cells slots) (hx : p.tables.exec = Jvm.exec) (hZ : Z.Warmed39 s.vm) (eT : T.heap = h) (A : Arv Z h a k .byte z vs d) (hj : j.toNatClampNeg = i) (h0 : ¬ j < 0) (hjz : j < z) (hv : vs.getD i d = v) (hg : g.method = m) (hs : g.stack = .int j :: .ref a :: rest) (hd : decode c.code g.pc = .ok (.baload, 1)) :
    ∀ target, Steps p.tables e below (T.setTop { g with pc := g.pc + 1, stack := v :: rest }) target → Steps p.tables e below (T.setTop g) target := by
  subst hj hv
  obtain ⟨cl, A1, A2, A3, A4, A5, A6⟩ := A
  exact X.baloadBytes hx (by rw [eT]; exact A1.1) (State.isArrayOf_alike hZ.alike A1.2.1) A1.2.2 (inb_of A3 ⟨h0, hjz⟩) (A5.at (inb_of A3 ⟨h0, hjz⟩) rfl) hg hs hd
theorem ldI (X : Stand p l e R s m args below meth c T locs cells slots) (hx : p.tables.exec = Jvm.exec) (hZ : Z.Warmed39 s.vm) (eT : T.heap = h) (A : Arv Z h a k .int z vs d) (hj : j.toNatClampNeg = i) (h0 : ¬ j < 0) (hjz : j < z) (hv : vs.getD i d = v) (hg : g.method = m) (hs : g.stack = .int j :: .ref a :: rest) (hd : decode c.code g.pc = .ok (.iaload, 1)) :
    ∀ target, Steps p.tables e below (T.setTop { g with pc := g.pc + 1, stack := v :: rest }) target → Steps p.tables e below (T.setTop g) target := by
  subst hj hv
  obtain ⟨cl, A1, A2, A3, A4, A5, A6⟩ := A
  exact X.iaload hx (by rw [eT]; exact A1.1) (State.isArrayOf_alike hZ.alike A1.2.1) A1.2.2 (inb_of A3 ⟨h0, hjz⟩) (A5.at (inb_of A3 ⟨h0, hjz⟩) rfl) hg hs hd
theorem ldR (X : Stand p l e R s m args below meth c T locs cells slots) (hx : p.tables.exec = Jvm.exec) (hZ : Z.Warmed39 s.vm) (eT : T.heap = h) (A : Arv Z h a k ty z vs d) (hty : ty.isReference = true) (hj : j.toNatClampNeg = i) (h0 : ¬ j < 0) (hjz : j < z) (hv : vs.getD i d = v) (hg : g.method = m) (hs : g.stack = .int j :: .ref a :: rest) (hd : decode c.code g.pc = .ok (.aaload, 1)) :
    ∀ target, Steps p.tables e below (T.setTop { g with pc := g.pc + 1, stack := v :: rest }) target → Steps p.tables e below (T.setTop g) target := by
  subst hj hv
  obtain ⟨cl, A1, A2, A3, A4, A5, A6⟩ := A
  exact X.aaload hx (by rw [eT]; exact A1.1) (State.isArrayOf_alike hZ.alike A1.2.1) hty A1.2.2 (inb_of A3 ⟨h0, hjz⟩) (A5.at (inb_of A3 ⟨h0, hjz⟩) rfl) hg hs hd
theorem alen (X : Stand p l e R s m args below meth c T locs cells slots) (hx : p.tables.exec = Jvm.exec) (hZ : Z.Warmed39 s.vm) (eT : T.heap = h) (A : Arv Z h a k ty z vs d) (hg : g.method = m) (hs : g.stack = .ref a :: rest) (hd : decode c.code g.pc = .ok (.arraylength, 1)) :
    ∀ target, Steps p.tables e below (T.setTop { g with pc := g.pc + 1, stack := .int z :: rest }) target → Steps p.tables e below (T.setTop g) target := fun t ht => by
  obtain ⟨cl, A1, A2, A3, A4, A5, A6⟩ := A
  refine X.arraylength hx (by rw [eT]; exact A1.1) (State.isArrayOf_alike hZ.alike A1.2.1) hg hs hd t ?_
  rw [len_of A3 A4]; exact ht
end Arrays
end Jvm.OwnKit
namespace Jvm.OwnKit
open Jvm Jvm.ClassFile Sem Op Lib Jvm.Free Jvm.Stand Jvm.LawKit Jvm.RoadKit Bundle
section Steps1
variable {p : Program} {l : Launch} {e : Env} {R : Room} {s : State} {m : MethodId} {args : Array Value} {below : List Frame} {meth : Method} {c : Code} {T : State} {locs : List Loc} {cells slots : Nat} {Z : State} {a0 : Array Value} {EL : List (String × Nat)} {h : Heap} {Q : Outcome → State → Prop} {pc q : Nat} {Ls Ls' : Array Slot} {st : List Value} {x y z : Int32} {jx jy jz : Int64} {a : Addr} {v w : Value} {k : Nat} {k4 : Fin 4} {i : Nat} {vs : List Value} {d : Value} {ty : FieldType} {kc : ClassId} {own C O f dd : String} {index : Nat}
theorem aL (X : Stand p l e R s m args below meth c T locs cells slots) (hx : p.tables.exec = Jvm.exec) (hd : decode c.code pc = .ok (.aload_n k4, 1)) (hq : pc + 1 = q) (hl : Ls[k4.val]? = some (.val v)) (hv : v.isRef = true) (kk : Go p.tables e below Q (T.setTop (mkF m q Ls (v :: st)))) : Go p.tables e below Q (T.setTop (mkF m pc Ls st)) := by
  subst hq; exact Go.st (XS.aloadN X.here hx rfl hd hl hv) kk
theorem aLw (X : Stand p l e R s m args below meth c T locs cells slots) (hx : p.tables.exec = Jvm.exec) (hd : decode c.code pc = .ok (.aload k, 2)) (hq : pc + 2 = q) (hl : Ls[k]? = some (.val v)) (hv : v.isRef = true) (kk : Go p.tables e below Q (T.setTop (mkF m q Ls (v :: st)))) : Go p.tables e below Q (T.setTop (mkF m pc Ls st)) := by
  subst hq; exact Go.st (XS.aload X.here hx rfl hd hl hv) kk
theorem iL (X : Stand p l e R s m args below meth c T locs cells slots) (hx : p.tables.exec = Jvm.exec) (hd : decode c.code pc = .ok (.iload_n k4, 1)) (hq : pc + 1 = q) (hl : Ls[k4.val]? = some (.val (.int x))) (kk : Go p.tables e below Q (T.setTop (mkF m q Ls (.int x :: st)))) : Go p.tables e below Q (T.setTop (mkF m pc Ls st)) := by
  subst hq; exact Go.st (XS.iloadN X.here hx rfl hd hl) kk
theorem iLw (X : Stand p l e R s m args below meth c T locs cells slots) (hx : p.tables.exec = Jvm.exec) (hd : decode c.code pc = .ok (.iload k, 2)) (hq : pc + 2 = q) (hl : Ls[k]? = some (.val (.int x))) (kk : Go p.tables e below Q (T.setTop (mkF m q Ls (.int x :: st)))) : Go p.tables e below Q (T.setTop (mkF m pc Ls st)) := by
  subst hq; exact Go.st (XS.iload X.here hx rfl hd hl) kk
theorem lL (X : Stand p l e R s m args below meth c T locs cells slots) (hx : p.tables.exec = Jvm.exec) (hd : decode c.code pc = .ok (.lload_n k4, 1)) (hq : pc + 1 = q) (hl : Ls[k4.val]? = some (.val (.long jx))) (kk : Go p.tables e below Q (T.setTop (mkF m q Ls (.long jx :: st)))) : Go p.tables e below Q (T.setTop (mkF m pc Ls st)) := by
  subst hq; exact Go.st (XS.lloadN X.here hx rfl hd hl) kk
theorem lLw (X : Stand p l e R s m args below meth c T locs cells slots) (hx : p.tables.exec = Jvm.exec) (hd : decode c.code pc = .ok (.lload k, 2)) (hq : pc + 2 = q) (hl : Ls[k]? = some (.val (.long jx))) (kk : Go p.tables e below Q (T.setTop (mkF m q Ls (.long jx :: st)))) : Go p.tables e below Q (T.setTop (mkF m pc Ls st)) := by
  subst hq; exact Go.st (XS.lload X.here hx rfl hd hl) kk
theorem sI (X : Stand p l e R s m args below meth c T locs cells slots) (hx : p.tables.exec = Jvm.exec) (hd : decode c.code pc = .ok (.istore_n k4, 1)) (hq : pc + 1 = q) (hl : storeLocals Ls k4.val (.int x) = some Ls') (kk : Go p.tables e below Q (T.setTop (mkF m q Ls' st))) : Go p.tables e below Q (T.setTop (mkF m pc Ls (.int x :: st))) := by
  subst hq; exact Go.st (XS.istoreN X.here hx rfl hd rfl hl) kk
theorem sIw (X : Stand p l e R s m args below meth c T locs cells slots) (hx : p.tables.exec = Jvm.exec) (hd : decode c.code pc = .ok (.istore k, 2)) (hq : pc + 2 = q) (hl : storeLocals Ls k (.int x) = some Ls') (kk : Go p.tables e below Q (T.setTop (mkF m q Ls' st))) : Go p.tables e below Q (T.setTop (mkF m pc Ls (.int x :: st))) := by
  subst hq; exact Go.st (XS.istore X.here hx rfl hd rfl hl) kk
theorem sL (X : Stand p l e R s m args below meth c T locs cells slots) (hx : p.tables.exec = Jvm.exec) (hd : decode c.code pc = .ok (.lstore_n k4, 1)) (hq : pc + 1 = q) (hl : storeLocals Ls k4.val (.long jx) = some Ls') (kk : Go p.tables e below Q (T.setTop (mkF m q Ls' st))) : Go p.tables e below Q (T.setTop (mkF m pc Ls (.long jx :: st))) := by
  subst hq; exact Go.st (XS.lstoreN X.here hx rfl hd rfl hl) kk
theorem sLw (X : Stand p l e R s m args below meth c T locs cells slots) (hx : p.tables.exec = Jvm.exec) (hd : decode c.code pc = .ok (.lstore k, 2)) (hq : pc + 2 = q) (hl : storeLocals Ls k (.long jx) = some Ls') (kk : Go p.tables e below Q (T.setTop (mkF m q Ls' st))) : Go p.tables e below Q (T.setTop (mkF m pc Ls (.long jx :: st))) := by
  subst hq; exact Go.st (XS.lstore X.here hx rfl hd rfl hl) kk
theorem sA (X : Stand p l e R s m args below meth c T locs cells slots) (hx : p.tables.exec = Jvm.exec) (hd : decode c.code pc = .ok (.astore_n k4, 1)) (hq : pc + 1 = q) (hv : v.isRef = true) (hl : storeLocals Ls k4.val v = some Ls') (kk : Go p.tables e below Q (T.setTop (mkF m q Ls' st))) : Go p.tables e below Q (T.setTop (mkF m pc Ls (v :: st))) := by
  subst hq; exact Go.st (XS.astoreN X.here hx rfl hd rfl hv hl) kk
theorem sAw (X : Stand p l e R s m args below meth c T locs cells slots) (hx : p.tables.exec = Jvm.exec) (hd : decode c.code pc = .ok (.astore k, 2)) (hq : pc + 2 = q) (hv : v.isRef = true) (hl : storeLocals Ls k v = some Ls') (kk : Go p.tables e below Q (T.setTop (mkF m q Ls' st))) : Go p.tables e below Q (T.setTop (mkF m pc Ls (v :: st))) := by
  subst hq; exact Go.st (XS.astore X.here hx rfl hd rfl hv hl) kk
theorem cI (X : Stand p l e R s m args below meth c T locs cells slots) (hx : p.tables.exec = Jvm.exec) {j : Int} (hd : decode c.code pc = .ok (.iconst j, 1)) (hq : pc + 1 = q) (hz : Int32.ofInt j = z) (kk : Go p.tables e below Q (T.setTop (mkF m q Ls (.int z :: st)))) : Go p.tables e below Q (T.setTop (mkF m pc Ls st)) := by
  subst hq hz; exact Go.st (XS.iconst X.here hx rfl hd) kk
theorem bI (X : Stand p l e R s m args below meth c T locs cells slots) (hx : p.tables.exec = Jvm.exec) {j : Int} (hd : decode c.code pc = .ok (.bipush j, 2)) (hq : pc + 2 = q) (hz : (Int8.ofInt j).toInt32 = z) (kk : Go p.tables e below Q (T.setTop (mkF m q Ls (.int z :: st)))) : Go p.tables e below Q (T.setTop (mkF m pc Ls st)) := by
  subst hq hz; exact Go.st (XS.bipush X.here hx rfl hd) kk
theorem pI (X : Stand p l e R s m args below meth c T locs cells slots) (hx : p.tables.exec = Jvm.exec) {j : Int} (hd : decode c.code pc = .ok (.sipush j, 3)) (hq : pc + 3 = q) (hz : (Int16.ofInt j).toInt32 = z) (kk : Go p.tables e below Q (T.setTop (mkF m q Ls (.int z :: st)))) : Go p.tables e below Q (T.setTop (mkF m pc Ls st)) := by
  subst hq hz; exact Go.st (XS.sipush X.here hx rfl hd) kk
theorem cJ (X : Stand p l e R s m args below meth c T locs cells slots) (hx : p.tables.exec = Jvm.exec) {j2 : Fin 2} (hd : decode c.code pc = .ok (.lconst j2, 1)) (hq : pc + 1 = q) (hz : Int64.ofNat j2 = jz) (kk : Go p.tables e below Q (T.setTop (mkF m q Ls (.long jz :: st)))) : Go p.tables e below Q (T.setTop (mkF m pc Ls st)) := by
  subst hq hz; exact Go.st (XS.lconst X.here hx rfl hd) kk
theorem cN (X : Stand p l e R s m args below meth c T locs cells slots) (hx : p.tables.exec = Jvm.exec) (hd : decode c.code pc = .ok (.aconst_null, 1)) (hq : pc + 1 = q) (kk : Go p.tables e below Q (T.setTop (mkF m q Ls (.null :: st)))) : Go p.tables e below Q (T.setTop (mkF m pc Ls st)) := by
  subst hq; exact Go.st (XS.aconstNull X.here hx rfl hd) kk
theorem g_iadd (X : Stand p l e R s m args below meth c T locs cells slots) (hx : p.tables.exec = Jvm.exec) (hd : decode c.code pc = .ok (.iadd, 1)) (hq : pc + 1 = q) (hz : x + y = z) (kk : Go p.tables e below Q (T.setTop (mkF m q Ls (.int z :: st)))) : Go p.tables e below Q (T.setTop (mkF m pc Ls (.int y :: .int x :: st))) := by
  subst hq hz; exact Go.st (XS.iadd X.here hx rfl hd rfl) kk
theorem g_isub (X : Stand p l e R s m args below meth c T locs cells slots) (hx : p.tables.exec = Jvm.exec) (hd : decode c.code pc = .ok (.isub, 1)) (hq : pc + 1 = q) (hz : x - y = z) (kk : Go p.tables e below Q (T.setTop (mkF m q Ls (.int z :: st)))) : Go p.tables e below Q (T.setTop (mkF m pc Ls (.int y :: .int x :: st))) := by
  subst hq hz; exact Go.st (XS.isub X.here hx rfl hd rfl) kk
theorem g_imul (X : Stand p l e R s m args below meth c T locs cells slots) (hx : p.tables.exec = Jvm.exec) (hd : decode c.code pc = .ok (.imul, 1)) (hq : pc + 1 = q) (hz : x * y = z) (kk : Go p.tables e below Q (T.setTop (mkF m q Ls (.int z :: st)))) : Go p.tables e below Q (T.setTop (mkF m pc Ls (.int y :: .int x :: st))) := by
  subst hq hz; exact Go.st (XS.imul X.here hx rfl hd rfl) kk
theorem g_iand (X : Stand p l e R s m args below meth c T locs cells slots) (hx : p.tables.exec = Jvm.exec) (hd : decode c.code pc = .ok (.iand, 1)) (hq : pc + 1 = q) (hz : x &&& y = z) (kk : Go p.tables e below Q (T.setTop (mkF m q Ls (.int z :: st)))) : Go p.tables e below Q (T.setTop (mkF m pc Ls (.int y :: .int x :: st))) := by
  subst hq hz; exact Go.st (XS.iand X.here hx rfl hd rfl) kk
theorem g_ior (X : Stand p l e R s m args below meth c T locs cells slots) (hx : p.tables.exec = Jvm.exec) (hd : decode c.code pc = .ok (.ior, 1)) (hq : pc + 1 = q) (hz : x ||| y = z) (kk : Go p.tables e below Q (T.setTop (mkF m q Ls (.int z :: st)))) : Go p.tables e below Q (T.setTop (mkF m pc Ls (.int y :: .int x :: st))) := by
  subst hq hz; exact Go.st (XS.ior X.here hx rfl hd rfl) kk
theorem g_ixor (X : Stand p l e R s m args below meth c T locs cells slots) (hx : p.tables.exec = Jvm.exec) (hd : decode c.code pc = .ok (.ixor, 1)) (hq : pc + 1 = q) (hz : x ^^^ y = z) (kk : Go p.tables e below Q (T.setTop (mkF m q Ls (.int z :: st)))) : Go p.tables e below Q (T.setTop (mkF m pc Ls (.int y :: .int x :: st))) := by
  subst hq hz; exact Go.st (XS.ixor X.here hx rfl hd rfl) kk
theorem g_ishl (X : Stand p l e R s m args below meth c T locs cells slots) (hx : p.tables.exec = Jvm.exec) (hd : decode c.code pc = .ok (.ishl, 1)) (hq : pc + 1 = q) (hz : x <<< (y &&& 31) = z) (kk : Go p.tables e below Q (T.setTop (mkF m q Ls (.int z :: st)))) : Go p.tables e below Q (T.setTop (mkF m pc Ls (.int y :: .int x :: st))) := by
  subst hq hz; exact Go.st (XS.ishl X.here hx rfl hd rfl) kk
theorem g_ishr (X : Stand p l e R s m args below meth c T locs cells slots) (hx : p.tables.exec = Jvm.exec) (hd : decode c.code pc = .ok (.ishr, 1)) (hq : pc + 1 = q) (hz : x >>> (y &&& 31) = z) (kk : Go p.tables e below Q (T.setTop (mkF m q Ls (.int z :: st)))) : Go p.tables e below Q (T.setTop (mkF m pc Ls (.int y :: .int x :: st))) := by
  subst hq hz; exact Go.st (XS.ishr X.here hx rfl hd rfl) kk
theorem g_iushr (X : Stand p l e R s m args below meth c T locs cells slots) (hx : p.tables.exec = Jvm.exec) (hd : decode c.code pc = .ok (.iushr, 1)) (hq : pc + 1 = q) (hz : (x.toUInt32 >>> (y &&& 31).toUInt32).toInt32 = z) (kk : Go p.tables e below Q (T.setTop (mkF m q Ls (.int z :: st)))) : Go p.tables e below Q (T.setTop (mkF m pc Ls (.int y :: .int x :: st))) := by
  subst hq hz; exact Go.st (XS.iushr X.here hx rfl hd rfl) kk
theorem g_irem (X : Stand p l e R s m args below meth c T locs cells slots) (hx : p.tables.exec = Jvm.exec) (hd : decode c.code pc = .ok (.irem, 1)) (hq : pc + 1 = q) (hy : y ≠ 0) (hz : x % y = z) (kk : Go p.tables e below Q (T.setTop (mkF m q Ls (.int z :: st)))) : Go p.tables e below Q (T.setTop (mkF m pc Ls (.int y :: .int x :: st))) := by
  subst hq hz; exact Go.st (iremM X hx rfl hd rfl hy) kk
theorem g_idiv (X : Stand p l e R s m args below meth c T locs cells slots) (hx : p.tables.exec = Jvm.exec) (hd : decode c.code pc = .ok (.idiv, 1)) (hq : pc + 1 = q) (hy : y ≠ 0) (hz : x / y = z) (kk : Go p.tables e below Q (T.setTop (mkF m q Ls (.int z :: st)))) : Go p.tables e below Q (T.setTop (mkF m pc Ls (.int y :: .int x :: st))) := by
  subst hq hz; exact Go.st (XS.idiv X.here hx rfl hd rfl hy) kk
theorem g_ladd (X : Stand p l e R s m args below meth c T locs cells slots) (hx : p.tables.exec = Jvm.exec) (hd : decode c.code pc = .ok (.ladd, 1)) (hq : pc + 1 = q) (hz : jx + jy = jz) (kk : Go p.tables e below Q (T.setTop (mkF m q Ls (.long jz :: st)))) : Go p.tables e below Q (T.setTop (mkF m pc Ls (.long jy :: .long jx :: st))) := by
  subst hq hz; exact Go.st (XS.ladd X.here hx rfl hd rfl) kk
theorem g_lsub (X : Stand p l e R s m args below meth c T locs cells slots) (hx : p.tables.exec = Jvm.exec) (hd : decode c.code pc = .ok (.lsub, 1)) (hq : pc + 1 = q) (hz : jx - jy = jz) (kk : Go p.tables e below Q (T.setTop (mkF m q Ls (.long jz :: st)))) : Go p.tables e below Q (T.setTop (mkF m pc Ls (.long jy :: .long jx :: st))) := by
  subst hq hz; exact Go.st (XS.lsub X.here hx rfl hd rfl) kk
theorem g_lmul (X : Stand p l e R s m args below meth c T locs cells slots) (hx : p.tables.exec = Jvm.exec) (hd : decode c.code pc = .ok (.lmul, 1)) (hq : pc + 1 = q) (hz : jx * jy = jz) (kk : Go p.tables e below Q (T.setTop (mkF m q Ls (.long jz :: st)))) : Go p.tables e below Q (T.setTop (mkF m pc Ls (.long jy :: .long jx :: st))) := by
  subst hq hz; exact Go.st (XS.lmul X.here hx rfl hd rfl) kk
theorem g_land (X : Stand p l e R s m args below meth c T locs cells slots) (hx : p.tables.exec = Jvm.exec) (hd : decode c.code pc = .ok (.land, 1)) (hq : pc + 1 = q) (hz : jx &&& jy = jz) (kk : Go p.tables e below Q (T.setTop (mkF m q Ls (.long jz :: st)))) : Go p.tables e below Q (T.setTop (mkF m pc Ls (.long jy :: .long jx :: st))) := by
  subst hq hz; exact Go.st (XS.land X.here hx rfl hd rfl) kk
theorem g_lor (X : Stand p l e R s m args below meth c T locs cells slots) (hx : p.tables.exec = Jvm.exec) (hd : decode c.code pc = .ok (.lor, 1)) (hq : pc + 1 = q) (hz : jx ||| jy = jz) (kk : Go p.tables e below Q (T.setTop (mkF m q Ls (.long jz :: st)))) : Go p.tables e below Q (T.setTop (mkF m pc Ls (.long jy :: .long jx :: st))) := by
  subst hq hz; exact Go.st (XS.lor X.here hx rfl hd rfl) kk
theorem g_lxor (X : Stand p l e R s m args below meth c T locs cells slots) (hx : p.tables.exec = Jvm.exec) (hd : decode c.code pc = .ok (.lxor, 1)) (hq : pc + 1 = q) (hz : jx ^^^ jy = jz) (kk : Go p.tables e below Q (T.setTop (mkF m q Ls (.long jz :: st)))) : Go p.tables e below Q (T.setTop (mkF m pc Ls (.long jy :: .long jx :: st))) := by
  subst hq hz; exact Go.st (XS.lxor X.here hx rfl hd rfl) kk
theorem g_ldiv (X : Stand p l e R s m args below meth c T locs cells slots) (hx : p.tables.exec = Jvm.exec) (hd : decode c.code pc = .ok (.ldiv, 1)) (hq : pc + 1 = q) (hy : jy ≠ 0) (hz : jx / jy = jz) (kk : Go p.tables e below Q (T.setTop (mkF m q Ls (.long jz :: st)))) : Go p.tables e below Q (T.setTop (mkF m pc Ls (.long jy :: .long jx :: st))) := by
  subst hq hz; exact Go.st (XS.ldiv X.here hx rfl hd rfl hy) kk
theorem g_lrem (X : Stand p l e R s m args below meth c T locs cells slots) (hx : p.tables.exec = Jvm.exec) (hd : decode c.code pc = .ok (.lrem, 1)) (hq : pc + 1 = q) (hy : jy ≠ 0) (hz : jx - (jx / jy) * jy = jz) (kk : Go p.tables e below Q (T.setTop (mkF m q Ls (.long jz :: st)))) : Go p.tables e below Q (T.setTop (mkF m pc Ls (.long jy :: .long jx :: st))) := by
  subst hq hz; exact Go.st (XS.lrem X.here hx rfl hd rfl hy) kk
theorem g_lshl (X : Stand p l e R s m args below meth c T locs cells slots) (hx : p.tables.exec = Jvm.exec) (hd : decode c.code pc = .ok (.lshl, 1)) (hq : pc + 1 = q) (hz : jx <<< (y &&& 0x3f).toInt64 = jz) (kk : Go p.tables e below Q (T.setTop (mkF m q Ls (.long jz :: st)))) : Go p.tables e below Q (T.setTop (mkF m pc Ls (.int y :: .long jx :: st))) := by
  subst hq hz; exact Go.st (XS.lshl X.here hx rfl hd rfl) kk
theorem g_lshr (X : Stand p l e R s m args below meth c T locs cells slots) (hx : p.tables.exec = Jvm.exec) (hd : decode c.code pc = .ok (.lshr, 1)) (hq : pc + 1 = q) (hz : jx >>> (y &&& 0x3f).toInt64 = jz) (kk : Go p.tables e below Q (T.setTop (mkF m q Ls (.long jz :: st)))) : Go p.tables e below Q (T.setTop (mkF m pc Ls (.int y :: .long jx :: st))) := by
  subst hq hz; exact Go.st (XS.lshr X.here hx rfl hd rfl) kk
theorem g_lushr (X : Stand p l e R s m args below meth c T locs cells slots) (hx : p.tables.exec = Jvm.exec) (hd : decode c.code pc = .ok (.lushr, 1)) (hq : pc + 1 = q) (hz : (jx.toUInt64 >>> (y &&& 0x3f).toInt64.toUInt64).toInt64 = jz) (kk : Go p.tables e below Q (T.setTop (mkF m q Ls (.long jz :: st)))) : Go p.tables e below Q (T.setTop (mkF m pc Ls (.int y :: .long jx :: st))) := by
  subst hq hz; exact Go.st (XS.lushr X.here hx rfl hd rfl) kk
theorem g_lcmp (X : Stand p l e R s m args below meth c T locs cells slots) (hx : p.tables.exec = Jvm.exec) (hd : decode c.code pc = .ok (.lcmp, 1)) (hq : pc + 1 = q) (hz : lcmpW jx jy = z) (kk : Go p.tables e below Q (T.setTop (mkF m q Ls (.int z :: st)))) : Go p.tables e below Q (T.setTop (mkF m pc Ls (.long jy :: .long jx :: st))) := by
  subst hq hz; exact Go.st (XS.lcmp X.here hx rfl hd rfl) kk
theorem g_ineg (X : Stand p l e R s m args below meth c T locs cells slots) (hx : p.tables.exec = Jvm.exec) (hd : decode c.code pc = .ok (.ineg, 1)) (hq : pc + 1 = q) (hz : -x = z) (kk : Go p.tables e below Q (T.setTop (mkF m q Ls (.int z :: st)))) : Go p.tables e below Q (T.setTop (mkF m pc Ls (.int x :: st))) := by
  subst hq hz; exact Go.st (XS.ineg X.here hx rfl hd rfl) kk
theorem g_i2b (X : Stand p l e R s m args below meth c T locs cells slots) (hx : p.tables.exec = Jvm.exec) (hd : decode c.code pc = .ok (.i2b, 1)) (hq : pc + 1 = q) (hz : x.toInt8.toInt32 = z) (kk : Go p.tables e below Q (T.setTop (mkF m q Ls (.int z :: st)))) : Go p.tables e below Q (T.setTop (mkF m pc Ls (.int x :: st))) := by
  subst hq hz; exact Go.st (XS.i2b X.here hx rfl hd rfl) kk
theorem g_i2c (X : Stand p l e R s m args below meth c T locs cells slots) (hx : p.tables.exec = Jvm.exec) (hd : decode c.code pc = .ok (.i2c, 1)) (hq : pc + 1 = q) (hz : x.toUInt32.toUInt16.toUInt32.toInt32 = z) (kk : Go p.tables e below Q (T.setTop (mkF m q Ls (.int z :: st)))) : Go p.tables e below Q (T.setTop (mkF m pc Ls (.int x :: st))) := by
  subst hq hz; exact Go.st (XS.i2c X.here hx rfl hd rfl) kk
theorem g_i2s (X : Stand p l e R s m args below meth c T locs cells slots) (hx : p.tables.exec = Jvm.exec) (hd : decode c.code pc = .ok (.i2s, 1)) (hq : pc + 1 = q) (hz : x.toInt16.toInt32 = z) (kk : Go p.tables e below Q (T.setTop (mkF m q Ls (.int z :: st)))) : Go p.tables e below Q (T.setTop (mkF m pc Ls (.int x :: st))) := by
  subst hq hz; exact Go.st (XS.i2s X.here hx rfl hd rfl) kk
theorem g_i2l (X : Stand p l e R s m args below meth c T locs cells slots) (hx : p.tables.exec = Jvm.exec) (hd : decode c.code pc = .ok (.i2l, 1)) (hq : pc + 1 = q) (hz : x.toInt64 = jz) (kk : Go p.tables e below Q (T.setTop (mkF m q Ls (.long jz :: st)))) : Go p.tables e below Q (T.setTop (mkF m pc Ls (.int x :: st))) := by
  subst hq hz; exact Go.st (XS.i2l X.here hx rfl hd rfl) kk
theorem g_l2i (X : Stand p l e R s m args below meth c T locs cells slots) (hx : p.tables.exec = Jvm.exec) (hd : decode c.code pc = .ok (.l2i, 1)) (hq : pc + 1 = q) (hz : jx.toInt32 = z) (kk : Go p.tables e below Q (T.setTop (mkF m q Ls (.int z :: st)))) : Go p.tables e below Q (T.setTop (mkF m pc Ls (.long jx :: st))) := by
  subst hq hz; exact Go.st (XS.l2i X.here hx rfl hd rfl) kk
theorem g_lneg (X : Stand p l e R s m args below meth c T locs cells slots) (hx : p.tables.exec = Jvm.exec) (hd : decode c.code pc = .ok (.lneg, 1)) (hq : pc + 1 = q) (hz : -jx = jz) (kk : Go p.tables e below Q (T.setTop (mkF m q Ls (.long jz :: st)))) : Go p.tables e below Q (T.setTop (mkF m pc Ls (.long jx :: st))) := by
  subst hq hz; exact Go.st (XS.lneg X.here hx rfl hd rfl) kk
theorem g_iinc (X : Stand p l e R s m args below meth c T locs cells slots) (hx : p.tables.exec = Jvm.exec) {j : Int} (hd : decode c.code pc = .ok (.iinc k j, 3)) (hq : pc + 3 = q) (hl : Ls[k]? = some (.val (.int x))) (hz : x + Int32.ofInt j = z) (hl2 : storeLocals Ls k (.int z) = some Ls') (kk : Go p.tables e below Q (T.setTop (mkF m q Ls' st))) : Go p.tables e below Q (T.setTop (mkF m pc Ls st)) := by
  subst hq hz; exact Go.st (XS.iinc X.here hx rfl hd hl hl2) kk
theorem g_dup (X : Stand p l e R s m args below meth c T locs cells slots) (hx : p.tables.exec = Jvm.exec) (hd : decode c.code pc = .ok (.dup, 1)) (hq : pc + 1 = q) (hc : v.category = 1) (kk : Go p.tables e below Q (T.setTop (mkF m q Ls (v :: v :: st)))) : Go p.tables e below Q (T.setTop (mkF m pc Ls (v :: st))) := by
  subst hq; exact Go.st (XS.dup X.here hx rfl hd rfl hc) kk
theorem g_dupX1 (X : Stand p l e R s m args below meth c T locs cells slots) (hx : p.tables.exec = Jvm.exec) (hd : decode c.code pc = .ok (.dup_x1, 1)) (hq : pc + 1 = q) (hc : v.category = 1) (hc2 : w.category = 1) (kk : Go p.tables e below Q (T.setTop (mkF m q Ls (v :: w :: v :: st)))) : Go p.tables e below Q (T.setTop (mkF m pc Ls (v :: w :: st))) := by
  subst hq; exact Go.st (XS.dupX1 X.here hx rfl hd rfl hc hc2) kk
theorem g_dup2 (X : Stand p l e R s m args below meth c T locs cells slots) (hx : p.tables.exec = Jvm.exec) (hd : decode c.code pc = .ok (.dup2, 1)) (hq : pc + 1 = q) (hc : v.category = 1) (hc2 : w.category = 1) (kk : Go p.tables e below Q (T.setTop (mkF m q Ls (v :: w :: v :: w :: st)))) : Go p.tables e below Q (T.setTop (mkF m pc Ls (v :: w :: st))) := by
  subst hq; exact Go.st (Jvm.Free.XT.dup2 X.here hx rfl hd rfl hc hc2) kk
theorem g_dup2L (X : Stand p l e R s m args below meth c T locs cells slots) (hx : p.tables.exec = Jvm.exec) (hd : decode c.code pc = .ok (.dup2, 1)) (hq : pc + 1 = q) (kk : Go p.tables e below Q (T.setTop (mkF m q Ls (.long jx :: .long jx :: st)))) : Go p.tables e below Q (T.setTop (mkF m pc Ls (.long jx :: st))) := by
  subst hq; exact Go.st (Jvm.Free.XT.dup2L X.here hx rfl hd rfl) kk
theorem g_pop (X : Stand p l e R s m args below meth c T locs cells slots) (hx : p.tables.exec = Jvm.exec) (hd : decode c.code pc = .ok (.pop, 1)) (hq : pc + 1 = q) (hc : v.category = 1) (kk : Go p.tables e below Q (T.setTop (mkF m q Ls st))) : Go p.tables e below Q (T.setTop (mkF m pc Ls (v :: st))) := by
  subst hq; exact Go.st (XS.pop X.here hx rfl hd rfl hc) kk
theorem g_goto (X : Stand p l e R s m args below meth c T locs cells slots) (hx : p.tables.exec = Jvm.exec) {j : Int} (hd : decode c.code pc = .ok (.goto j, 3)) (ho : 0 ≤ (pc : Int) + j) (hp : ((pc : Int) + j).toNat = q) (kk : Go p.tables e below Q (T.setTop (mkF m q Ls st))) : Go p.tables e below Q (T.setTop (mkF m pc Ls st)) := by
  exact Go.st (XS.goto X.here hx rfl rfl hd ho hp) kk
theorem ifY (X : Stand p l e R s m args below meth c T locs cells slots) (hx : p.tables.exec = Jvm.exec) {j : Int} {cd : ClassFile.Cond} (hd : decode c.code pc = .ok (.ifCond cd j, 3)) (ho : 0 ≤ (pc : Int) + j) (hp : ((pc : Int) + j).toNat = q) (hc : ifCond.holds cd x = true) (kk : Go p.tables e below Q (T.setTop (mkF m q Ls st))) : Go p.tables e below Q (T.setTop (mkF m pc Ls (.int x :: st))) := by
  exact Go.st (XS.ifYes X.here hx rfl rfl hd rfl hc ho hp) kk
theorem ifN (X : Stand p l e R s m args below meth c T locs cells slots) (hx : p.tables.exec = Jvm.exec) {j : Int} {cd : ClassFile.Cond} (hd : decode c.code pc = .ok (.ifCond cd j, 3)) (hq : pc + 3 = q) (hc : ifCond.holds cd x = false) (kk : Go p.tables e below Q (T.setTop (mkF m q Ls st))) : Go p.tables e below Q (T.setTop (mkF m pc Ls (.int x :: st))) := by
  subst hq; exact Go.st (XS.ifNo X.here hx rfl hd rfl hc) kk
theorem icY (X : Stand p l e R s m args below meth c T locs cells slots) (hx : p.tables.exec = Jvm.exec) {j : Int} {cd : ClassFile.Cond} (hd : decode c.code pc = .ok (.if_icmp cd j, 3)) (ho : 0 ≤ (pc : Int) + j) (hp : ((pc : Int) + j).toNat = q) (hc : if_icmp.holds cd x y = true) (kk : Go p.tables e below Q (T.setTop (mkF m q Ls st))) : Go p.tables e below Q (T.setTop (mkF m pc Ls (.int y :: .int x :: st))) := by
  exact Go.st (XS.icmpYes X.here hx rfl rfl hd rfl hc ho hp) kk
theorem icN (X : Stand p l e R s m args below meth c T locs cells slots) (hx : p.tables.exec = Jvm.exec) {j : Int} {cd : ClassFile.Cond} (hd : decode c.code pc = .ok (.if_icmp cd j, 3)) (hq : pc + 3 = q) (hc : if_icmp.holds cd x y = false) (kk : Go p.tables e below Q (T.setTop (mkF m q Ls st))) : Go p.tables e below Q (T.setTop (mkF m pc Ls (.int y :: .int x :: st))) := by
  subst hq; exact Go.st (XS.icmpNo X.here hx rfl hd rfl hc) kk
theorem nlY (X : Stand p l e R s m args below meth c T locs cells slots) (hx : p.tables.exec = Jvm.exec) {j : Int} (hd : decode c.code pc = .ok (.ifnull j, 3)) (ho : 0 ≤ (pc : Int) + j) (hp : ((pc : Int) + j).toNat = q) (kk : Go p.tables e below Q (T.setTop (mkF m q Ls st))) : Go p.tables e below Q (T.setTop (mkF m pc Ls (.null :: st))) := by
  exact Go.st (XS.ifnullYes X.here hx rfl rfl hd rfl ho hp) kk
theorem nlN (X : Stand p l e R s m args below meth c T locs cells slots) (hx : p.tables.exec = Jvm.exec) {j : Int} (hd : decode c.code pc = .ok (.ifnull j, 3)) (hq : pc + 3 = q) (kk : Go p.tables e below Q (T.setTop (mkF m q Ls st))) : Go p.tables e below Q (T.setTop (mkF m pc Ls (.ref a :: st))) := by
  subst hq; exact Go.st (XS.ifnullNo X.here hx rfl hd rfl) kk
theorem nnY (X : Stand p l e R s m args below meth c T locs cells slots) (hx : p.tables.exec = Jvm.exec) {j : Int} (hd : decode c.code pc = .ok (.ifnonnull j, 3)) (ho : 0 ≤ (pc : Int) + j) (hp : ((pc : Int) + j).toNat = q) (kk : Go p.tables e below Q (T.setTop (mkF m q Ls st))) : Go p.tables e below Q (T.setTop (mkF m pc Ls (.ref a :: st))) := by
  exact Go.st (XS.ifnonnullYes X.here hx rfl rfl hd rfl ho hp) kk
theorem nnN (X : Stand p l e R s m args below meth c T locs cells slots) (hx : p.tables.exec = Jvm.exec) {j : Int} (hd : decode c.code pc = .ok (.ifnonnull j, 3)) (hq : pc + 3 = q) (kk : Go p.tables e below Q (T.setTop (mkF m q Ls st))) : Go p.tables e below Q (T.setTop (mkF m pc Ls (.null :: st))) := by
  subst hq; exact Go.st (XS.ifnonnullNo X.here hx rfl hd rfl) kk
theorem g_acmp (X : Stand p l e R s m args below meth c T locs cells slots) (hx : p.tables.exec = Jvm.exec) {j : Int} {cd : ACond} (hd : decode c.code pc = .ok (.if_acmp cd j, 3)) (h1 : v.isRef = true) (h2 : w.isRef = true) {same : Bool} (hs : decide (v = w) = same) (ho : 0 ≤ (pc : Int) + j) (hp : q = if acV cd same = true then ((pc : Int) + j).toNat else pc + 3) (kk : Go p.tables e below Q (T.setTop (mkF m q Ls st))) : Go p.tables e below Q (T.setTop (mkF m pc Ls (w :: v :: st))) := by
  exact Go.st (acmp X hx rfl h1 h2 rfl hd rfl hs ho hp) kk
theorem g_new (X : Stand p l e R s m args below meth c T locs cells slots) (hx : p.tables.exec = Jvm.exec) (hZ : Z.Warmed39 s.vm) (hown : s.vm.findClass own = some m.cls) (w1 : (Jvm.Cond.classLink own index C).before a0 Z = true) (w2 : (Jvm.Cond.instantiable C k).before a0 Z = true) (w3 : (Jvm.Cond.initialized C).before a0 Z = true) (hc : cells + 1 ≤ R.cells) (hl : slots + k ≤ R.slots) (eT : T.heap = h) (hd : decode c.code pc = .ok (.new index, 3)) (hq : pc + 3 = q) (kk : ∀ (T' : State) (h' : Heap) (b : Addr), b = h.size → Stand p l e R s m args below meth c T' locs (cells + 1) (slots + k) → T'.heap = h' → Ext h h' → Exa Z h' b C → (∀ {O nm d : String} {ty : FieldType}, Laid Z a0 C O nm d → parseFieldDescriptor d = some ty → Fld Z h' b O nm d (defaultValue ty)) → Go p.tables e below Q (T'.setTop (mkF m q Ls (.ref b :: st)))) : Go p.tables e below Q (T.setTop (mkF m pc Ls st)) := by
  subst hq
  obtain ⟨T', h', X', e', E', A', D', -, st'⟩ := newO X hx hZ hown w1 w2 w3 eT (g := mkF m pc Ls st) rfl hd hc hl
  exact Go.to st' (kk T' h' _ rfl X' e' E' A' D')
theorem g_newA (X : Stand p l e R s m args below meth c T locs cells slots) (hx : p.tables.exec = Jvm.exec) (hZ : Z.Warmed39 s.vm) {aty : ArrayType} (w1 : (Jvm.Cond.arrayClass (newarray.typeOf aty)).before a0 Z = true) (hn : ¬ z < 0) {n : Nat} (hk : z.toNatClampNeg = n) (hb : n * 8 ≤ 536870912) (hc : cells + 1 ≤ R.cells) (hl : slots + n ≤ R.slots) (eT : T.heap = h) (hd : decode c.code pc = .ok (.newarray aty, 2)) (hq : pc + 2 = q) (kk : ∀ (T' : State) (h' : Heap) (kc : ClassId) (b : Addr), b = h.size → Stand p l e R s m args below meth c T' locs (cells + 1) (slots + n) → T'.heap = h' → Ext h h' → Arv Z h' b kc (newarray.typeOf aty) z (List.replicate n (defaultValue (newarray.typeOf aty))) (defaultValue (newarray.typeOf aty)) → Go p.tables e below Q (T'.setTop (mkF m q Ls (.ref b :: st)))) : Go p.tables e below Q (T.setTop (mkF m pc Ls (.int z :: st))) := by
  subst hq
  obtain ⟨T', h', kc, X', e', E', V', st'⟩ := newArr X hx hZ w1 eT (g := mkF m pc Ls (.int z :: st)) rfl hd rfl hn hk hb hc hl
  exact Go.to st' (kk T' h' kc _ rfl X' e' E' V')
theorem g_stC (X : Stand p l e R s m args below meth c T locs cells slots) (hx : p.tables.exec = Jvm.exec) (hZ : Z.Warmed39 s.vm) (A : Arv Z h a kc .char z vs d) {j : Int32} (hj : j.toNatClampNeg = i) (h0 : ¬ j < 0) (hjz : j < z) (hi : i < vs.length) (hn : nar .char x = y) (eT : T.heap = h) (hd : decode c.code pc = .ok (.castore, 1)) (hq : pc + 1 = q) (kk : ∀ (T' : State) (h' : Heap), Stand p l e R s m args below meth c T' (locs ++ [⟨a, i⟩]) cells slots → T'.heap = h' → Wr h h' a i (.int y) → Arv Z h' a kc .char z (vs.set i (.int y)) d → Go p.tables e below Q (T'.setTop (mkF m q Ls st))) : Go p.tables e below Q (T.setTop (mkF m pc Ls (.int x :: .int j :: .ref a :: st))) := by
  subst hq
  obtain ⟨T', h', X', e', W', V', st'⟩ := setC X hx hZ eT A hj h0 hjz hi hn (g := mkF m pc Ls (.int x :: .int j :: .ref a :: st)) rfl rfl hd
  exact Go.to st' (kk T' h' X' e' W' V')
theorem g_stB (X : Stand p l e R s m args below meth c T locs cells slots) (hx : p.tables.exec = Jvm.exec) (hZ : Z.Warmed39 s.vm) (A : Arv Z h a kc .byte z vs d) {j : Int32} (hj : j.toNatClampNeg = i) (h0 : ¬ j < 0) (hjz : j < z) (hi : i < vs.length) (hn : nar .byte x = y) (eT : T.heap = h) (hd : decode c.code pc = .ok (.bastore, 1)) (hq : pc + 1 = q) (kk : ∀ (T' : State) (h' : Heap), Stand p l e R s m args below meth c T' (locs ++ [⟨a, i⟩]) cells slots → T'.heap = h' → Wr h h' a i (.int y) → Arv Z h' a kc .byte z (vs.set i (.int y)) d → Go p.tables e below Q (T'.setTop (mkF m q Ls st))) : Go p.tables e below Q (T.setTop (mkF m pc Ls (.int x :: .int j :: .ref a :: st))) := by
  subst hq
  obtain ⟨T', h', X', e', W', V', st'⟩ := setB X hx hZ eT A hj h0 hjz hi hn (g := mkF m pc Ls (.int x :: .int j :: .ref a :: st)) rfl rfl hd
  exact Go.to st' (kk T' h' X' e' W' V')
theorem g_stI (X : Stand p l e R s m args below meth c T locs cells slots) (hx : p.tables.exec = Jvm.exec) (hZ : Z.Warmed39 s.vm) (A : Arv Z h a kc .int z vs d) {j : Int32} (hj : j.toNatClampNeg = i) (h0 : ¬ j < 0) (hjz : j < z) (hi : i < vs.length) (eT : T.heap = h) (hd : decode c.code pc = .ok (.iastore, 1)) (hq : pc + 1 = q) (kk : ∀ (T' : State) (h' : Heap), Stand p l e R s m args below meth c T' (locs ++ [⟨a, i⟩]) cells slots → T'.heap = h' → Wr h h' a i (.int x) → Arv Z h' a kc .int z (vs.set i (.int x)) d → Go p.tables e below Q (T'.setTop (mkF m q Ls st))) : Go p.tables e below Q (T.setTop (mkF m pc Ls (.int x :: .int j :: .ref a :: st))) := by
  subst hq
  obtain ⟨T', h', X', e', W', V', st'⟩ := setI X hx hZ eT A hj h0 hjz hi  (g := mkF m pc Ls (.int x :: .int j :: .ref a :: st)) rfl rfl hd
  exact Go.to st' (kk T' h' X' e' W' V')
theorem g_stR (X : Stand p l e R s m args below meth c T locs cells slots) (hx : p.tables.exec = Jvm.exec) (hZ : Z.Warmed39 s.vm) (A : Arv Z h a kc ty z vs d) (hty : ty.isReference = true) (F : Sto Z h a v) (hfit : fits ty v = true) {j : Int32} (hj : j.toNatClampNeg = i) (h0 : ¬ j < 0) (hjz : j < z) (hi : i < vs.length) (eT : T.heap = h) (hd : decode c.code pc = .ok (.aastore, 1)) (hq : pc + 1 = q) (kk : ∀ (T' : State) (h' : Heap), Stand p l e R s m args below meth c T' (locs ++ [⟨a, i⟩]) cells slots → T'.heap = h' → Wr h h' a i v → Arv Z h' a kc ty z (vs.set i v) d → Go p.tables e below Q (T'.setTop (mkF m q Ls st))) : Go p.tables e below Q (T.setTop (mkF m pc Ls (v :: .int j :: .ref a :: st))) := by
  subst hq
  obtain ⟨T', h', X', e', W', V', st'⟩ := setR X hx hZ eT A hty F hfit hj h0 hjz hi (g := mkF m pc Ls (v :: .int j :: .ref a :: st)) rfl rfl hd
  exact Go.to st' (kk T' h' X' e' W' V')
theorem g_ldC (X : Stand p l e R s m args below meth c T locs cells slots) (hx : p.tables.exec = Jvm.exec) (hZ : Z.Warmed39 s.vm) (A : Arv Z h a kc .char z vs d) {j : Int32} (hj : j.toNatClampNeg = i) (h0 : ¬ j < 0) (hjz : j < z) (hv : vs.getD i d = v) (eT : T.heap = h) (hd : decode c.code pc = .ok (.caload, 1)) (hq : pc + 1 = q) (kk : Go p.tables e below Q (T.setTop (mkF m q Ls (v :: st)))) : Go p.tables e below Q (T.setTop (mkF m pc Ls (.int j :: .ref a :: st))) := by
  subst hq
  exact Go.to (ldC X hx hZ eT A hj h0 hjz hv (g := mkF m pc Ls (.int j :: .ref a :: st)) rfl rfl hd) kk
theorem g_ldB (X : Stand p l e R s m args below meth c T locs cells slots) (hx : p.tables.exec = Jvm.exec) (hZ : Z.Warmed39 s.vm) (A : Arv Z h a kc .byte z vs d) {j : Int32} (hj : j.toNatClampNeg = i) (h0 : ¬ j < 0) (hjz : j < z) (hv : vs.getD i d = v) (eT : T.heap = h) (hd : decode c.code pc = .ok (.baload, 1)) (hq : pc + 1 = q) (kk : Go p.tables e below Q (T.setTop (mkF m q Ls (v :: st)))) : Go p.tables e below Q (T.setTop (mkF m pc Ls (.int j :: .ref a :: st))) := by
  subst hq
  exact Go.to (ldB X hx hZ eT A hj h0 hjz hv (g := mkF m pc Ls (.int j :: .ref a :: st)) rfl rfl hd) kk
theorem g_ldI (X : Stand p l e R s m args below meth c T locs cells slots) (hx : p.tables.exec = Jvm.exec) (hZ : Z.Warmed39 s.vm) (A : Arv Z h a kc .int z vs d) {j : Int32} (hj : j.toNatClampNeg = i) (h0 : ¬ j < 0) (hjz : j < z) (hv : vs.getD i d = v) (eT : T.heap = h) (hd : decode c.code pc = .ok (.iaload, 1)) (hq : pc + 1 = q) (kk : Go p.tables e below Q (T.setTop (mkF m q Ls (v :: st)))) : Go p.tables e below Q (T.setTop (mkF m pc Ls (.int j :: .ref a :: st))) := by
  subst hq
  exact Go.to (ldI X hx hZ eT A hj h0 hjz hv (g := mkF m pc Ls (.int j :: .ref a :: st)) rfl rfl hd) kk
theorem g_ldR (X : Stand p l e R s m args below meth c T locs cells slots) (hx : p.tables.exec = Jvm.exec) (hZ : Z.Warmed39 s.vm) (A : Arv Z h a kc ty z vs d) (hty : ty.isReference = true) {j : Int32} (hj : j.toNatClampNeg = i) (h0 : ¬ j < 0) (hjz : j < z) (hv : vs.getD i d = v) (eT : T.heap = h) (hd : decode c.code pc = .ok (.aaload, 1)) (hq : pc + 1 = q) (kk : Go p.tables e below Q (T.setTop (mkF m q Ls (v :: st)))) : Go p.tables e below Q (T.setTop (mkF m pc Ls (.int j :: .ref a :: st))) := by
  subst hq
  exact Go.to (ldR X hx hZ eT A hty hj h0 hjz hv (g := mkF m pc Ls (.int j :: .ref a :: st)) rfl rfl hd) kk
theorem g_len (X : Stand p l e R s m args below meth c T locs cells slots) (hx : p.tables.exec = Jvm.exec) (hZ : Z.Warmed39 s.vm) (A : Arv Z h a kc ty z vs d) (eT : T.heap = h) (hd : decode c.code pc = .ok (.arraylength, 1)) (hq : pc + 1 = q) (kk : Go p.tables e below Q (T.setTop (mkF m q Ls (.int z :: st)))) : Go p.tables e below Q (T.setTop (mkF m pc Ls (.ref a :: st))) := by
  subst hq
  exact Go.to (alen X hx hZ eT A (g := mkF m pc Ls (.ref a :: st)) rfl rfl hd) kk
theorem g_getF (X : Stand p l e R s m args below meth c T locs cells slots) (hx : p.tables.exec = Jvm.exec) (hZ : Z.Warmed39 s.vm) (hown : s.vm.findClass own = some m.cls) {R0 host : String} (wl : (Jvm.Cond.fieldLink own index R0 f dd).before a0 Z = true ∨ (Jvm.Cond.fieldLinkNest own index R0 f dd host).before a0 Z = true) (via : Via Z R0 O f dd) (F : Fld Z h a O f dd v) (eT : T.heap = h) (hd : decode c.code pc = .ok (.getfield index, 3)) (hq : pc + 3 = q) (kk : ∀ (T' : State), Stand p l e R s m args below meth c T' locs cells slots → T'.heap = h → Go p.tables e below Q (T'.setTop (mkF m q Ls (v :: st)))) : Go p.tables e below Q (T.setTop (mkF m pc Ls (.ref a :: st))) := by
  subst hq
  obtain ⟨T', X', e', st'⟩ := getF X hx hZ hown wl via eT F (g := mkF m pc Ls (.ref a :: st)) rfl rfl hd
  exact Go.to st' (kk T' X' e')
theorem g_putF (X : Stand p l e R s m args below meth c T locs cells slots) (hx : p.tables.exec = Jvm.exec) (hZ : Z.Warmed39 s.vm) (hown : s.vm.findClass own = some m.cls) {R0 host : String} {kk2 : Nat} (wl : (Jvm.Cond.fieldLink own index R0 f dd).before a0 Z = true ∨ (Jvm.Cond.fieldLinkNest own index R0 f dd host).before a0 Z = true) (via : Via Z R0 O f dd) {old : Value} (F : Fld Z h a O f dd old) (E : Exa Z h a C) (L : (Jvm.Cond.lays C O f dd).before a0 Z = true ∨ ((Jvm.Cond.laysFinal C O f dd).before a0 Z = true ∧ own = O ∧ meth.name = "<init>")) (wi : (Jvm.Cond.instantiable C kk2).before a0 Z = true) (hty : parseFieldDescriptor dd = some ty) (hn : narrow ty v = v) (hf : fits ty v = true) (eT : T.heap = h) (hd : decode c.code pc = .ok (.putfield index, 3)) (hq : pc + 3 = q) (kk : ∀ (T' : State) (h' : Heap), Stand p l e R s m args below meth c T' (locs ++ [⟨a, Jvm.RoadKit.slotOf Z O f dd⟩]) cells slots → T'.heap = h' → Wr h h' a (Jvm.RoadKit.slotOf Z O f dd) v → Go p.tables e below Q (T'.setTop (mkF m q Ls st))) : Go p.tables e below Q (T.setTop (mkF m pc Ls (v :: .ref a :: st))) := by
  subst hq
  obtain ⟨T', h', X', e', W', st'⟩ := putF X hx hZ hown wl via eT F E L wi hty hn hf (g := mkF m pc Ls (v :: .ref a :: st)) rfl rfl hd
  exact Go.to st' (kk T' h' X' e' W')
theorem g_getS (X : Stand p l e R s m args below meth c T locs cells slots) (hx : p.tables.exec = Jvm.exec) (hZ : Z.Warmed39 s.vm) (hown : s.vm.findClass own = some m.cls) {R0 host : String} (wl : (Jvm.Cond.fieldLink own index R0 f dd).before a0 Z = true ∨ (Jvm.Cond.fieldLinkNest own index R0 f dd host).before a0 Z = true) (via : Via Z R0 O f dd) (F : Sta Z h O f dd v) (eT : T.heap = h) (hd : decode c.code pc = .ok (.getstatic index, 3)) (hq : pc + 3 = q) (kk : ∀ (T' : State), Stand p l e R s m args below meth c T' locs cells slots → T'.heap = h → Go p.tables e below Q (T'.setTop (mkF m q Ls (v :: st)))) : Go p.tables e below Q (T.setTop (mkF m pc Ls st)) := by
  subst hq
  obtain ⟨T', X', e', st'⟩ := getS2 X hx hZ hown wl via eT F (g := mkF m pc Ls st) rfl hd
  exact Go.to st' (kk T' X' e')
theorem g_cast (X : Stand p l e R s m args below meth c T locs cells slots) (hx : p.tables.exec = Jvm.exec) (hZ : Z.Warmed39 s.vm) (hown : s.vm.findClass own = some m.cls) {K : String} (w1 : (Jvm.Cond.classLink own index K).before a0 Z = true) (I : Ins Z h a K true) (eT : T.heap = h) (hd : decode c.code pc = .ok (.checkcast index, 3)) (hq : pc + 3 = q) (kk : ∀ (T' : State), Stand p l e R s m args below meth c T' locs cells slots → T'.heap = h → Go p.tables e below Q (T'.setTop (mkF m q Ls (.ref a :: st)))) : Go p.tables e below Q (T.setTop (mkF m pc Ls (.ref a :: st))) := by
  subst hq
  obtain ⟨T', X', e', st'⟩ := castY X hx hZ hown w1 eT I (g := mkF m pc Ls (.ref a :: st)) rfl rfl hd
  exact Go.to st' (kk T' X' e')
theorem g_insY (X : Stand p l e R s m args below meth c T locs cells slots) (hx : p.tables.exec = Jvm.exec) (hZ : Z.Warmed39 s.vm) (hown : s.vm.findClass own = some m.cls) {K : String} (w1 : (Jvm.Cond.classLink own index K).before a0 Z = true) (I : Ins Z h a K true) (eT : T.heap = h) (hd : decode c.code pc = .ok (.instanceof index, 3)) (hq : pc + 3 = q) (kk : ∀ (T' : State), Stand p l e R s m args below meth c T' locs cells slots → T'.heap = h → Go p.tables e below Q (T'.setTop (mkF m q Ls (.int 1 :: st)))) : Go p.tables e below Q (T.setTop (mkF m pc Ls (.ref a :: st))) := by
  subst hq
  obtain ⟨T', X', e', st'⟩ := instY X hx hZ hown w1 eT I (g := mkF m pc Ls (.ref a :: st)) rfl rfl hd
  exact Go.to st' (kk T' X' e')
theorem g_insN (X : Stand p l e R s m args below meth c T locs cells slots) (hx : p.tables.exec = Jvm.exec) (hZ : Z.Warmed39 s.vm) (hown : s.vm.findClass own = some m.cls) {K : String} (w1 : (Jvm.Cond.classLink own index K).before a0 Z = true) (E : Exa Z h a C) (F : ∃ c t, Z.vm.findClass C = some c ∧ Z.vm.findClass K = some t ∧ Z.vm.assignable c t = false) (eT : T.heap = h) (hd : decode c.code pc = .ok (.instanceof index, 3)) (hq : pc + 3 = q) (kk : ∀ (T' : State), Stand p l e R s m args below meth c T' locs cells slots → T'.heap = h → Go p.tables e below Q (T'.setTop (mkF m q Ls (.int 0 :: st)))) : Go p.tables e below Q (T.setTop (mkF m pc Ls (.ref a :: st))) := by
  subst hq
  obtain ⟨T', X', e', st'⟩ := instNo X hx hZ hown w1 eT E F (g := mkF m pc Ls (.ref a :: st)) rfl rfl hd
  exact Go.to st' (kk T' X' e')
theorem g_init0 (X : Stand p l e R s m args below meth c T locs cells slots) (hx : p.tables.exec = Jvm.exec) (hZ : Z.Warmed39 s.vm) (hown : s.vm.findClass own = some m.cls) (w1 : (Jvm.Cond.methodLink own index Lib.objectInit).before a0 Z = true) (w2 : (Jvm.Cond.instanceMethod Lib.objectInit).before a0 Z = true) (w3 : (Jvm.Cond.code Lib.objectInit ⟨#[0xb1]⟩ 1 none).before a0 Z = true) (hsize : Ls.size = c.maxLocals) (hf : 1 ≤ R.frames) {W : Nat} (hW : (st.map fun v => v.category).sum ≤ W) (hl : W + 12 ≤ R.locals) (eT : T.heap = h) (hd : decode c.code pc = .ok (.invokespecial index, 3)) (hq : pc + 3 = q) (kk : ∀ (T' : State), Stand p l e R s m args below meth c T' locs cells slots → T'.heap = h → Go p.tables e below Q (T'.setTop (mkF m q Ls st))) : Go p.tables e below Q (T.setTop (mkF m pc Ls (.ref a :: st))) := by
  subst hq
  obtain ⟨T', X', e', st'⟩ := initO X hx hZ hown w1 w2 w3 eT (g := mkF m pc Ls (.ref a :: st)) rfl hsize rfl hd hf (W := W) (by show 2 * 0 + _ ≤ _; omega) hl
  exact Go.to st' (kk T' X' e')
theorem g_ldc {vm0 : Vm} (X : Stand p l e R (s.setVm vm0) m args below meth c T locs cells slots) (hx : p.tables.exec = Jvm.exec) (hZ : Z.Warmed39 vm0) (hown : vm0.findClass own = some m.cls) {text : String} (w : (Jvm.Cond.stringLink own index text).before a0 Z = true) (wS : ∀ a ∈ Bundle.stringAtoms, a.before a0 Z = true) {k0 : Nat} (hS : s.Since vm0 k0) (hk : k0 ≤ h.size) (hEL : EW Z a0 EL) (hmem : (own, index) ∈ EL) (H : CHv Z EL vm0 h) (ht : (∀ c ∈ text.toList, c.toNat < 256) ∧ text.toList.map (fun c => Value.int (Jvm.Lit.byteI c.toNat.toUInt16)) = vs) (hz : ¬ z < 0) (hl : z.toNatClampNeg = vs.length) {n : Nat} (hn : 4 * text.toList.length ≤ n) (hbig : n ≤ 536870912) (hc : cells + 2 ≤ R.cells) (hl' : slots + (n + 4) ≤ R.slots) (eT : T.heap = h) (hd : decode c.code pc = .ok (.ldc index, 2)) (hq : pc + 2 = q) (kk : ∀ (a : Addr) (T' : State) (h' : Heap) (k1 : Nat) (b : Addr) (k : ClassId), Stand p l e R (s.setVm T'.vm) m args below meth c T' locs (cells + 2) (slots + (n + 4)) → T'.heap = h' → Ext h h' → s.Since T'.vm k1 → k1 ≤ h'.size → Z.Warmed39 T'.vm → T'.vm.findClass own = some m.cls → Exa Z h' a "java/lang/String" → Fld Z h' a "java/lang/String" "coder" "B" (.int 0) → Fld Z h' a "java/lang/String" "value" "[B" (.ref b) → Arv Z h' b k .byte z vs (.int 0) → a < h'.size → b < h'.size → CHr Z EL vm0 h T'.vm h' → (∀ x, Safe Z EL T'.vm h' x → x ≠ a ∧ x ≠ b) → Go p.tables e below Q (T'.setTop (mkF m q Ls (.ref a :: st)))) : Go p.tables e below Q (T.setTop (mkF m pc Ls st)) := by
  subst hq
  obtain ⟨a, T', h', k1, b, k, X', e', E', S', hk', hZ', ho', A', F1, F2, V', l1, l2, R', -, sn, st'⟩ := ldcCH X hx hZ hown w wS eT hS hk hEL hmem H ht hz hl (g := mkF m pc Ls st) rfl hd hn hbig hc hl'
  exact Go.to st' (kk a T' h' k1 b k X' e' E' S' hk' hZ' ho' A' F1 F2 V' l1 l2 R' sn)
theorem g_ldcI (X : Stand p l e R s m args below meth c T locs cells slots) (hx : p.tables.exec = Jvm.exec) {a1 : Array Value} (hZ : Z.Warmed39 s.vm) (hown : s.vm.findClass own = some m.cls) (w : (Jvm.Cond.constant own index z).before a0 Z = true) (hd : decode c.code pc = .ok (.ldc index, 2)) (hq : pc + 2 = q) (kk : Go p.tables e below Q (T.setTop (mkF m q Ls (.int z :: st)))) : Go p.tables e below Q (T.setTop (mkF m pc Ls st)) := by
  subst hq; exact Go.to (X.ldcInt hx hown (mvT hZ w) (g := mkF m pc Ls st) rfl hd) kk
theorem g_sp {y : MethodName} {bytes : ByteArray} {maxL : Nat} {W nk ns : Nat} {argsL st0 : List Value} {Qc : Option Value → Heap → List Loc → Prop} (X : Stand p l e R s m args below meth c T locs cells slots) (hx : p.tables.exec = Jvm.exec) (hZ : Z.Warmed39 s.vm) (hown : s.vm.findClass own = some m.cls) (w1 : (Jvm.Cond.methodLink own index y).before a0 Z = true) (w2 : (Jvm.Cond.instanceMethod y).before a0 Z = true) (w3 : (Jvm.Cond.code y bytes maxL none).before a0 Z = true) (hy1 : y.name = "<init>") (hyc : y.cls ≠ "java/lang/invoke/MethodHandle" ∧ y.cls ≠ "java/lang/invoke/VarHandle") (eT : T.heap = h) (hK : BackQ l R p e below s args y 3 W ((.ref a :: argsL).toArray) h nk ns Qc) (hsize : Ls.size = c.maxLocals) (hlen : ∀ sig, parseMethodDescriptor y.desc = some sig → argsL.length = sig.parameters.length) (hst : st0 = argsL.reverse ++ .ref a :: st) (hW : (st.map fun v => v.category).sum ≤ W) (hd : decode c.code pc = .ok (.invokespecial index, 3)) (hq : pc + 3 = q) (hc : cells + nk ≤ R.cells) (hs : slots + ns ≤ R.slots) (kk : ∀ (v : Option Value) (T' : State) (L : List Loc), Stand p l e R s m args below meth c T' (locs ++ L) (cells + nk) (slots + ns) → Qc v T'.heap L → Go p.tables e below Q (T'.setTop (mkF m q Ls (v.toList ++ st)))) : Go p.tables e below Q (T.setTop (mkF m pc Ls st0)) := by
  subst hq
  obtain ⟨v, T', L, X', hQ, st'⟩ := callSp X hx hZ hown hy1 w1 w2 w3 hyc eT hK (g := mkF m pc Ls st0) rfl hsize hlen hst (by show 2 * 0 + _ ≤ _; omega) hd hc hs
  exact Go.run st' (kk v T' L X' hQ)
theorem g_st {y : MethodName} {bytes : ByteArray} {maxL : Nat} {ret : Option FieldType} {W nk ns : Nat} {argsL st0 : List Value} {Qc : Option Value → Heap → List Loc → Prop} (X : Stand p l e R s m args below meth c T locs cells slots) (hx : p.tables.exec = Jvm.exec) (hZ : Z.Warmed39 s.vm) (hown : s.vm.findClass own = some m.cls) (w1 : (Jvm.Cond.methodLink own index y).before a0 Z = true) (w2 : (Jvm.Cond.static y).before a0 Z = true) (w3 : (Jvm.Cond.initialized y.cls).before a0 Z = true) (w4 : (Jvm.Cond.code y bytes maxL ret).before a0 Z = true) (hyc : y.cls ≠ "java/lang/invoke/MethodHandle" ∧ y.cls ≠ "java/lang/invoke/VarHandle") (eT : T.heap = h) (hK : BackQ l R p e below s args y 3 W (argsL.toArray) h nk ns Qc) (hsize : Ls.size = c.maxLocals) (hlen : ∀ sig, parseMethodDescriptor y.desc = some sig → argsL.length = sig.parameters.length) (hst : st0 = argsL.reverse ++ st) (hW : (st.map fun v => v.category).sum ≤ W) (hd : decode c.code pc = .ok (.invokestatic index, 3)) (hq : pc + 3 = q) (hc : cells + nk ≤ R.cells) (hs : slots + ns ≤ R.slots) (kk : ∀ (v : Option Value) (T' : State) (L : List Loc), Stand p l e R s m args below meth c T' (locs ++ L) (cells + nk) (slots + ns) → Qc v T'.heap L → Go p.tables e below Q (T'.setTop (mkF m q Ls (v.toList ++ st)))) : Go p.tables e below Q (T.setTop (mkF m pc Ls st0)) := by
  subst hq
  obtain ⟨v, T', L, X', hQ, st'⟩ := callSt X hx hZ hown w1 w2 w3 w4 hyc eT hK (g := mkF m pc Ls st0) rfl hsize hlen hst (by show 2 * 0 + _ ≤ _; omega) hd hc hs
  exact Go.run st' (kk v T' L X' hQ)
theorem g_vi {y z : MethodName} {W nk ns : Nat} {argsL st0 : List Value} {Qc : Option Value → Heap → List Loc → Prop} (X : Stand p l e R s m args below meth c T locs cells slots) (hx : p.tables.exec = Jvm.exec) (hZ : Z.Warmed39 s.vm) (hown : s.vm.findClass own = some m.cls) (w1 : (Jvm.Cond.methodLink own index y).before a0 Z = true) (w2 : (Jvm.Cond.declares y).before a0 Z = true) (nf : NotFace s y) (w4 : (Jvm.Cond.selects C y z).before a0 Z = true) (w5 : (Jvm.Cond.instanceMethod z).before a0 Z = true) (hyc : y.cls ≠ "java/lang/invoke/MethodHandle" ∧ y.cls ≠ "java/lang/invoke/VarHandle") (E : Exa Z h a C) (eT : T.heap = h) (hK : BackQ l R p e below s args z 3 W ((.ref a :: argsL).toArray) h nk ns Qc) (hsize : Ls.size = c.maxLocals) (hlen : ∀ sig, parseMethodDescriptor y.desc = some sig → argsL.length = sig.parameters.length) (hst : st0 = argsL.reverse ++ .ref a :: st) (hW : (st.map fun v => v.category).sum ≤ W) (hd : decode c.code pc = .ok (.invokevirtual index, 3)) (hq : pc + 3 = q) (hc : cells + nk ≤ R.cells) (hs : slots + ns ≤ R.slots) (kk : ∀ (v : Option Value) (T' : State) (L : List Loc), Stand p l e R s m args below meth c T' (locs ++ L) (cells + nk) (slots + ns) → Qc v T'.heap L → Go p.tables e below Q (T'.setTop (mkF m q Ls (v.toList ++ st)))) : Go p.tables e below Q (T.setTop (mkF m pc Ls st0)) := by
  subst hq
  obtain ⟨v, T', L, X', hQ, st'⟩ := callVi X hx hZ hown w1 w2 nf w4 w5 hyc eT E hK (g := mkF m pc Ls st0) rfl hsize hlen hst (by show 2 * 0 + _ ≤ _; omega) hd hc hs
  exact Go.run st' (kk v T' L X' hQ)
theorem g_vu {y z : MethodName} {W nk ns : Nat} {argsL st0 : List Value} {Qc : Option Value → Heap → List Loc → Prop} (X : Stand p l e R s m args below meth c T locs cells slots) (hx : p.tables.exec = Jvm.exec) (hZ : Z.Warmed39 s.vm) (hown : s.vm.findClass own = some m.cls) {owner : String} (w1 : (Jvm.Cond.methodLink own index y).before a0 Z = true) (w2 : (Jvm.Cond.sameMethod y.cls owner y.name y.desc).before a0 Z = true) (w3 : (Jvm.Cond.declares ⟨owner, y.name, y.desc⟩).before a0 Z = true) (hyc : owner ≠ "java/lang/invoke/MethodHandle" ∧ owner ≠ "java/lang/invoke/VarHandle") (w4 : (Jvm.Cond.selects C y z).before a0 Z = true) (w5 : (Jvm.Cond.instanceMethod z).before a0 Z = true) (E : Exa Z h a C) (eT : T.heap = h) (hK : BackQ l R p e below s args z 3 W ((.ref a :: argsL).toArray) h nk ns Qc) (hsize : Ls.size = c.maxLocals) (hlen : ∀ sig, parseMethodDescriptor y.desc = some sig → argsL.length = sig.parameters.length) (hst : st0 = argsL.reverse ++ .ref a :: st) (hW : (st.map fun v => v.category).sum ≤ W) (hd : decode c.code pc = .ok (.invokevirtual index, 3)) (hq : pc + 3 = q) (hc : cells + nk ≤ R.cells) (hs : slots + ns ≤ R.slots) (kk : ∀ (v : Option Value) (T' : State) (L : List Loc), Stand p l e R s m args below meth c T' (locs ++ L) (cells + nk) (slots + ns) → Qc v T'.heap L → Go p.tables e below Q (T'.setTop (mkF m q Ls (v.toList ++ st)))) : Go p.tables e below Q (T.setTop (mkF m pc Ls st0)) := by
  subst hq
  obtain ⟨v, T', L, X', hQ, st'⟩ := callVu X hx hZ hown w1 w2 w3 hyc w4 w5 eT E hK (g := mkF m pc Ls st0) rfl hsize hlen hst (by show 2 * 0 + _ ≤ _; omega) hd hc hs
  exact Go.run st' (kk v T' L X' hQ)
theorem g_if {y z : MethodName} {W nk ns : Nat} {argsL st0 : List Value} {Qc : Option Value → Heap → List Loc → Prop} {count : Nat} (X : Stand p l e R s m args below meth c T locs cells slots) (hx : p.tables.exec = Jvm.exec) (hZ : Z.Warmed39 s.vm) (hown : s.vm.findClass own = some m.cls) (w1 : (Jvm.Cond.methodLink own index y).before a0 Z = true) (w2 : (Jvm.Cond.declares y).before a0 Z = true) (w3 : (Jvm.Cond.interfaceMethod y.cls y.cls y.name y.desc).before a0 Z = true) (h3 : ((Jvm.Cond.interfaceMethod y.cls y.cls y.name y.desc).onTables && (Jvm.Cond.interfaceMethod y.cls y.cls y.name y.desc).keepsFace) = true) (w4 : (Jvm.Cond.selects C y z).before a0 Z = true) (w5 : (Jvm.Cond.instanceMethod z).before a0 Z = true) (w6 : (Jvm.Cond.publicMethod z).before a0 Z = true) (w7 : (Jvm.Cond.unhidden C y.name y.desc).before a0 Z = true) (w8 : (Jvm.Cond.castable C y.cls).before a0 Z = true) (hyc : y.cls ≠ "java/lang/invoke/MethodHandle" ∧ y.cls ≠ "java/lang/invoke/VarHandle") (E : Exa Z h a C) (eT : T.heap = h) (hK : BackQ l R p e below s args z 5 W ((.ref a :: argsL).toArray) h nk ns Qc) (hsize : Ls.size = c.maxLocals) (hlen : ∀ sig, parseMethodDescriptor y.desc = some sig → argsL.length = sig.parameters.length) (hst : st0 = argsL.reverse ++ .ref a :: st) (hW : (st.map fun v => v.category).sum ≤ W) (hd : decode c.code pc = .ok (.invokeinterface index count, 5)) (hq : pc + 5 = q) (hc : cells + nk ≤ R.cells) (hs : slots + ns ≤ R.slots) (kk : ∀ (v : Option Value) (T' : State) (L : List Loc), Stand p l e R s m args below meth c T' (locs ++ L) (cells + nk) (slots + ns) → Qc v T'.heap L → Go p.tables e below Q (T'.setTop (mkF m q Ls (v.toList ++ st)))) : Go p.tables e below Q (T.setTop (mkF m pc Ls st0)) := by
  subst hq
  obtain ⟨v, T', L, X', hQ, st'⟩ := callIf X hx hZ hown w1 w2 w3 h3 w4 w5 w6 w7 w8 hyc eT E hK (g := mkF m pc Ls st0) rfl hsize hlen hst (by show 2 * 0 + _ ≤ _; omega) hd hc hs
  exact Go.run st' (kk v T' L X' hQ)
theorem g_spS {vm0 : Vm} {y : MethodName} {bytes : ByteArray} {maxL : Nat} {W nk ns : Nat} {argsL st0 : List Value} {Qc : Option Value → Heap → List Loc → Prop} (X : Stand p l e R (s.setVm vm0) m args below meth c T locs cells slots) (hx : p.tables.exec = Jvm.exec) (hZ : Z.Warmed39 vm0) (hown : vm0.findClass own = some m.cls) {n0 : Nat} (hS : s.Since vm0 n0) (hk : n0 ≤ h.size) (w1 : (Jvm.Cond.methodLink own index y).before a0 Z = true) (w2 : (Jvm.Cond.instanceMethod y).before a0 Z = true) (w3 : (Jvm.Cond.code y bytes maxL none).before a0 Z = true) (hy1 : y.name = "<init>") (hyc : y.cls ≠ "java/lang/invoke/MethodHandle" ∧ y.cls ≠ "java/lang/invoke/VarHandle") (eT : T.heap = h) (hK : BackSQ l R p e below s vm0 args y 3 W ((.ref a :: argsL).toArray) h nk ns Z EL Qc) (hsize : Ls.size = c.maxLocals) (hlen : ∀ sig, parseMethodDescriptor y.desc = some sig → argsL.length = sig.parameters.length) (hst : st0 = argsL.reverse ++ .ref a :: st) (hW : (st.map fun v => v.category).sum ≤ W) (hd : decode c.code pc = .ok (.invokespecial index, 3)) (hq : pc + 3 = q) (hc : cells + nk ≤ R.cells) (hs : slots + ns ≤ R.slots) (kk : ∀ (v : Option Value) (T' : State) (L : List Loc), AfterS p l e R s m args below meth c Z EL own vm0 h T' (locs ++ L) (cells + nk) (slots + ns) → Qc v T'.heap L → Go p.tables e below Q (T'.setTop (mkF m q Ls (v.toList ++ st)))) : Go p.tables e below Q (T.setTop (mkF m pc Ls st0)) := by
  subst hq
  obtain ⟨v, T', L, X', hQ, st'⟩ := callSpS X hx hZ hown hS hk hy1 w1 w2 w3 hyc eT hK (g := mkF m pc Ls st0) rfl hsize hlen hst (by show 2 * 0 + _ ≤ _; omega) hd hc hs
  exact Go.run st' (kk v T' L X' hQ)
theorem g_stS {vm0 : Vm} {y : MethodName} {bytes : ByteArray} {maxL : Nat} {ret : Option FieldType} {W nk ns : Nat} {argsL st0 : List Value} {Qc : Option Value → Heap → List Loc → Prop} (X : Stand p l e R (s.setVm vm0) m args below meth c T locs cells slots) (hx : p.tables.exec = Jvm.exec) (hZ : Z.Warmed39 vm0) (hown : vm0.findClass own = some m.cls) {n0 : Nat} (hS : s.Since vm0 n0) (hk : n0 ≤ h.size) (w1 : (Jvm.Cond.methodLink own index y).before a0 Z = true) (w2 : (Jvm.Cond.static y).before a0 Z = true) (w3 : (Jvm.Cond.initialized y.cls).before a0 Z = true) (w4 : (Jvm.Cond.code y bytes maxL ret).before a0 Z = true) (hyc : y.cls ≠ "java/lang/invoke/MethodHandle" ∧ y.cls ≠ "java/lang/invoke/VarHandle") (eT : T.heap = h) (hK : BackSQ l R p e below s vm0 args y 3 W (argsL.toArray) h nk ns Z EL Qc) (hsize : Ls.size = c.maxLocals) (hlen : ∀ sig, parseMethodDescriptor y.desc = some sig → argsL.length = sig.parameters.length) (hst : st0 = argsL.reverse ++ st) (hW : (st.map fun v => v.category).sum ≤ W) (hd : decode c.code pc = .ok (.invokestatic index, 3)) (hq : pc + 3 = q) (hc : cells + nk ≤ R.cells) (hs : slots + ns ≤ R.slots) (kk : ∀ (v : Option Value) (T' : State) (L : List Loc), AfterS p l e R s m args below meth c Z EL own vm0 h T' (locs ++ L) (cells + nk) (slots + ns) → Qc v T'.heap L → Go p.tables e below Q (T'.setTop (mkF m q Ls (v.toList ++ st)))) : Go p.tables e below Q (T.setTop (mkF m pc Ls st0)) := by
  subst hq
  obtain ⟨v, T', L, X', hQ, st'⟩ := callStS X hx hZ hown hS hk w1 w2 w3 w4 hyc eT hK (g := mkF m pc Ls st0) rfl hsize hlen hst (by show 2 * 0 + _ ≤ _; omega) hd hc hs
  exact Go.run st' (kk v T' L X' hQ)
theorem g_viS {vm0 : Vm} {y z : MethodName} {W nk ns : Nat} {argsL st0 : List Value} {Qc : Option Value → Heap → List Loc → Prop} (X : Stand p l e R (s.setVm vm0) m args below meth c T locs cells slots) (hx : p.tables.exec = Jvm.exec) (hZ : Z.Warmed39 vm0) (hown : vm0.findClass own = some m.cls) {n0 : Nat} (hS : s.Since vm0 n0) (hk : n0 ≤ h.size) (w1 : (Jvm.Cond.methodLink own index y).before a0 Z = true) (w2 : (Jvm.Cond.declares y).before a0 Z = true) (nf : NotFace (s.setVm vm0) y) (w4 : (Jvm.Cond.selects C y z).before a0 Z = true) (w5 : (Jvm.Cond.instanceMethod z).before a0 Z = true) (hyc : y.cls ≠ "java/lang/invoke/MethodHandle" ∧ y.cls ≠ "java/lang/invoke/VarHandle") (E : Exa Z h a C) (eT : T.heap = h) (hK : BackSQ l R p e below s vm0 args z 3 W ((.ref a :: argsL).toArray) h nk ns Z EL Qc) (hsize : Ls.size = c.maxLocals) (hlen : ∀ sig, parseMethodDescriptor y.desc = some sig → argsL.length = sig.parameters.length) (hst : st0 = argsL.reverse ++ .ref a :: st) (hW : (st.map fun v => v.category).sum ≤ W) (hd : decode c.code pc = .ok (.invokevirtual index, 3)) (hq : pc + 3 = q) (hc : cells + nk ≤ R.cells) (hs : slots + ns ≤ R.slots) (kk : ∀ (v : Option Value) (T' : State) (L : List Loc), AfterS p l e R s m args below meth c Z EL own vm0 h T' (locs ++ L) (cells + nk) (slots + ns) → Qc v T'.heap L → Go p.tables e below Q (T'.setTop (mkF m q Ls (v.toList ++ st)))) : Go p.tables e below Q (T.setTop (mkF m pc Ls st0)) := by
  subst hq
  obtain ⟨v, T', L, X', hQ, st'⟩ := callViS X hx hZ hown hS hk w1 w2 nf w4 w5 hyc eT E hK (g := mkF m pc Ls st0) rfl hsize hlen hst (by show 2 * 0 + _ ≤ _; omega) hd hc hs
  exact Go.run st' (kk v T' L X' hQ)
theorem g_newR (X : Stand p l e R s m args below meth c T locs cells slots) (hx : p.tables.exec = Jvm.exec) (hZ : Z.Warmed39 s.vm) (hown : s.vm.findClass own = some m.cls) (w1 : (Jvm.Cond.classLink own index C).before a0 Z = true) (w2 : (Jvm.Cond.arrayOver (.object C)).before a0 Z = true) {ad : String} (had : "[" ++ (FieldType.object C).toString = ad) (hn : ¬ z < 0) {n : Nat} (hk : z.toNatClampNeg = n) (hb : n * 8 ≤ 536870912) (hc : cells + 1 ≤ R.cells) (hl : slots + n ≤ R.slots) (eT : T.heap = h) (hd : decode c.code pc = .ok (.anewarray index, 3)) (hq : pc + 3 = q) (kk : ∀ (T' : State) (h' : Heap) (kc : ClassId) (b : Addr), b = h.size → Stand p l e R s m args below meth c T' locs (cells + 1) (slots + n) → T'.heap = h' → Ext h h' → Arv Z h' b kc (.object C) z (List.replicate n .null) .null → Exa Z h' b ad → Ovr Z kc C → Go p.tables e below Q (T'.setTop (mkF m q Ls (.ref b :: st)))) : Go p.tables e below Q (T.setTop (mkF m pc Ls (.int z :: st))) := by
  subst hq
  obtain ⟨T', h', kc, X', e', E', A', Ea, O', st'⟩ := newRE X hx hZ hown w1 w2 eT (g := mkF m pc Ls (.int z :: st)) rfl hd rfl hn (cap := n) (Nat.le_of_eq hk) hb hc hl had
  have V0 : Arv Z h' h.size kc (.object C) z [] Value.null := Arv.new A' hn
  exact Go.to st' (kk T' h' kc _ rfl X' e' E' (V0.pad (fun i => by have := pad_rep [] Value.null n i; simpa using this)) Ea O')
theorem g_gcls (X : Stand p l e R s m args below meth c T locs cells slots) (hx : p.tables.exec = Jvm.exec) (hZ : Z.Warmed39 s.vm) (hown : s.vm.findClass own = some m.cls) (w1 : (Jvm.Cond.methodLink own index ⟨"java/lang/Object", "getClass", "()Ljava/lang/Class;"⟩).before a0 Z = true) (w2 : (Jvm.Cond.declares ⟨"java/lang/Object", "getClass", "()Ljava/lang/Class;"⟩).before a0 Z = true) (w3 : (Jvm.Cond.noSuperclass "java/lang/Object").before a0 Z = true) (w4 : (Jvm.Cond.selects C ⟨"java/lang/Object", "getClass", "()Ljava/lang/Class;"⟩ ⟨"java/lang/Object", "getClass", "()Ljava/lang/Class;"⟩).before a0 Z = true) (w5 : (Jvm.Cond.instanceMethod ⟨"java/lang/Object", "getClass", "()Ljava/lang/Class;"⟩).before a0 Z = true) (w6 : (Jvm.Cond.native ⟨"java/lang/Object", "getClass", "()Ljava/lang/Class;"⟩).before a0 Z = true) (E : Exa Z h a C) {mr : Addr} (M : Mir Z C mr) (hsize : Ls.size = c.maxLocals) (hf : 1 ≤ R.frames) {W : Nat} (hW : (st.map fun v => v.category).sum ≤ W) (hl : W + (nativeFrameWords "java/lang/Object" "getClass" 1 + 11) ≤ R.locals) (eT : T.heap = h) (hd : decode c.code pc = .ok (.invokevirtual index, 3)) (hq : pc + 3 = q) (kk : ∀ (T' : State), Stand p l e R s m args below meth c T' locs cells slots → T'.heap = h → Go p.tables e below Q (T'.setTop (mkF m q Ls (.ref mr :: st)))) : Go p.tables e below Q (T.setTop (mkF m pc Ls (.ref a :: st))) := by
  subst hq
  obtain ⟨T', X', e', st'⟩ := gcls X hx hZ hown w1 w2 w3 w4 w5 w6 eT E M (g := mkF m pc Ls (.ref a :: st)) rfl hsize rfl hd hf (W := W) (by show 2 * 0 + _ ≤ _; omega) hl
  exact Go.to st' (kk T' X' e')
theorem g_ldcM (X : Stand p l e R s m args below meth c T locs cells slots) (hx : p.tables.exec = Jvm.exec) (hZ : Z.Warmed39 s.vm) (hown : s.vm.findClass own = some m.cls) (w1 : (Jvm.Cond.classLink own index C).before a0 Z = true) {mr : Addr} (M : Mir Z C mr) (eT : T.heap = h) (hd : decode c.code pc = .ok (.ldc index, 2)) (hq : pc + 2 = q) (kk : ∀ (T' : State), Stand p l e R s m args below meth c T' locs cells slots → T'.heap = h → Go p.tables e below Q (T'.setTop (mkF m q Ls (.ref mr :: st)))) : Go p.tables e below Q (T.setTop (mkF m pc Ls st)) := by
  subst hq
  have hev : (Term.mirror C).eval args s none [] s = some (.ref mr) := by
    obtain ⟨cc, kc, m1, m2, m3, -⟩ := M
    obtain ⟨k', q1, ek⟩ := hZ.alike.2.2 _ _ m2
    have q2 : s.vm.findClass C = some cc := by rw [hZ.alike.findClass]; exact m1
    have q3 : k'.mirror = some mr := by rw [ek]; exact m3
    simp [Term.eval, q2, q1, q3]
  obtain ⟨vm', X', st'⟩ := X.ldcMirror hx hown (mvT hZ w1) hev (g := mkF m pc Ls st) rfl hd
  exact Go.to st' (kk _ X' eT)
theorem g_cp (X : Stand p l e R s m args below meth c T locs cells slots) (hx : p.tables.exec = Jvm.exec) (hZ : Z.Warmed39 s.vm) (hown : s.vm.findClass own = some m.cls) (w1 : (Jvm.Cond.methodLink own index Jvm.Stand.acN).before a0 Z = true) (w2 : (Jvm.Cond.native Jvm.Stand.acN).before a0 Z = true) (w3 : (Jvm.Cond.static Jvm.Stand.acN).before a0 Z = true) (w4 : (Jvm.Cond.initialized "java/lang/System").before a0 Z = true) {b : Addr} {k' : ClassId} {ty' : FieldType} {z' sp dp nn : Int32} {vd us : List Value} {d2 : Value} (A : Arv Z h a kc ty z vs d) (B : Arv Z h b k' ty' z' vd d2) (hty : (ty = ty' ∧ refKind ty = false) ∨ (refKind ty = true ∧ refKind ty' = true ∧ StoL Z h b us)) (h1 : ¬ sp < 0) (h2 : ¬ dp < 0) (h3 : ¬ nn < 0) (h4 : sp.toNatClampNeg + nn.toNatClampNeg ≤ z.toNatClampNeg) (h5 : dp.toNatClampNeg + nn.toNatClampNeg ≤ z'.toNatClampNeg) (hus : us = (List.range nn.toNatClampNeg).map fun i => vs.getD (sp.toNatClampNeg + i) d) (hl : dp.toNatClampNeg + nn.toNatClampNeg ≤ vd.length) {n0 : Nat} (N : Fr n0 locs) (ge : n0 ≤ b) (hsize : Ls.size = c.maxLocals) (hf : 1 ≤ R.frames) {W : Nat} (hW : (st.map fun v => v.category).sum ≤ W) (hlo : W + (nativeFrameWords "java/lang/System" "arraycopy" 5 + 11) ≤ R.locals) (eT : T.heap = h) (hd : decode c.code pc = .ok (.invokestatic index, 3)) (hq : pc + 3 = q) (kk : ∀ (T' : State) (h' : Heap) (L : List Loc), Stand p l e R s m args below meth c T' L cells slots → T'.heap = h' → Fr n0 L → Keep h h' [b] → Arv Z h' b k' ty' z' (vd.take dp.toNatClampNeg ++ us ++ vd.drop (dp.toNatClampNeg + nn.toNatClampNeg)) d2 → Go p.tables e below Q (T'.setTop (mkF m q Ls st))) : Go p.tables e below Q (T.setTop (mkF m pc Ls (.int nn :: .int dp :: .ref b :: .int sp :: .ref a :: st))) := by
  subst hq
  obtain ⟨T', h', L, X', e', N', K', V', st'⟩ := cpA X hx hZ hown w1 w2 w3 w4 eT A B hty h1 h2 h3 h4 h5 hus hl N ge (g := mkF m pc Ls (.int nn :: .int dp :: .ref b :: .int sp :: .ref a :: st)) rfl hsize rfl hd hf (W := W) (by show 2 * 0 + _ ≤ _; omega) hlo
  exact Go.to st' (kk T' h' L X' e' N' K' V')
theorem g_tsw (X : Stand p l e R s m args below meth c T locs cells slots) (hx : p.tables.exec = Jvm.exec) {dflt low high : Int} {offs : Array Int} {len : Nat} {j : Int} (hd : decode c.code pc = .ok (.tableswitch dflt low high offs, len)) (hin : ¬ (x.toInt < low ∨ x.toInt > high)) (hoff : offs[(x.toInt - low).toNat]? = some j) (ho : 0 ≤ (pc : Int) + j) (hp : ((pc : Int) + j).toNat = q) (kk : Go p.tables e below Q (T.setTop (mkF m q Ls st))) : Go p.tables e below Q (T.setTop (mkF m pc Ls (.int x :: st))) :=
  Go.st (S' := T.setTop (mkF m q Ls st)) (fun {t} hr => XS.tswIn (g := mkF m pc Ls (.int x :: st)) (pc0 := pc) (pc' := q) X.here hx rfl rfl hd rfl hin hoff ho hp hr) kk
theorem g_pv {y : MethodName} {bytes : ByteArray} {maxL : Nat} {ret : Option FieldType} {W nk ns : Nat} {argsL st0 : List Value} {Qc : Option Value → Heap → List Loc → Prop} (X : Stand p l e R s m args below meth c T locs cells slots) (hx : p.tables.exec = Jvm.exec) (hZ : Z.Warmed39 s.vm) (hown : s.vm.findClass own = some m.cls) (w1 : (Jvm.Cond.methodLink own index y).before a0 Z = true) (w2 : (Jvm.Cond.instanceMethod y).before a0 Z = true) (w3 : (Jvm.Cond.selects y.cls y y).before a0 Z = true) (w4 : (Jvm.Cond.privateMethod y).before a0 Z = true) (w5 : (Jvm.Cond.code y bytes maxL ret).before a0 Z = true) (hyc : y.cls ≠ "java/lang/invoke/MethodHandle" ∧ y.cls ≠ "java/lang/invoke/VarHandle") (E : Exa Z h a C) (eT : T.heap = h) (hK : BackQ l R p e below s args y 3 W (.ref a :: argsL).toArray h nk ns Qc) (hsize : Ls.size = c.maxLocals) (hlen : ∀ sig, parseMethodDescriptor y.desc = some sig → argsL.length = sig.parameters.length) (hst : st0 = argsL.reverse ++ .ref a :: st) (hW : (st.map fun v => v.category).sum ≤ W) (hd : decode c.code pc = .ok (.invokevirtual index, 3)) (hq : pc + 3 = q) (hc : cells + nk ≤ R.cells) (hs : slots + ns ≤ R.slots) (kk : ∀ (v : Option Value) (T' : State) (L : List Loc), Stand p l e R s m args below meth c T' (locs ++ L) (cells + nk) (slots + ns) → Qc v T'.heap L → Go p.tables e below Q (T'.setTop (mkF m q Ls (v.toList ++ st)))) : Go p.tables e below Q (T.setTop (mkF m pc Ls st0)) := by
  subst hq
  obtain ⟨cq, q1, q2⟩ := E.cell
  obtain ⟨v, vm1, ⟨T', L', k', n'⟩, -, X', ⟨L, hQ, rfl, rfl, rfl⟩, st'⟩ := X.privateBack hx hown (mvT hZ w1) (mvT hZ w2) (mvT hZ w3) (Cond.privateMethod_at (mvP hZ w4 (args := #[]))) (mvT hZ w5) hyc hK (g := mkF m pc Ls st0) rfl hsize (Steps.refl _) (a := a) (by rw [eT]; exact q1) q2 hlen hst (by show 2 * 0 + _ ≤ _; omega) hd (fun _ _ => ⟨rfl, eT, hc, hs⟩)
  exact Go.run st' (kk v T' L X' hQ)
end Steps1
end Jvm.OwnKit
namespace Jvm.Pilot.@@N@@
open Jvm Jvm.ClassFile Sem Op Lib Jvm.Free Jvm.Stand Jvm.LawKit Jvm.RoadKit Jvm.OwnKit Bundle Jvm.Pilot.@@N@@.Jvm.D
def chr (x : Int32) : Int32 := (x &&& 255).toUInt32.toUInt16.toUInt32.toInt32
theorem chr_eq (x : Int32) : chr x = x &&& 255 := i2c_mask x
theorem chr_rng (x : Int32) : ¬ chr x < 0 ∧ ¬ (255 : Int32) < chr x := by
  rw [chr_eq]
  have h := c_mask x 255 8 (by decide) (by decide)
  simp only [Int32.lt_iff_toInt_lt]
  have h0 : (0 : Int32).toInt = 0 := by decide
  have h1 : (255 : Int32).toInt = 255 := by decide
  rw [h, h0, h1]
  have : (2 ^ 8 : Nat) = 256 := by decide
  omega
theorem chr_nar (x : Int32) : nar .char (chr x) = chr x := by simp only [nar, chr, UInt32.toUInt32_toInt32, UInt16.toUInt16_toUInt32]
theorem al0 {P : Int32 → Prop} : ∀ c ∈ ([] : List Int32), P c := fun _ q => nomatch q
theorem alS {P : Int32 → Prop} {y : Int32} {L : List Int32} (q : P y) (r : ∀ x ∈ L, P x) : ∀ x ∈ y :: L, P x := fun x z => (List.mem_cons.mp z).elim (fun u => u ▸ q) (r x)
theorem shr_zero (x : Int32) : x >>> ((0 : Int32) &&& 31) = x := by
  rw [show ((0 : Int32) &&& 31) = 0 from by decide]
  exact Int32.toInt_inj.mp (by rw [show x >>> (0 : Int32) = x >>> ((0 : Int32) &&& 31) from by rw [show ((0 : Int32) &&& 31) = 0 from by decide], c_ishr x 0 0 (by decide)]; simp)
abbrev EL : List (String × Nat) := [("com/example/handoff/handoff/internal/Payload", 34), ("java/lang/String", 7)]
theorem wd18 {a0 : Array Value} {Z : State} (hw : ∀ d ∈ tables_1, d.before a0 Z = true) : ((Jvm.Cond.stringLink "java/lang/String" (7 : Nat) "") : Jvm.Cond).before a0 Z = true := hw _ (List.mem_of_getElem? (i := 18) rfl)
theorem wd32 {a0 : Array Value} {Z : State} (hw : ∀ d ∈ tables_1, d.before a0 Z = true) : ((Jvm.Cond.stringLink "com/example/handoff/handoff/internal/Payload" (34 : Nat) "contentType") : Jvm.Cond).before a0 Z = true := hw _ (List.mem_of_getElem? (i := 32) rfl)
theorem own_EW {a0 : Array Value} {Z : State} (hw : ∀ d ∈ tables_1, d.before a0 Z = true) : EW Z a0 EL := EW.cons (wd32 hw) (by decide) (EW.cons (wd18 hw) (by decide) (EW.nil))
theorem own_wS {a0 : Array Value} {Z : State} (hw : ∀ d ∈ tables_1, d.before a0 Z = true) : ∀ d ∈ Bundle.stringAtoms, d.before a0 Z = true := fun d hd => hw d ((by decide +kernel : ∀ d ∈ Bundle.stringAtoms, d ∈ tables_1) d hd)
theorem own_wStr {a0 : Array Value} {Z : State} (hw : ∀ d ∈ tables_1, d.before a0 Z = true) : ∀ d ∈ StrChars.Road.words, d.before a0 Z = true := fun d hd => hw d ((by decide +kernel : ∀ d ∈ StrChars.Road.words, d ∈ tables_1) d hd)
theorem d_method_2_0 : decode method_2_code 0 = .ok (.iload_n 1, 1) := by decide +kernel
theorem d_method_2_1 : decode method_2_code 1 = .ok (.sipush 255, 3) := by decide +kernel
theorem d_method_2_4 : decode method_2_code 4 = .ok (.iand, 1) := by decide +kernel
theorem d_method_2_5 : decode method_2_code 5 = .ok (.i2c, 1) := by decide +kernel
theorem d_method_2_6 : decode method_2_code 6 = .ok (.istore_n 2, 1) := by decide +kernel
theorem d_method_2_7 : decode method_2_code 7 = .ok (.iload_n 1, 1) := by decide +kernel
theorem d_method_2_8 : decode method_2_code 8 = .ok (.bipush 8, 2) := by decide +kernel
theorem d_method_2_10 : decode method_2_code 10 = .ok (.iushr, 1) := by decide +kernel
theorem d_method_2_11 : decode method_2_code 11 = .ok (.sipush 255, 3) := by decide +kernel
theorem d_method_2_14 : decode method_2_code 14 = .ok (.iand, 1) := by decide +kernel
theorem d_method_2_15 : decode method_2_code 15 = .ok (.i2c, 1) := by decide +kernel
theorem d_method_2_16 : decode method_2_code 16 = .ok (.istore_n 3, 1) := by decide +kernel
theorem d_method_2_17 : decode method_2_code 17 = .ok (.iload_n 1, 1) := by decide +kernel
theorem d_method_2_18 : decode method_2_code 18 = .ok (.bipush 16, 2) := by decide +kernel
theorem d_method_2_20 : decode method_2_code 20 = .ok (.iushr, 1) := by decide +kernel
theorem d_method_2_21 : decode method_2_code 21 = .ok (.sipush 255, 3) := by decide +kernel
theorem d_method_2_24 : decode method_2_code 24 = .ok (.iand, 1) := by decide +kernel
theorem d_method_2_25 : decode method_2_code 25 = .ok (.i2c, 1) := by decide +kernel
theorem d_method_2_26 : decode method_2_code 26 = .ok (.istore 4, 2) := by decide +kernel
theorem d_method_2_28 : decode method_2_code 28 = .ok (.iload_n 1, 1) := by decide +kernel
theorem d_method_2_29 : decode method_2_code 29 = .ok (.bipush 24, 2) := by decide +kernel
theorem d_method_2_31 : decode method_2_code 31 = .ok (.iushr, 1) := by decide +kernel
theorem d_method_2_32 : decode method_2_code 32 = .ok (.sipush 255, 3) := by decide +kernel
theorem d_method_2_35 : decode method_2_code 35 = .ok (.iand, 1) := by decide +kernel
theorem d_method_2_36 : decode method_2_code 36 = .ok (.i2c, 1) := by decide +kernel
theorem d_method_2_37 : decode method_2_code 37 = .ok (.istore 5, 2) := by decide +kernel
theorem d_method_2_39 : decode method_2_code 39 = .ok (.iload_n 0, 1) := by decide +kernel
theorem d_method_2_40 : decode method_2_code 40 = .ok (.ifCond .ne 7, 3) := by decide +kernel
theorem d_method_2_43 : decode method_2_code 43 = .ok (.iconst 0, 1) := by decide +kernel
theorem d_method_2_44 : decode method_2_code 44 = .ok (.newarray .char, 2) := by decide +kernel
theorem wd7 {a0 : Array Value} {Z : State} (hw : ∀ d ∈ tables_1, d.before a0 Z = true) : ((Jvm.Cond.arrayClass Jvm.ClassFile.FieldType.char) : Jvm.Cond).before a0 Z = true := hw _ (List.mem_of_getElem? (i := 7) rfl)
theorem d_method_2_46 : decode method_2_code 46 = .ok (.areturn, 1) := by decide +kernel
def Q_chars0 (Z : State) (p1 : Int32) (h0 : Heap) (v : Option Value) (h : Heap) (L : List Loc) : Prop := ∃ (a : Addr), ∃ (kc : ClassId), ∃ (cs : List Int32), v = some (.ref a) ∧ Fr Z.heap.size L ∧ Keep h0 h [] ∧ h0.size ≤ a ∧ Arv Z h a kc .char (0 : Int32) (cs.map Value.int) (.int 0) ∧ (cs.length = 0) ∧ (∀ c ∈ cs, ¬ c < 0 ∧ ¬ (255 : Int32) < c)
theorem pn0 : plainName "com/example/handoff/handoff/internal/PayloadEmptyPinLaw" = true := by first | (simp [plainName, overriddenIn]; done) | decide +kernel
set_option maxRecDepth 65536 in
set_option maxHeartbeats 40000000 in
theorem rm_chars0 (l : Launch) (Z : State) (a0 : Array Value) (hw : ∀ d ∈ tables_1, d.before a0 Z = true) (zC : Int32) (SC : Sta Z Z.heap "java/lang/String" "COMPACT_STRINGS" "Z" (.int zC)) (PC : ¬ zC = (0 : Int32)) (p1 : Int32) (h0 : Heap) (O0 : Old Z Z.heap.size h0)  :
    Con l Z (⟨"com/example/handoff/handoff/internal/PayloadEmptyPinLaw", "chars", "(II)[C"⟩ : MethodName) method_2_code 6 (some (.array .char)) ({ frames := 0, cells := 1, slots := 0, locals := 0 } : Room) #[(.int (0 : Int32)), (.int p1)] h0 (Q_chars0 Z p1 h0) := by
  refine Con.intro pn0 ?_
  intro p e s m below meth c T0 X0 hx hby hml hown0 hnm hret hlk hZ0 e0
  have N0 := Fr.nil Z.heap.size
  refine castGo (g' := mkF m 0 #[.val (.int (0 : Int32)), .val (.int p1), .unset, .unset, .unset, .unset] []) (by first | rfl | (simp [entryFrame, mkF, argsToLocals, Value.category]; done)) ?_
  show Go _ _ _ _ (T0.setTop (mkF m 0 #[.val (.int (0 : Int32)), .val (.int p1), .unset, .unset, .unset, .unset] []))
  refine iL X0 hx (hb hby d_method_2_0) (q := 1) rfl rfl ?_
  refine pI X0 hx (hb hby d_method_2_1) (q := 4) rfl (z := (255 : Int32)) rfl ?_
  refine g_iand X0 hx (hb hby d_method_2_4) (q := 5) rfl rfl ?_
  refine g_i2c X0 hx (hb hby d_method_2_5) (q := 6) rfl (z := (chr p1)) rfl ?_
  refine sI X0 hx (hb hby d_method_2_6) (q := 7) rfl (Ls' := #[.val (.int (0 : Int32)), .val (.int p1), .val (.int (chr p1)), .unset, .unset, .unset]) rfl ?_
  refine iL X0 hx (hb hby d_method_2_7) (q := 8) rfl rfl ?_
  refine bI X0 hx (hb hby d_method_2_8) (q := 10) rfl (z := (8 : Int32)) rfl ?_
  refine g_iushr X0 hx (hb hby d_method_2_10) (q := 11) rfl rfl ?_
  refine pI X0 hx (hb hby d_method_2_11) (q := 14) rfl (z := (255 : Int32)) rfl ?_
  refine g_iand X0 hx (hb hby d_method_2_14) (q := 15) rfl rfl ?_
  refine g_i2c X0 hx (hb hby d_method_2_15) (q := 16) rfl (z := (chr ((p1.toUInt32 >>> ((8 : Int32) &&& 31).toUInt32).toInt32))) rfl ?_
  refine sI X0 hx (hb hby d_method_2_16) (q := 17) rfl (Ls' := #[.val (.int (0 : Int32)), .val (.int p1), .val (.int (chr p1)), .val (.int (chr ((p1.toUInt32 >>> ((8 : Int32) &&& 31).toUInt32).toInt32))), .unset, .unset]) rfl ?_
  refine iL X0 hx (hb hby d_method_2_17) (q := 18) rfl rfl ?_
  refine bI X0 hx (hb hby d_method_2_18) (q := 20) rfl (z := (16 : Int32)) rfl ?_
  refine g_iushr X0 hx (hb hby d_method_2_20) (q := 21) rfl rfl ?_
  refine pI X0 hx (hb hby d_method_2_21) (q := 24) rfl (z := (255 : Int32)) rfl ?_
  refine g_iand X0 hx (hb hby d_method_2_24) (q := 25) rfl rfl ?_
  refine g_i2c X0 hx (hb hby d_method_2_25) (q := 26) rfl (z := (chr ((p1.toUInt32 >>> ((16 : Int32) &&& 31).toUInt32).toInt32))) rfl ?_
  refine sIw X0 hx (hb hby d_method_2_26) (q := 28) rfl (Ls' := #[.val (.int (0 : Int32)), .val (.int p1), .val (.int (chr p1)), .val (.int (chr ((p1.toUInt32 >>> ((8 : Int32) &&& 31).toUInt32).toInt32))), .val (.int (chr ((p1.toUInt32 >>> ((16 : Int32) &&& 31).toUInt32).toInt32))), .unset]) rfl ?_
  refine iL X0 hx (hb hby d_method_2_28) (q := 29) rfl rfl ?_
  refine bI X0 hx (hb hby d_method_2_29) (q := 31) rfl (z := (24 : Int32)) rfl ?_
  refine g_iushr X0 hx (hb hby d_method_2_31) (q := 32) rfl rfl ?_
  refine pI X0 hx (hb hby d_method_2_32) (q := 35) rfl (z := (255 : Int32)) rfl ?_
  refine g_iand X0 hx (hb hby d_method_2_35) (q := 36) rfl rfl ?_
  refine g_i2c X0 hx (hb hby d_method_2_36) (q := 37) rfl (z := (chr ((p1.toUInt32 >>> ((24 : Int32) &&& 31).toUInt32).toInt32))) rfl ?_
  refine sIw X0 hx (hb hby d_method_2_37) (q := 39) rfl (Ls' := #[.val (.int (0 : Int32)), .val (.int p1), .val (.int (chr p1)), .val (.int (chr ((p1.toUInt32 >>> ((8 : Int32) &&& 31).toUInt32).toInt32))), .val (.int (chr ((p1.toUInt32 >>> ((16 : Int32) &&& 31).toUInt32).toInt32))), .val (.int (chr ((p1.toUInt32 >>> ((24 : Int32) &&& 31).toUInt32).toInt32)))]) rfl ?_
  refine iL X0 hx (hb hby d_method_2_39) (q := 40) rfl rfl ?_
  refine ifN X0 hx (hb hby d_method_2_40) (q := 43) rfl (by decide) ?_
  refine cI X0 hx (hb hby d_method_2_43) (q := 44) rfl (z := (0 : Int32)) rfl ?_
  refine g_newA X0 hx hZ0 (aty := .char) (wd7 hw) (by decide) (n := 0) (by decide) (by decide) (by decide) (by decide) e0 (hb hby d_method_2_44) (q := 46) rfl ?_
  intro T1 h1 k1 b1 g1 X1 e1 E1 V1
  have Va1 : Arv Z h1 b1 k1 .char (0 : Int32) [] (.int 0) := V1
  have K2 : Keep h0 h1 [] := (Keep.refl h0 []).ext E1
  have gh3 : h0.size ≤ b1 := Nat.le_trans (Nat.le_refl _) (Nat.le_of_eq g1.symm)
  refine endP X1 hlk (fun h => by rw [hret] at h; cases h) (lastA X1 hx hret rfl rfl rfl (hb hby d_method_2_46)) ?_ (by decide) (by decide)
  rw [e1]
  exact ⟨b1, k1, [], rfl, N0, K2, gh3, Va1, rfl, al0⟩
theorem d_method_2_47 : decode method_2_code 47 = .ok (.iload_n 0, 1) := by decide +kernel
theorem d_method_2_48 : decode method_2_code 48 = .ok (.iconst 1, 1) := by decide +kernel
theorem d_method_2_49 : decode method_2_code 49 = .ok (.if_icmp .ne 11, 3) := by decide +kernel
theorem d_method_2_52 : decode method_2_code 52 = .ok (.iconst 1, 1) := by decide +kernel
theorem d_method_2_53 : decode method_2_code 53 = .ok (.newarray .char, 2) := by decide +kernel
theorem d_method_2_55 : decode method_2_code 55 = .ok (.dup, 1) := by decide +kernel
theorem d_method_2_56 : decode method_2_code 56 = .ok (.iconst 0, 1) := by decide +kernel
theorem d_method_2_57 : decode method_2_code 57 = .ok (.iload_n 2, 1) := by decide +kernel
theorem d_method_2_58 : decode method_2_code 58 = .ok (.castore, 1) := by decide +kernel
theorem d_method_2_59 : decode method_2_code 59 = .ok (.areturn, 1) := by decide +kernel
def Q_chars1 (Z : State) (p1 : Int32) (h0 : Heap) (v : Option Value) (h : Heap) (L : List Loc) : Prop := ∃ (a : Addr), ∃ (kc : ClassId), ∃ (cs : List Int32), v = some (.ref a) ∧ Fr Z.heap.size L ∧ Keep h0 h [] ∧ h0.size ≤ a ∧ Arv Z h a kc .char (1 : Int32) (cs.map Value.int) (.int 0) ∧ (cs.length = 1) ∧ (∀ c ∈ cs, ¬ c < 0 ∧ ¬ (255 : Int32) < c)
set_option maxRecDepth 65536 in
set_option maxHeartbeats 40000000 in
theorem rm_chars1 (l : Launch) (Z : State) (a0 : Array Value) (hw : ∀ d ∈ tables_1, d.before a0 Z = true) (zC : Int32) (SC : Sta Z Z.heap "java/lang/String" "COMPACT_STRINGS" "Z" (.int zC)) (PC : ¬ zC = (0 : Int32)) (p1 : Int32) (h0 : Heap) (O0 : Old Z Z.heap.size h0)  :
    Con l Z (⟨"com/example/handoff/handoff/internal/PayloadEmptyPinLaw", "chars", "(II)[C"⟩ : MethodName) method_2_code 6 (some (.array .char)) ({ frames := 0, cells := 1, slots := 1, locals := 0 } : Room) #[(.int (1 : Int32)), (.int p1)] h0 (Q_chars1 Z p1 h0) := by
  refine Con.intro pn0 ?_
  intro p e s m below meth c T0 X0 hx hby hml hown0 hnm hret hlk hZ0 e0
  have N0 := Fr.nil Z.heap.size
  refine castGo (g' := mkF m 0 #[.val (.int (1 : Int32)), .val (.int p1), .unset, .unset, .unset, .unset] []) (by first | rfl | (simp [entryFrame, mkF, argsToLocals, Value.category]; done)) ?_
  show Go _ _ _ _ (T0.setTop (mkF m 0 #[.val (.int (1 : Int32)), .val (.int p1), .unset, .unset, .unset, .unset] []))
  refine iL X0 hx (hb hby d_method_2_0) (q := 1) rfl rfl ?_
  refine pI X0 hx (hb hby d_method_2_1) (q := 4) rfl (z := (255 : Int32)) rfl ?_
  refine g_iand X0 hx (hb hby d_method_2_4) (q := 5) rfl rfl ?_
  refine g_i2c X0 hx (hb hby d_method_2_5) (q := 6) rfl (z := (chr p1)) rfl ?_
  refine sI X0 hx (hb hby d_method_2_6) (q := 7) rfl (Ls' := #[.val (.int (1 : Int32)), .val (.int p1), .val (.int (chr p1)), .unset, .unset, .unset]) rfl ?_
  refine iL X0 hx (hb hby d_method_2_7) (q := 8) rfl rfl ?_
  refine bI X0 hx (hb hby d_method_2_8) (q := 10) rfl (z := (8 : Int32)) rfl ?_
  refine g_iushr X0 hx (hb hby d_method_2_10) (q := 11) rfl rfl ?_
  refine pI X0 hx (hb hby d_method_2_11) (q := 14) rfl (z := (255 : Int32)) rfl ?_
  refine g_iand X0 hx (hb hby d_method_2_14) (q := 15) rfl rfl ?_
  refine g_i2c X0 hx (hb hby d_method_2_15) (q := 16) rfl (z := (chr ((p1.toUInt32 >>> ((8 : Int32) &&& 31).toUInt32).toInt32))) rfl ?_
  refine sI X0 hx (hb hby d_method_2_16) (q := 17) rfl (Ls' := #[.val (.int (1 : Int32)), .val (.int p1), .val (.int (chr p1)), .val (.int (chr ((p1.toUInt32 >>> ((8 : Int32) &&& 31).toUInt32).toInt32))), .unset, .unset]) rfl ?_
  refine iL X0 hx (hb hby d_method_2_17) (q := 18) rfl rfl ?_
  refine bI X0 hx (hb hby d_method_2_18) (q := 20) rfl (z := (16 : Int32)) rfl ?_
  refine g_iushr X0 hx (hb hby d_method_2_20) (q := 21) rfl rfl ?_
  refine pI X0 hx (hb hby d_method_2_21) (q := 24) rfl (z := (255 : Int32)) rfl ?_
  refine g_iand X0 hx (hb hby d_method_2_24) (q := 25) rfl rfl ?_
  refine g_i2c X0 hx (hb hby d_method_2_25) (q := 26) rfl (z := (chr ((p1.toUInt32 >>> ((16 : Int32) &&& 31).toUInt32).toInt32))) rfl ?_
  refine sIw X0 hx (hb hby d_method_2_26) (q := 28) rfl (Ls' := #[.val (.int (1 : Int32)), .val (.int p1), .val (.int (chr p1)), .val (.int (chr ((p1.toUInt32 >>> ((8 : Int32) &&& 31).toUInt32).toInt32))), .val (.int (chr ((p1.toUInt32 >>> ((16 : Int32) &&& 31).toUInt32).toInt32))), .unset]) rfl ?_
  refine iL X0 hx (hb hby d_method_2_28) (q := 29) rfl rfl ?_
  refine bI X0 hx (hb hby d_method_2_29) (q := 31) rfl (z := (24 : Int32)) rfl ?_
  refine g_iushr X0 hx (hb hby d_method_2_31) (q := 32) rfl rfl ?_
  refine pI X0 hx (hb hby d_method_2_32) (q := 35) rfl (z := (255 : Int32)) rfl ?_
  refine g_iand X0 hx (hb hby d_method_2_35) (q := 36) rfl rfl ?_
  refine g_i2c X0 hx (hb hby d_method_2_36) (q := 37) rfl (z := (chr ((p1.toUInt32 >>> ((24 : Int32) &&& 31).toUInt32).toInt32))) rfl ?_
  refine sIw X0 hx (hb hby d_method_2_37) (q := 39) rfl (Ls' := #[.val (.int (1 : Int32)), .val (.int p1), .val (.int (chr p1)), .val (.int (chr ((p1.toUInt32 >>> ((8 : Int32) &&& 31).toUInt32).toInt32))), .val (.int (chr ((p1.toUInt32 >>> ((16 : Int32) &&& 31).toUInt32).toInt32))), .val (.int (chr ((p1.toUInt32 >>> ((24 : Int32) &&& 31).toUInt32).toInt32)))]) rfl ?_
  refine iL X0 hx (hb hby d_method_2_39) (q := 40) rfl rfl ?_
  refine ifY X0 hx (hb hby d_method_2_40) (q := 47) (by decide) (by decide) (by decide) ?_
  refine iL X0 hx (hb hby d_method_2_47) (q := 48) rfl rfl ?_
  refine cI X0 hx (hb hby d_method_2_48) (q := 49) rfl (z := (1 : Int32)) rfl ?_
  refine icN X0 hx (hb hby d_method_2_49) (q := 52) rfl (by decide) ?_
  refine cI X0 hx (hb hby d_method_2_52) (q := 53) rfl (z := (1 : Int32)) rfl ?_
  refine g_newA X0 hx hZ0 (aty := .char) (wd7 hw) (by decide) (n := 1) (by decide) (by decide) (by decide) (by decide) e0 (hb hby d_method_2_53) (q := 55) rfl ?_
  intro T4 h4 k4 b4 g4 X4 e4 E4 V4
  have Va4 : Arv Z h4 b4 k4 .char (1 : Int32) [(.int (0 : Int32))] (.int 0) := V4
  refine g_dup X4 hx (hb hby d_method_2_55) (q := 56) rfl rfl ?_
  refine cI X4 hx (hb hby d_method_2_56) (q := 57) rfl (z := (0 : Int32)) rfl ?_
  refine iL X4 hx (hb hby d_method_2_57) (q := 58) rfl rfl ?_
  have gz6 : Z.heap.size ≤ b4 := Nat.le_trans O0.2.1 (Nat.le_of_eq g4.symm)
  refine g_stC X4 hx hZ0 Va4 (i := 0) (by decide) (by decide) (by decide) (Nat.le_of_ble_eq_true rfl) (y := (chr p1)) (chr_nar _) e4 (hb hby d_method_2_58) (q := 59) rfl ?_
  intro T5 h5 X5 e5 W5 V5
  have N5 := Fr.snoc X5 N0 gz6
  have Va5 : Arv Z h5 b4 k4 .char (1 : Int32) [(.int (chr p1))] (.int 0) := V5
  have K7 : Keep h0 h4 [] := (Keep.refl h0 []).ext E4
  have gh8 : h0.size ≤ b4 := Nat.le_trans (Nat.le_refl _) (Nat.le_of_eq g4.symm)
  have K9 : Keep h0 h5 [] := K7.wr W5 (Or.inr gh8)
  refine endP X5 hlk (fun h => by rw [hret] at h; cases h) (lastA X5 hx hret rfl rfl rfl (hb hby d_method_2_59)) ?_ (by decide) (by decide)
  rw [e5]
  exact ⟨b4, k4, [(chr p1)], rfl, N5, K9, gh8, Va5, rfl, (alS (chr_rng _) al0)⟩
theorem d_method_2_60 : decode method_2_code 60 = .ok (.iload_n 0, 1) := by decide +kernel
theorem d_method_2_61 : decode method_2_code 61 = .ok (.iconst 2, 1) := by decide +kernel
theorem d_method_2_62 : decode method_2_code 62 = .ok (.if_icmp .ne 15, 3) := by decide +kernel
theorem d_method_2_65 : decode method_2_code 65 = .ok (.iconst 2, 1) := by decide +kernel
theorem d_method_2_66 : decode method_2_code 66 = .ok (.newarray .char, 2) := by decide +kernel
theorem d_method_2_68 : decode method_2_code 68 = .ok (.dup, 1) := by decide +kernel
theorem d_method_2_69 : decode method_2_code 69 = .ok (.iconst 0, 1) := by decide +kernel
theorem d_method_2_70 : decode method_2_code 70 = .ok (.iload_n 2, 1) := by decide +kernel
theorem d_method_2_71 : decode method_2_code 71 = .ok (.castore, 1) := by decide +kernel
theorem d_method_2_72 : decode method_2_code 72 = .ok (.dup, 1) := by decide +kernel
theorem d_method_2_73 : decode method_2_code 73 = .ok (.iconst 1, 1) := by decide +kernel
theorem d_method_2_74 : decode method_2_code 74 = .ok (.iload_n 3, 1) := by decide +kernel
theorem d_method_2_75 : decode method_2_code 75 = .ok (.castore, 1) := by decide +kernel
theorem d_method_2_76 : decode method_2_code 76 = .ok (.areturn, 1) := by decide +kernel
def Q_chars2 (Z : State) (p1 : Int32) (h0 : Heap) (v : Option Value) (h : Heap) (L : List Loc) : Prop := ∃ (a : Addr), ∃ (kc : ClassId), ∃ (cs : List Int32), v = some (.ref a) ∧ Fr Z.heap.size L ∧ Keep h0 h [] ∧ h0.size ≤ a ∧ Arv Z h a kc .char (2 : Int32) (cs.map Value.int) (.int 0) ∧ (cs.length = 2) ∧ (∀ c ∈ cs, ¬ c < 0 ∧ ¬ (255 : Int32) < c)
set_option maxRecDepth 65536 in
set_option maxHeartbeats 40000000 in
theorem rm_chars2 (l : Launch) (Z : State) (a0 : Array Value) (hw : ∀ d ∈ tables_1, d.before a0 Z = true) (zC : Int32) (SC : Sta Z Z.heap "java/lang/String" "COMPACT_STRINGS" "Z" (.int zC)) (PC : ¬ zC = (0 : Int32)) (p1 : Int32) (h0 : Heap) (O0 : Old Z Z.heap.size h0)  :
    Con l Z (⟨"com/example/handoff/handoff/internal/PayloadEmptyPinLaw", "chars", "(II)[C"⟩ : MethodName) method_2_code 6 (some (.array .char)) ({ frames := 0, cells := 1, slots := 2, locals := 0 } : Room) #[(.int (2 : Int32)), (.int p1)] h0 (Q_chars2 Z p1 h0) := by
  refine Con.intro pn0 ?_
  intro p e s m below meth c T0 X0 hx hby hml hown0 hnm hret hlk hZ0 e0
  have N0 := Fr.nil Z.heap.size
  refine castGo (g' := mkF m 0 #[.val (.int (2 : Int32)), .val (.int p1), .unset, .unset, .unset, .unset] []) (by first | rfl | (simp [entryFrame, mkF, argsToLocals, Value.category]; done)) ?_
  show Go _ _ _ _ (T0.setTop (mkF m 0 #[.val (.int (2 : Int32)), .val (.int p1), .unset, .unset, .unset, .unset] []))
  refine iL X0 hx (hb hby d_method_2_0) (q := 1) rfl rfl ?_
  refine pI X0 hx (hb hby d_method_2_1) (q := 4) rfl (z := (255 : Int32)) rfl ?_
  refine g_iand X0 hx (hb hby d_method_2_4) (q := 5) rfl rfl ?_
  refine g_i2c X0 hx (hb hby d_method_2_5) (q := 6) rfl (z := (chr p1)) rfl ?_
  refine sI X0 hx (hb hby d_method_2_6) (q := 7) rfl (Ls' := #[.val (.int (2 : Int32)), .val (.int p1), .val (.int (chr p1)), .unset, .unset, .unset]) rfl ?_
  refine iL X0 hx (hb hby d_method_2_7) (q := 8) rfl rfl ?_
  refine bI X0 hx (hb hby d_method_2_8) (q := 10) rfl (z := (8 : Int32)) rfl ?_
  refine g_iushr X0 hx (hb hby d_method_2_10) (q := 11) rfl rfl ?_
  refine pI X0 hx (hb hby d_method_2_11) (q := 14) rfl (z := (255 : Int32)) rfl ?_
  refine g_iand X0 hx (hb hby d_method_2_14) (q := 15) rfl rfl ?_
  refine g_i2c X0 hx (hb hby d_method_2_15) (q := 16) rfl (z := (chr ((p1.toUInt32 >>> ((8 : Int32) &&& 31).toUInt32).toInt32))) rfl ?_
  refine sI X0 hx (hb hby d_method_2_16) (q := 17) rfl (Ls' := #[.val (.int (2 : Int32)), .val (.int p1), .val (.int (chr p1)), .val (.int (chr ((p1.toUInt32 >>> ((8 : Int32) &&& 31).toUInt32).toInt32))), .unset, .unset]) rfl ?_
  refine iL X0 hx (hb hby d_method_2_17) (q := 18) rfl rfl ?_
  refine bI X0 hx (hb hby d_method_2_18) (q := 20) rfl (z := (16 : Int32)) rfl ?_
  refine g_iushr X0 hx (hb hby d_method_2_20) (q := 21) rfl rfl ?_
  refine pI X0 hx (hb hby d_method_2_21) (q := 24) rfl (z := (255 : Int32)) rfl ?_
  refine g_iand X0 hx (hb hby d_method_2_24) (q := 25) rfl rfl ?_
  refine g_i2c X0 hx (hb hby d_method_2_25) (q := 26) rfl (z := (chr ((p1.toUInt32 >>> ((16 : Int32) &&& 31).toUInt32).toInt32))) rfl ?_
  refine sIw X0 hx (hb hby d_method_2_26) (q := 28) rfl (Ls' := #[.val (.int (2 : Int32)), .val (.int p1), .val (.int (chr p1)), .val (.int (chr ((p1.toUInt32 >>> ((8 : Int32) &&& 31).toUInt32).toInt32))), .val (.int (chr ((p1.toUInt32 >>> ((16 : Int32) &&& 31).toUInt32).toInt32))), .unset]) rfl ?_
  refine iL X0 hx (hb hby d_method_2_28) (q := 29) rfl rfl ?_
  refine bI X0 hx (hb hby d_method_2_29) (q := 31) rfl (z := (24 : Int32)) rfl ?_
  refine g_iushr X0 hx (hb hby d_method_2_31) (q := 32) rfl rfl ?_
  refine pI X0 hx (hb hby d_method_2_32) (q := 35) rfl (z := (255 : Int32)) rfl ?_
  refine g_iand X0 hx (hb hby d_method_2_35) (q := 36) rfl rfl ?_
  refine g_i2c X0 hx (hb hby d_method_2_36) (q := 37) rfl (z := (chr ((p1.toUInt32 >>> ((24 : Int32) &&& 31).toUInt32).toInt32))) rfl ?_
  refine sIw X0 hx (hb hby d_method_2_37) (q := 39) rfl (Ls' := #[.val (.int (2 : Int32)), .val (.int p1), .val (.int (chr p1)), .val (.int (chr ((p1.toUInt32 >>> ((8 : Int32) &&& 31).toUInt32).toInt32))), .val (.int (chr ((p1.toUInt32 >>> ((16 : Int32) &&& 31).toUInt32).toInt32))), .val (.int (chr ((p1.toUInt32 >>> ((24 : Int32) &&& 31).toUInt32).toInt32)))]) rfl ?_
  refine iL X0 hx (hb hby d_method_2_39) (q := 40) rfl rfl ?_
  refine ifY X0 hx (hb hby d_method_2_40) (q := 47) (by decide) (by decide) (by decide) ?_
  refine iL X0 hx (hb hby d_method_2_47) (q := 48) rfl rfl ?_
  refine cI X0 hx (hb hby d_method_2_48) (q := 49) rfl (z := (1 : Int32)) rfl ?_
  refine icY X0 hx (hb hby d_method_2_49) (q := 60) (by decide) (by decide) (by decide) ?_
  refine iL X0 hx (hb hby d_method_2_60) (q := 61) rfl rfl ?_
  refine cI X0 hx (hb hby d_method_2_61) (q := 62) rfl (z := (2 : Int32)) rfl ?_
  refine icN X0 hx (hb hby d_method_2_62) (q := 65) rfl (by decide) ?_
  refine cI X0 hx (hb hby d_method_2_65) (q := 66) rfl (z := (2 : Int32)) rfl ?_
  refine g_newA X0 hx hZ0 (aty := .char) (wd7 hw) (by decide) (n := 2) (by decide) (by decide) (by decide) (by decide) e0 (hb hby d_method_2_66) (q := 68) rfl ?_
  intro T10 h10 k10 b10 g10 X10 e10 E10 V10
  have Va10 : Arv Z h10 b10 k10 .char (2 : Int32) [(.int (0 : Int32)), (.int (0 : Int32))] (.int 0) := V10
  refine g_dup X10 hx (hb hby d_method_2_68) (q := 69) rfl rfl ?_
  refine cI X10 hx (hb hby d_method_2_69) (q := 70) rfl (z := (0 : Int32)) rfl ?_
  refine iL X10 hx (hb hby d_method_2_70) (q := 71) rfl rfl ?_
  have gz12 : Z.heap.size ≤ b10 := Nat.le_trans O0.2.1 (Nat.le_of_eq g10.symm)
  refine g_stC X10 hx hZ0 Va10 (i := 0) (by decide) (by decide) (by decide) (Nat.le_of_ble_eq_true rfl) (y := (chr p1)) (chr_nar _) e10 (hb hby d_method_2_71) (q := 72) rfl ?_
  intro T11 h11 X11 e11 W11 V11
  have N11 := Fr.snoc X11 N0 gz12
  have Va11 : Arv Z h11 b10 k10 .char (2 : Int32) [(.int (chr p1)), (.int (0 : Int32))] (.int 0) := V11
  refine g_dup X11 hx (hb hby d_method_2_72) (q := 73) rfl rfl ?_
  refine cI X11 hx (hb hby d_method_2_73) (q := 74) rfl (z := (1 : Int32)) rfl ?_
  refine iL X11 hx (hb hby d_method_2_74) (q := 75) rfl rfl ?_
  refine g_stC X11 hx hZ0 Va11 (i := 1) (by decide) (by decide) (by decide) (Nat.le_of_ble_eq_true rfl) (y := (chr ((p1.toUInt32 >>> ((8 : Int32) &&& 31).toUInt32).toInt32))) (chr_nar _) e11 (hb hby d_method_2_75) (q := 76) rfl ?_
  intro T13 h13 X13 e13 W13 V13
  have N13 := Fr.snoc X13 N11 gz12
  have Va13 : Arv Z h13 b10 k10 .char (2 : Int32) [(.int (chr p1)), (.int (chr ((p1.toUInt32 >>> ((8 : Int32) &&& 31).toUInt32).toInt32)))] (.int 0) := V13
  have K14 : Keep h0 h10 [] := (Keep.refl h0 []).ext E10
  have gh15 : h0.size ≤ b10 := Nat.le_trans (Nat.le_refl _) (Nat.le_of_eq g10.symm)
  have K16 : Keep h0 h11 [] := K14.wr W11 (Or.inr gh15)
  have K17 : Keep h0 h13 [] := K16.wr W13 (Or.inr gh15)
  refine endP X13 hlk (fun h => by rw [hret] at h; cases h) (lastA X13 hx hret rfl rfl rfl (hb hby d_method_2_76)) ?_ (by decide) (by decide)
  rw [e13]
  exact ⟨b10, k10, [(chr p1), (chr ((p1.toUInt32 >>> ((8 : Int32) &&& 31).toUInt32).toInt32))], rfl, N13, K17, gh15, Va13, rfl, (alS (chr_rng _) (alS (chr_rng _) al0))⟩
theorem d_method_2_77 : decode method_2_code 77 = .ok (.iload_n 0, 1) := by decide +kernel
theorem d_method_2_78 : decode method_2_code 78 = .ok (.iconst 3, 1) := by decide +kernel
theorem d_method_2_79 : decode method_2_code 79 = .ok (.if_icmp .ne 20, 3) := by decide +kernel
theorem d_method_2_82 : decode method_2_code 82 = .ok (.iconst 3, 1) := by decide +kernel
theorem d_method_2_83 : decode method_2_code 83 = .ok (.newarray .char, 2) := by decide +kernel
theorem d_method_2_85 : decode method_2_code 85 = .ok (.dup, 1) := by decide +kernel
theorem d_method_2_86 : decode method_2_code 86 = .ok (.iconst 0, 1) := by decide +kernel
theorem d_method_2_87 : decode method_2_code 87 = .ok (.iload_n 2, 1) := by decide +kernel
theorem d_method_2_88 : decode method_2_code 88 = .ok (.castore, 1) := by decide +kernel
theorem d_method_2_89 : decode method_2_code 89 = .ok (.dup, 1) := by decide +kernel
theorem d_method_2_90 : decode method_2_code 90 = .ok (.iconst 1, 1) := by decide +kernel
theorem d_method_2_91 : decode method_2_code 91 = .ok (.iload_n 3, 1) := by decide +kernel
theorem d_method_2_92 : decode method_2_code 92 = .ok (.castore, 1) := by decide +kernel
theorem d_method_2_93 : decode method_2_code 93 = .ok (.dup, 1) := by decide +kernel
theorem d_method_2_94 : decode method_2_code 94 = .ok (.iconst 2, 1) := by decide +kernel
theorem d_method_2_95 : decode method_2_code 95 = .ok (.iload 4, 2) := by decide +kernel
theorem d_method_2_97 : decode method_2_code 97 = .ok (.castore, 1) := by decide +kernel
theorem d_method_2_98 : decode method_2_code 98 = .ok (.areturn, 1) := by decide +kernel
def Q_chars3 (Z : State) (p1 : Int32) (h0 : Heap) (v : Option Value) (h : Heap) (L : List Loc) : Prop := ∃ (a : Addr), ∃ (kc : ClassId), ∃ (cs : List Int32), v = some (.ref a) ∧ Fr Z.heap.size L ∧ Keep h0 h [] ∧ h0.size ≤ a ∧ Arv Z h a kc .char (3 : Int32) (cs.map Value.int) (.int 0) ∧ (cs.length = 3) ∧ (∀ c ∈ cs, ¬ c < 0 ∧ ¬ (255 : Int32) < c)
set_option maxRecDepth 65536 in
set_option maxHeartbeats 40000000 in
theorem rm_chars3 (l : Launch) (Z : State) (a0 : Array Value) (hw : ∀ d ∈ tables_1, d.before a0 Z = true) (zC : Int32) (SC : Sta Z Z.heap "java/lang/String" "COMPACT_STRINGS" "Z" (.int zC)) (PC : ¬ zC = (0 : Int32)) (p1 : Int32) (h0 : Heap) (O0 : Old Z Z.heap.size h0)  :
    Con l Z (⟨"com/example/handoff/handoff/internal/PayloadEmptyPinLaw", "chars", "(II)[C"⟩ : MethodName) method_2_code 6 (some (.array .char)) ({ frames := 0, cells := 1, slots := 3, locals := 0 } : Room) #[(.int (3 : Int32)), (.int p1)] h0 (Q_chars3 Z p1 h0) := by
  refine Con.intro pn0 ?_
  intro p e s m below meth c T0 X0 hx hby hml hown0 hnm hret hlk hZ0 e0
  have N0 := Fr.nil Z.heap.size
  refine castGo (g' := mkF m 0 #[.val (.int (3 : Int32)), .val (.int p1), .unset, .unset, .unset, .unset] []) (by first | rfl | (simp [entryFrame, mkF, argsToLocals, Value.category]; done)) ?_
  show Go _ _ _ _ (T0.setTop (mkF m 0 #[.val (.int (3 : Int32)), .val (.int p1), .unset, .unset, .unset, .unset] []))
  refine iL X0 hx (hb hby d_method_2_0) (q := 1) rfl rfl ?_
  refine pI X0 hx (hb hby d_method_2_1) (q := 4) rfl (z := (255 : Int32)) rfl ?_
  refine g_iand X0 hx (hb hby d_method_2_4) (q := 5) rfl rfl ?_
  refine g_i2c X0 hx (hb hby d_method_2_5) (q := 6) rfl (z := (chr p1)) rfl ?_
  refine sI X0 hx (hb hby d_method_2_6) (q := 7) rfl (Ls' := #[.val (.int (3 : Int32)), .val (.int p1), .val (.int (chr p1)), .unset, .unset, .unset]) rfl ?_
  refine iL X0 hx (hb hby d_method_2_7) (q := 8) rfl rfl ?_
  refine bI X0 hx (hb hby d_method_2_8) (q := 10) rfl (z := (8 : Int32)) rfl ?_
  refine g_iushr X0 hx (hb hby d_method_2_10) (q := 11) rfl rfl ?_
  refine pI X0 hx (hb hby d_method_2_11) (q := 14) rfl (z := (255 : Int32)) rfl ?_
  refine g_iand X0 hx (hb hby d_method_2_14) (q := 15) rfl rfl ?_
  refine g_i2c X0 hx (hb hby d_method_2_15) (q := 16) rfl (z := (chr ((p1.toUInt32 >>> ((8 : Int32) &&& 31).toUInt32).toInt32))) rfl ?_
  refine sI X0 hx (hb hby d_method_2_16) (q := 17) rfl (Ls' := #[.val (.int (3 : Int32)), .val (.int p1), .val (.int (chr p1)), .val (.int (chr ((p1.toUInt32 >>> ((8 : Int32) &&& 31).toUInt32).toInt32))), .unset, .unset]) rfl ?_
  refine iL X0 hx (hb hby d_method_2_17) (q := 18) rfl rfl ?_
  refine bI X0 hx (hb hby d_method_2_18) (q := 20) rfl (z := (16 : Int32)) rfl ?_
  refine g_iushr X0 hx (hb hby d_method_2_20) (q := 21) rfl rfl ?_
  refine pI X0 hx (hb hby d_method_2_21) (q := 24) rfl (z := (255 : Int32)) rfl ?_
  refine g_iand X0 hx (hb hby d_method_2_24) (q := 25) rfl rfl ?_
  refine g_i2c X0 hx (hb hby d_method_2_25) (q := 26) rfl (z := (chr ((p1.toUInt32 >>> ((16 : Int32) &&& 31).toUInt32).toInt32))) rfl ?_
  refine sIw X0 hx (hb hby d_method_2_26) (q := 28) rfl (Ls' := #[.val (.int (3 : Int32)), .val (.int p1), .val (.int (chr p1)), .val (.int (chr ((p1.toUInt32 >>> ((8 : Int32) &&& 31).toUInt32).toInt32))), .val (.int (chr ((p1.toUInt32 >>> ((16 : Int32) &&& 31).toUInt32).toInt32))), .unset]) rfl ?_
  refine iL X0 hx (hb hby d_method_2_28) (q := 29) rfl rfl ?_
  refine bI X0 hx (hb hby d_method_2_29) (q := 31) rfl (z := (24 : Int32)) rfl ?_
  refine g_iushr X0 hx (hb hby d_method_2_31) (q := 32) rfl rfl ?_
  refine pI X0 hx (hb hby d_method_2_32) (q := 35) rfl (z := (255 : Int32)) rfl ?_
  refine g_iand X0 hx (hb hby d_method_2_35) (q := 36) rfl rfl ?_
  refine g_i2c X0 hx (hb hby d_method_2_36) (q := 37) rfl (z := (chr ((p1.toUInt32 >>> ((24 : Int32) &&& 31).toUInt32).toInt32))) rfl ?_
  refine sIw X0 hx (hb hby d_method_2_37) (q := 39) rfl (Ls' := #[.val (.int (3 : Int32)), .val (.int p1), .val (.int (chr p1)), .val (.int (chr ((p1.toUInt32 >>> ((8 : Int32) &&& 31).toUInt32).toInt32))), .val (.int (chr ((p1.toUInt32 >>> ((16 : Int32) &&& 31).toUInt32).toInt32))), .val (.int (chr ((p1.toUInt32 >>> ((24 : Int32) &&& 31).toUInt32).toInt32)))]) rfl ?_
  refine iL X0 hx (hb hby d_method_2_39) (q := 40) rfl rfl ?_
  refine ifY X0 hx (hb hby d_method_2_40) (q := 47) (by decide) (by decide) (by decide) ?_
  refine iL X0 hx (hb hby d_method_2_47) (q := 48) rfl rfl ?_
  refine cI X0 hx (hb hby d_method_2_48) (q := 49) rfl (z := (1 : Int32)) rfl ?_
  refine icY X0 hx (hb hby d_method_2_49) (q := 60) (by decide) (by decide) (by decide) ?_
  refine iL X0 hx (hb hby d_method_2_60) (q := 61) rfl rfl ?_
  refine cI X0 hx (hb hby d_method_2_61) (q := 62) rfl (z := (2 : Int32)) rfl ?_
  refine icY X0 hx (hb hby d_method_2_62) (q := 77) (by decide) (by decide) (by decide) ?_
  refine iL X0 hx (hb hby d_method_2_77) (q := 78) rfl rfl ?_
  refine cI X0 hx (hb hby d_method_2_78) (q := 79) rfl (z := (3 : Int32)) rfl ?_
  refine icN X0 hx (hb hby d_method_2_79) (q := 82) rfl (by decide) ?_
  refine cI X0 hx (hb hby d_method_2_82) (q := 83) rfl (z := (3 : Int32)) rfl ?_
  refine g_newA X0 hx hZ0 (aty := .char) (wd7 hw) (by decide) (n := 3) (by decide) (by decide) (by decide) (by decide) e0 (hb hby d_method_2_83) (q := 85) rfl ?_
  intro T18 h18 k18 b18 g18 X18 e18 E18 V18
  have Va18 : Arv Z h18 b18 k18 .char (3 : Int32) [(.int (0 : Int32)), (.int (0 : Int32)), (.int (0 : Int32))] (.int 0) := V18
  refine g_dup X18 hx (hb hby d_method_2_85) (q := 86) rfl rfl ?_
  refine cI X18 hx (hb hby d_method_2_86) (q := 87) rfl (z := (0 : Int32)) rfl ?_
  refine iL X18 hx (hb hby d_method_2_87) (q := 88) rfl rfl ?_
  have gz20 : Z.heap.size ≤ b18 := Nat.le_trans O0.2.1 (Nat.le_of_eq g18.symm)
  refine g_stC X18 hx hZ0 Va18 (i := 0) (by decide) (by decide) (by decide) (Nat.le_of_ble_eq_true rfl) (y := (chr p1)) (chr_nar _) e18 (hb hby d_method_2_88) (q := 89) rfl ?_
  intro T19 h19 X19 e19 W19 V19
  have N19 := Fr.snoc X19 N0 gz20
  have Va19 : Arv Z h19 b18 k18 .char (3 : Int32) [(.int (chr p1)), (.int (0 : Int32)), (.int (0 : Int32))] (.int 0) := V19
  refine g_dup X19 hx (hb hby d_method_2_89) (q := 90) rfl rfl ?_
  refine cI X19 hx (hb hby d_method_2_90) (q := 91) rfl (z := (1 : Int32)) rfl ?_
  refine iL X19 hx (hb hby d_method_2_91) (q := 92) rfl rfl ?_
  refine g_stC X19 hx hZ0 Va19 (i := 1) (by decide) (by decide) (by decide) (Nat.le_of_ble_eq_true rfl) (y := (chr ((p1.toUInt32 >>> ((8 : Int32) &&& 31).toUInt32).toInt32))) (chr_nar _) e19 (hb hby d_method_2_92) (q := 93) rfl ?_
  intro T21 h21 X21 e21 W21 V21
  have N21 := Fr.snoc X21 N19 gz20
  have Va21 : Arv Z h21 b18 k18 .char (3 : Int32) [(.int (chr p1)), (.int (chr ((p1.toUInt32 >>> ((8 : Int32) &&& 31).toUInt32).toInt32))), (.int (0 : Int32))] (.int 0) := V21
  refine g_dup X21 hx (hb hby d_method_2_93) (q := 94) rfl rfl ?_
  refine cI X21 hx (hb hby d_method_2_94) (q := 95) rfl (z := (2 : Int32)) rfl ?_
  refine iLw X21 hx (hb hby d_method_2_95) (q := 97) rfl rfl ?_
  refine g_stC X21 hx hZ0 Va21 (i := 2) (by decide) (by decide) (by decide) (Nat.le_of_ble_eq_true rfl) (y := (chr ((p1.toUInt32 >>> ((16 : Int32) &&& 31).toUInt32).toInt32))) (chr_nar _) e21 (hb hby d_method_2_97) (q := 98) rfl ?_
  intro T22 h22 X22 e22 W22 V22
  have N22 := Fr.snoc X22 N21 gz20
  have Va22 : Arv Z h22 b18 k18 .char (3 : Int32) [(.int (chr p1)), (.int (chr ((p1.toUInt32 >>> ((8 : Int32) &&& 31).toUInt32).toInt32))), (.int (chr ((p1.toUInt32 >>> ((16 : Int32) &&& 31).toUInt32).toInt32)))] (.int 0) := V22
  have K23 : Keep h0 h18 [] := (Keep.refl h0 []).ext E18
  have gh24 : h0.size ≤ b18 := Nat.le_trans (Nat.le_refl _) (Nat.le_of_eq g18.symm)
  have K25 : Keep h0 h19 [] := K23.wr W19 (Or.inr gh24)
  have K26 : Keep h0 h21 [] := K25.wr W21 (Or.inr gh24)
  have K27 : Keep h0 h22 [] := K26.wr W22 (Or.inr gh24)
  refine endP X22 hlk (fun h => by rw [hret] at h; cases h) (lastA X22 hx hret rfl rfl rfl (hb hby d_method_2_98)) ?_ (by decide) (by decide)
  rw [e22]
  exact ⟨b18, k18, [(chr p1), (chr ((p1.toUInt32 >>> ((8 : Int32) &&& 31).toUInt32).toInt32)), (chr ((p1.toUInt32 >>> ((16 : Int32) &&& 31).toUInt32).toInt32))], rfl, N22, K27, gh24, Va22, rfl, (alS (chr_rng _) (alS (chr_rng _) (alS (chr_rng _) al0)))⟩
theorem d_method_2_99 : decode method_2_code 99 = .ok (.iconst 4, 1) := by decide +kernel
theorem d_method_2_100 : decode method_2_code 100 = .ok (.newarray .char, 2) := by decide +kernel
theorem d_method_2_102 : decode method_2_code 102 = .ok (.dup, 1) := by decide +kernel
theorem d_method_2_103 : decode method_2_code 103 = .ok (.iconst 0, 1) := by decide +kernel
theorem d_method_2_104 : decode method_2_code 104 = .ok (.iload_n 2, 1) := by decide +kernel
theorem d_method_2_105 : decode method_2_code 105 = .ok (.castore, 1) := by decide +kernel
theorem d_method_2_106 : decode method_2_code 106 = .ok (.dup, 1) := by decide +kernel
theorem d_method_2_107 : decode method_2_code 107 = .ok (.iconst 1, 1) := by decide +kernel
theorem d_method_2_108 : decode method_2_code 108 = .ok (.iload_n 3, 1) := by decide +kernel
theorem d_method_2_109 : decode method_2_code 109 = .ok (.castore, 1) := by decide +kernel
theorem d_method_2_110 : decode method_2_code 110 = .ok (.dup, 1) := by decide +kernel
theorem d_method_2_111 : decode method_2_code 111 = .ok (.iconst 2, 1) := by decide +kernel
theorem d_method_2_112 : decode method_2_code 112 = .ok (.iload 4, 2) := by decide +kernel
theorem d_method_2_114 : decode method_2_code 114 = .ok (.castore, 1) := by decide +kernel
theorem d_method_2_115 : decode method_2_code 115 = .ok (.dup, 1) := by decide +kernel
theorem d_method_2_116 : decode method_2_code 116 = .ok (.iconst 3, 1) := by decide +kernel
theorem d_method_2_117 : decode method_2_code 117 = .ok (.iload 5, 2) := by decide +kernel
theorem d_method_2_119 : decode method_2_code 119 = .ok (.castore, 1) := by decide +kernel
theorem d_method_2_120 : decode method_2_code 120 = .ok (.areturn, 1) := by decide +kernel
def Q_chars4 (Z : State) (p1 : Int32) (h0 : Heap) (v : Option Value) (h : Heap) (L : List Loc) : Prop := ∃ (a : Addr), ∃ (kc : ClassId), ∃ (cs : List Int32), v = some (.ref a) ∧ Fr Z.heap.size L ∧ Keep h0 h [] ∧ h0.size ≤ a ∧ Arv Z h a kc .char (4 : Int32) (cs.map Value.int) (.int 0) ∧ (cs.length = 4) ∧ (∀ c ∈ cs, ¬ c < 0 ∧ ¬ (255 : Int32) < c)
set_option maxRecDepth 65536 in
set_option maxHeartbeats 40000000 in
theorem rm_chars4 (l : Launch) (Z : State) (a0 : Array Value) (hw : ∀ d ∈ tables_1, d.before a0 Z = true) (zC : Int32) (SC : Sta Z Z.heap "java/lang/String" "COMPACT_STRINGS" "Z" (.int zC)) (PC : ¬ zC = (0 : Int32)) (p1 : Int32) (h0 : Heap) (O0 : Old Z Z.heap.size h0)  :
    Con l Z (⟨"com/example/handoff/handoff/internal/PayloadEmptyPinLaw", "chars", "(II)[C"⟩ : MethodName) method_2_code 6 (some (.array .char)) ({ frames := 0, cells := 1, slots := 4, locals := 0 } : Room) #[(.int (4 : Int32)), (.int p1)] h0 (Q_chars4 Z p1 h0) := by
  refine Con.intro pn0 ?_
  intro p e s m below meth c T0 X0 hx hby hml hown0 hnm hret hlk hZ0 e0
  have N0 := Fr.nil Z.heap.size
  refine castGo (g' := mkF m 0 #[.val (.int (4 : Int32)), .val (.int p1), .unset, .unset, .unset, .unset] []) (by first | rfl | (simp [entryFrame, mkF, argsToLocals, Value.category]; done)) ?_
  show Go _ _ _ _ (T0.setTop (mkF m 0 #[.val (.int (4 : Int32)), .val (.int p1), .unset, .unset, .unset, .unset] []))
  refine iL X0 hx (hb hby d_method_2_0) (q := 1) rfl rfl ?_
  refine pI X0 hx (hb hby d_method_2_1) (q := 4) rfl (z := (255 : Int32)) rfl ?_
  refine g_iand X0 hx (hb hby d_method_2_4) (q := 5) rfl rfl ?_
  refine g_i2c X0 hx (hb hby d_method_2_5) (q := 6) rfl (z := (chr p1)) rfl ?_
  refine sI X0 hx (hb hby d_method_2_6) (q := 7) rfl (Ls' := #[.val (.int (4 : Int32)), .val (.int p1), .val (.int (chr p1)), .unset, .unset, .unset]) rfl ?_
  refine iL X0 hx (hb hby d_method_2_7) (q := 8) rfl rfl ?_
  refine bI X0 hx (hb hby d_method_2_8) (q := 10) rfl (z := (8 : Int32)) rfl ?_
  refine g_iushr X0 hx (hb hby d_method_2_10) (q := 11) rfl rfl ?_
  refine pI X0 hx (hb hby d_method_2_11) (q := 14) rfl (z := (255 : Int32)) rfl ?_
  refine g_iand X0 hx (hb hby d_method_2_14) (q := 15) rfl rfl ?_
  refine g_i2c X0 hx (hb hby d_method_2_15) (q := 16) rfl (z := (chr ((p1.toUInt32 >>> ((8 : Int32) &&& 31).toUInt32).toInt32))) rfl ?_
  refine sI X0 hx (hb hby d_method_2_16) (q := 17) rfl (Ls' := #[.val (.int (4 : Int32)), .val (.int p1), .val (.int (chr p1)), .val (.int (chr ((p1.toUInt32 >>> ((8 : Int32) &&& 31).toUInt32).toInt32))), .unset, .unset]) rfl ?_
  refine iL X0 hx (hb hby d_method_2_17) (q := 18) rfl rfl ?_
  refine bI X0 hx (hb hby d_method_2_18) (q := 20) rfl (z := (16 : Int32)) rfl ?_
  refine g_iushr X0 hx (hb hby d_method_2_20) (q := 21) rfl rfl ?_
  refine pI X0 hx (hb hby d_method_2_21) (q := 24) rfl (z := (255 : Int32)) rfl ?_
  refine g_iand X0 hx (hb hby d_method_2_24) (q := 25) rfl rfl ?_
  refine g_i2c X0 hx (hb hby d_method_2_25) (q := 26) rfl (z := (chr ((p1.toUInt32 >>> ((16 : Int32) &&& 31).toUInt32).toInt32))) rfl ?_
  refine sIw X0 hx (hb hby d_method_2_26) (q := 28) rfl (Ls' := #[.val (.int (4 : Int32)), .val (.int p1), .val (.int (chr p1)), .val (.int (chr ((p1.toUInt32 >>> ((8 : Int32) &&& 31).toUInt32).toInt32))), .val (.int (chr ((p1.toUInt32 >>> ((16 : Int32) &&& 31).toUInt32).toInt32))), .unset]) rfl ?_
  refine iL X0 hx (hb hby d_method_2_28) (q := 29) rfl rfl ?_
  refine bI X0 hx (hb hby d_method_2_29) (q := 31) rfl (z := (24 : Int32)) rfl ?_
  refine g_iushr X0 hx (hb hby d_method_2_31) (q := 32) rfl rfl ?_
  refine pI X0 hx (hb hby d_method_2_32) (q := 35) rfl (z := (255 : Int32)) rfl ?_
  refine g_iand X0 hx (hb hby d_method_2_35) (q := 36) rfl rfl ?_
  refine g_i2c X0 hx (hb hby d_method_2_36) (q := 37) rfl (z := (chr ((p1.toUInt32 >>> ((24 : Int32) &&& 31).toUInt32).toInt32))) rfl ?_
  refine sIw X0 hx (hb hby d_method_2_37) (q := 39) rfl (Ls' := #[.val (.int (4 : Int32)), .val (.int p1), .val (.int (chr p1)), .val (.int (chr ((p1.toUInt32 >>> ((8 : Int32) &&& 31).toUInt32).toInt32))), .val (.int (chr ((p1.toUInt32 >>> ((16 : Int32) &&& 31).toUInt32).toInt32))), .val (.int (chr ((p1.toUInt32 >>> ((24 : Int32) &&& 31).toUInt32).toInt32)))]) rfl ?_
  refine iL X0 hx (hb hby d_method_2_39) (q := 40) rfl rfl ?_
  refine ifY X0 hx (hb hby d_method_2_40) (q := 47) (by decide) (by decide) (by decide) ?_
  refine iL X0 hx (hb hby d_method_2_47) (q := 48) rfl rfl ?_
  refine cI X0 hx (hb hby d_method_2_48) (q := 49) rfl (z := (1 : Int32)) rfl ?_
  refine icY X0 hx (hb hby d_method_2_49) (q := 60) (by decide) (by decide) (by decide) ?_
  refine iL X0 hx (hb hby d_method_2_60) (q := 61) rfl rfl ?_
  refine cI X0 hx (hb hby d_method_2_61) (q := 62) rfl (z := (2 : Int32)) rfl ?_
  refine icY X0 hx (hb hby d_method_2_62) (q := 77) (by decide) (by decide) (by decide) ?_
  refine iL X0 hx (hb hby d_method_2_77) (q := 78) rfl rfl ?_
  refine cI X0 hx (hb hby d_method_2_78) (q := 79) rfl (z := (3 : Int32)) rfl ?_
  refine icY X0 hx (hb hby d_method_2_79) (q := 99) (by decide) (by decide) (by decide) ?_
  refine cI X0 hx (hb hby d_method_2_99) (q := 100) rfl (z := (4 : Int32)) rfl ?_
  refine g_newA X0 hx hZ0 (aty := .char) (wd7 hw) (by decide) (n := 4) (by decide) (by decide) (by decide) (by decide) e0 (hb hby d_method_2_100) (q := 102) rfl ?_
  intro T28 h28 k28 b28 g28 X28 e28 E28 V28
  have Va28 : Arv Z h28 b28 k28 .char (4 : Int32) [(.int (0 : Int32)), (.int (0 : Int32)), (.int (0 : Int32)), (.int (0 : Int32))] (.int 0) := V28
  refine g_dup X28 hx (hb hby d_method_2_102) (q := 103) rfl rfl ?_
  refine cI X28 hx (hb hby d_method_2_103) (q := 104) rfl (z := (0 : Int32)) rfl ?_
  refine iL X28 hx (hb hby d_method_2_104) (q := 105) rfl rfl ?_
  have gz30 : Z.heap.size ≤ b28 := Nat.le_trans O0.2.1 (Nat.le_of_eq g28.symm)
  refine g_stC X28 hx hZ0 Va28 (i := 0) (by decide) (by decide) (by decide) (Nat.le_of_ble_eq_true rfl) (y := (chr p1)) (chr_nar _) e28 (hb hby d_method_2_105) (q := 106) rfl ?_
  intro T29 h29 X29 e29 W29 V29
  have N29 := Fr.snoc X29 N0 gz30
  have Va29 : Arv Z h29 b28 k28 .char (4 : Int32) [(.int (chr p1)), (.int (0 : Int32)), (.int (0 : Int32)), (.int (0 : Int32))] (.int 0) := V29
  refine g_dup X29 hx (hb hby d_method_2_106) (q := 107) rfl rfl ?_
  refine cI X29 hx (hb hby d_method_2_107) (q := 108) rfl (z := (1 : Int32)) rfl ?_
  refine iL X29 hx (hb hby d_method_2_108) (q := 109) rfl rfl ?_
  refine g_stC X29 hx hZ0 Va29 (i := 1) (by decide) (by decide) (by decide) (Nat.le_of_ble_eq_true rfl) (y := (chr ((p1.toUInt32 >>> ((8 : Int32) &&& 31).toUInt32).toInt32))) (chr_nar _) e29 (hb hby d_method_2_109) (q := 110) rfl ?_
  intro T31 h31 X31 e31 W31 V31
  have N31 := Fr.snoc X31 N29 gz30
  have Va31 : Arv Z h31 b28 k28 .char (4 : Int32) [(.int (chr p1)), (.int (chr ((p1.toUInt32 >>> ((8 : Int32) &&& 31).toUInt32).toInt32))), (.int (0 : Int32)), (.int (0 : Int32))] (.int 0) := V31
  refine g_dup X31 hx (hb hby d_method_2_110) (q := 111) rfl rfl ?_
  refine cI X31 hx (hb hby d_method_2_111) (q := 112) rfl (z := (2 : Int32)) rfl ?_
  refine iLw X31 hx (hb hby d_method_2_112) (q := 114) rfl rfl ?_
  refine g_stC X31 hx hZ0 Va31 (i := 2) (by decide) (by decide) (by decide) (Nat.le_of_ble_eq_true rfl) (y := (chr ((p1.toUInt32 >>> ((16 : Int32) &&& 31).toUInt32).toInt32))) (chr_nar _) e31 (hb hby d_method_2_114) (q := 115) rfl ?_
  intro T32 h32 X32 e32 W32 V32
  have N32 := Fr.snoc X32 N31 gz30
  have Va32 : Arv Z h32 b28 k28 .char (4 : Int32) [(.int (chr p1)), (.int (chr ((p1.toUInt32 >>> ((8 : Int32) &&& 31).toUInt32).toInt32))), (.int (chr ((p1.toUInt32 >>> ((16 : Int32) &&& 31).toUInt32).toInt32))), (.int (0 : Int32))] (.int 0) := V32
  refine g_dup X32 hx (hb hby d_method_2_115) (q := 116) rfl rfl ?_
  refine cI X32 hx (hb hby d_method_2_116) (q := 117) rfl (z := (3 : Int32)) rfl ?_
  refine iLw X32 hx (hb hby d_method_2_117) (q := 119) rfl rfl ?_
  refine g_stC X32 hx hZ0 Va32 (i := 3) (by decide) (by decide) (by decide) (Nat.le_of_ble_eq_true rfl) (y := (chr ((p1.toUInt32 >>> ((24 : Int32) &&& 31).toUInt32).toInt32))) (chr_nar _) e32 (hb hby d_method_2_119) (q := 120) rfl ?_
  intro T33 h33 X33 e33 W33 V33
  have N33 := Fr.snoc X33 N32 gz30
  have Va33 : Arv Z h33 b28 k28 .char (4 : Int32) [(.int (chr p1)), (.int (chr ((p1.toUInt32 >>> ((8 : Int32) &&& 31).toUInt32).toInt32))), (.int (chr ((p1.toUInt32 >>> ((16 : Int32) &&& 31).toUInt32).toInt32))), (.int (chr ((p1.toUInt32 >>> ((24 : Int32) &&& 31).toUInt32).toInt32)))] (.int 0) := V33
  have K34 : Keep h0 h28 [] := (Keep.refl h0 []).ext E28
  have gh35 : h0.size ≤ b28 := Nat.le_trans (Nat.le_refl _) (Nat.le_of_eq g28.symm)
  have K36 : Keep h0 h29 [] := K34.wr W29 (Or.inr gh35)
  have K37 : Keep h0 h31 [] := K36.wr W31 (Or.inr gh35)
  have K38 : Keep h0 h32 [] := K37.wr W32 (Or.inr gh35)
  have K39 : Keep h0 h33 [] := K38.wr W33 (Or.inr gh35)
  refine endP X33 hlk (fun h => by rw [hret] at h; cases h) (lastA X33 hx hret rfl rfl rfl (hb hby d_method_2_120)) ?_ (by decide) (by decide)
  rw [e33]
  exact ⟨b28, k28, [(chr p1), (chr ((p1.toUInt32 >>> ((8 : Int32) &&& 31).toUInt32).toInt32)), (chr ((p1.toUInt32 >>> ((16 : Int32) &&& 31).toUInt32).toInt32)), (chr ((p1.toUInt32 >>> ((24 : Int32) &&& 31).toUInt32).toInt32))], rfl, N33, K39, gh35, Va33, rfl, (alS (chr_rng _) (alS (chr_rng _) (alS (chr_rng _) (alS (chr_rng _) al0))))⟩
theorem d_jdk_42m149_0 : decode jdk_42_method_149_code 0 = .ok (.aload_n 0, 1) := by decide +kernel
theorem d_jdk_42m149_1 : decode jdk_42_method_149_code 1 = .ok (.invokespecial 1, 3) := by decide +kernel
theorem wd15 {a0 : Array Value} {Z : State} (hw : ∀ d ∈ tables_1, d.before a0 Z = true) : ((Jvm.Cond.methodLink "java/lang/String" (1 : Nat) ({ cls := "java/lang/Object", name := "<init>", desc := "()V" } : Jvm.MethodName)) : Jvm.Cond).before a0 Z = true := hw _ (List.mem_of_getElem? (i := 15) rfl)
theorem wd16 {a0 : Array Value} {Z : State} (hw : ∀ d ∈ tables_1, d.before a0 Z = true) : ((Jvm.Cond.instanceMethod ({ cls := "java/lang/Object", name := "<init>", desc := "()V" } : Jvm.MethodName)) : Jvm.Cond).before a0 Z = true := hw _ (List.mem_of_getElem? (i := 16) rfl)
theorem wd17 {a0 : Array Value} {Z : State} (hw : ∀ d ∈ tables_1, d.before a0 Z = true) : ((Jvm.Cond.code ({ cls := "java/lang/Object", name := "<init>", desc := "()V" } : Jvm.MethodName) object_method_1_code (1 : Nat) (Option.none : Option Jvm.ClassFile.FieldType)) : Jvm.Cond).before a0 Z = true := hw _ (List.mem_of_getElem? (i := 17) rfl)
theorem d_jdk_42m149_4 : decode jdk_42_method_149_code 4 = .ok (.iload_n 3, 1) := by decide +kernel
theorem d_jdk_42m149_5 : decode jdk_42_method_149_code 5 = .ok (.ifCond .ne 22, 3) := by decide +kernel
theorem d_jdk_42m149_8 : decode jdk_42_method_149_code 8 = .ok (.aload_n 0, 1) := by decide +kernel
theorem d_jdk_42m149_9 : decode jdk_42_method_149_code 9 = .ok (.ldc 7, 2) := by decide +kernel
theorem d_jdk_42m149_11 : decode jdk_42_method_149_code 11 = .ok (.getfield 9, 3) := by decide +kernel
theorem wd24 {a0 : Array Value} {Z : State} (hw : ∀ d ∈ tables_1, d.before a0 Z = true) : ((Jvm.Cond.fieldLink "java/lang/String" (9 : Nat) "java/lang/String" "value" "[B") : Jvm.Cond).before a0 Z = true := hw _ (List.mem_of_getElem? (i := 24) rfl)
theorem d_jdk_42m149_14 : decode jdk_42_method_149_code 14 = .ok (.putfield 9, 3) := by decide +kernel
theorem wd20 {a0 : Array Value} {Z : State} (hw : ∀ d ∈ tables_1, d.before a0 Z = true) : ((Jvm.Cond.laysFinal "java/lang/String" "java/lang/String" "value" "[B") : Jvm.Cond).before a0 Z = true := hw _ (List.mem_of_getElem? (i := 20) rfl)
theorem wd1 {a0 : Array Value} {Z : State} (hw : ∀ d ∈ tables_1, d.before a0 Z = true) : ((Jvm.Cond.instantiable "java/lang/String" (4 : Nat)) : Jvm.Cond).before a0 Z = true := hw _ (List.mem_of_getElem? (i := 1) rfl)
theorem d_jdk_42m149_17 : decode jdk_42_method_149_code 17 = .ok (.aload_n 0, 1) := by decide +kernel
theorem d_jdk_42m149_18 : decode jdk_42_method_149_code 18 = .ok (.ldc 7, 2) := by decide +kernel
theorem d_jdk_42m149_20 : decode jdk_42_method_149_code 20 = .ok (.getfield 15, 3) := by decide +kernel
theorem wd25 {a0 : Array Value} {Z : State} (hw : ∀ d ∈ tables_1, d.before a0 Z = true) : ((Jvm.Cond.fieldLink "java/lang/String" (15 : Nat) "java/lang/String" "coder" "B") : Jvm.Cond).before a0 Z = true := hw _ (List.mem_of_getElem? (i := 25) rfl)
theorem d_jdk_42m149_23 : decode jdk_42_method_149_code 23 = .ok (.putfield 15, 3) := by decide +kernel
theorem wd21 {a0 : Array Value} {Z : State} (hw : ∀ d ∈ tables_1, d.before a0 Z = true) : ((Jvm.Cond.laysFinal "java/lang/String" "java/lang/String" "coder" "B") : Jvm.Cond).before a0 Z = true := hw _ (List.mem_of_getElem? (i := 21) rfl)
theorem d_jdk_42m149_26 : decode jdk_42_method_149_code 26 = .ok (.return_, 1) := by decide +kernel
def Q_new4e (Z : State) (a1 : Addr) (a2 : Addr) (h0 : Heap) (v : Option Value) (h : Heap) (L : List Loc) : Prop := ∃ (t : Addr), ∃ (kb : ClassId), v = none ∧ Fr Z.heap.size L ∧ Keep h0 h [a1] ∧ Exa Z h a1 "java/lang/String" ∧ Fld Z h a1 "java/lang/String" "value" "[B" (.ref t) ∧ Fld Z h a1 "java/lang/String" "coder" "B" (.int (0 : Int32)) ∧ Arv Z h t kb .byte (0 : Int32) [] (.int 0)
theorem pn1 : plainName "java/lang/String" = true := by first | (simp [plainName, overriddenIn]; done) | decide +kernel
set_option maxRecDepth 65536 in
set_option maxHeartbeats 40000000 in
theorem rm_new4e (l : Launch) (Z : State) (a0 : Array Value) (hw : ∀ d ∈ tables_1, d.before a0 Z = true) (zC : Int32) (SC : Sta Z Z.heap "java/lang/String" "COMPACT_STRINGS" "Z" (.int zC)) (PC : ¬ zC = (0 : Int32)) (a1 : Addr) (a2 : Addr) (h0 : Heap) (O0 : Old Z Z.heap.size h0) (P1 : Exa Z h0 a1 "java/lang/String") (P2 : Fld Z h0 a1 "java/lang/String" "value" "[B" .null) (P3 : Fld Z h0 a1 "java/lang/String" "coder" "B" (.int (0 : Int32))) (P4 : Z.heap.size ≤ a1) :
    ConS l Z EL (⟨"java/lang/String", "<init>", "([CIILjava/lang/Void;)V"⟩ : MethodName) jdk_42_method_149_code 6 none ({ frames := 1, cells := 4, slots := 8, locals := 12 } : Room) #[(.ref a1), (.ref a2), (.int (0 : Int32)), (.int (0 : Int32)), .null] h0 [a1] (Q_new4e Z a1 a2 h0) := by
  refine ConS.intro pn1 ?_
  intro p e s m below meth c T0 v0 X0 hx hby hml hown0 hnm hret hlk hZ0 e0 hS0 C0 hsl0
  have P5 := hsl0 a1 (by simp)
  have N0 := Fr.nil Z.heap.size
  refine castGo (g' := mkF m 0 #[.val (.ref a1), .val (.ref a2), .val (.int (0 : Int32)), .val (.int (0 : Int32)), .val .null, .unset] []) (by first | rfl | (simp [entryFrame, mkF, argsToLocals, Value.category]; done)) ?_
  show Go _ _ _ _ (T0.setTop (mkF m 0 #[.val (.ref a1), .val (.ref a2), .val (.int (0 : Int32)), .val (.int (0 : Int32)), .val .null, .unset] []))
  refine aL X0 hx (hb hby d_jdk_42m149_0) (q := 1) rfl rfl rfl ?_
  refine g_init0 X0 hx hZ0 hown0 (wd15 hw) (wd16 hw) (wd17 hw) (by rw [hml]; rfl) (by decide) (W := 0) (Nat.le_of_eq rfl) (by decide) e0 (hb hby d_jdk_42m149_1) (q := 4) rfl ?_
  intro T40 X40 e40
  refine iL X40 hx (hb hby d_jdk_42m149_4) (q := 5) rfl rfl ?_
  refine ifN X40 hx (hb hby d_jdk_42m149_5) (q := 8) rfl (by decide) ?_
  refine aL X40 hx (hb hby d_jdk_42m149_8) (q := 9) rfl rfl rfl ?_
  refine g_ldc X40 hx hZ0 hown0 (wd18 hw) (own_wS hw) hS0 (Nat.zero_le _) (own_EW hw) (by simp [EL]) C0.1 (vs := []) (z := (0 : Int32)) ⟨by decide, by decide⟩ (by decide) (by decide) (n := 0) (by decide) (by decide) (by decide) (by decide) e40 (hb hby d_jdk_42m149_9) (q := 11) rfl ?_
  intro b41 T41 h41 kk41 d41 k41 X41 e41 E41 hS41 hk41 hZ41 hown41 A41 Fc41 Fv41 V41 lta41 ltb41 R41 sn41
  refine g_getF X41 hx hZ41 hown41 (host := "") (Or.inl (wd24 hw)) Via.refl Fv41 e41 (hb hby d_jdk_42m149_11) (q := 14) rfl ?_
  intro T42 X42 e42
  have f43 : Fld Z h41 a1 "java/lang/String" "value" "[B" .null := P2.ext E41
  have f44 : Exa Z h41 a1 "java/lang/String" := P1.ext E41
  have f46 : CHr Z EL s.vm s.heap T41.vm h41 := C0.trans R41
  have f47 : Safe Z EL T41.vm h41 a1 := R41.safe (Nat.lt_of_lt_of_le P1.lt (Nat.le_refl _)) P5
  refine g_putF X42 hx hZ41 hown41 (host := "") (Or.inl (wd24 hw)) Via.refl f43 f44 (Or.inr ⟨(wd20 hw), rfl, hnm⟩) (wd1 hw) (ty := (.array .byte)) (by decide) rfl rfl e42 (hb hby d_jdk_42m149_14) (q := 17) rfl ?_
  intro T45 h45 X45 e45 W45
  have N45 := Fr.snoc X45 N0 P4
  have Fw45 : Fld Z h45 a1 "java/lang/String" "value" "[B" (.ref d41) := f43.same W45
  refine aL X45 hx (hb hby d_jdk_42m149_17) (q := 18) rfl rfl rfl ?_
  have f49 : CHr Z EL s.vm s.heap T41.vm h45 := f46.trans (CHr.wr W45 f47 f46.1)
  have le50 : (h41).size ≤ (h45).size := (Nat.le_of_eq (Wr.size W45).symm)
  refine g_ldc X45 hx hZ41 hown41 (wd18 hw) (own_wS hw) hS41 (Nat.le_trans hk41 le50) (own_EW hw) (by simp [EL]) f49.1 (vs := []) (z := (0 : Int32)) ⟨by decide, by decide⟩ (by decide) (by decide) (n := 0) (by decide) (by decide) (by decide) (by decide) e45 (hb hby d_jdk_42m149_18) (q := 20) rfl ?_
  intro b48 T48 h48 kk48 d48 k48 X48 e48 E48 hS48 hk48 hZ48 hown48 A48 Fc48 Fv48 V48 lta48 ltb48 R48 sn48
  refine g_getF X48 hx hZ48 hown48 (host := "") (Or.inl (wd25 hw)) Via.refl Fc48 e48 (hb hby d_jdk_42m149_20) (q := 23) rfl ?_
  intro T51 X51 e51
  have f52 : Fld Z h41 a1 "java/lang/String" "coder" "B" (.int (0 : Int32)) := P3.ext E41
  have f53 : Fld Z h45 a1 "java/lang/String" "coder" "B" (.int (0 : Int32)) := f52.other W45 (Or.inr (slot_ne (Or.inr (wd21 hw)) (Or.inr (wd20 hw)) (by decide) (t := .byte) (t' := (.array .byte)) (by decide) (by decide)))
  have f54 : Fld Z h48 a1 "java/lang/String" "coder" "B" (.int (0 : Int32)) := f53.ext E48
  have f55 : Exa Z h45 a1 "java/lang/String" := f44.wr W45
  have f56 : Exa Z h48 a1 "java/lang/String" := f55.ext E48
  have f58 : CHr Z EL s.vm s.heap T48.vm h48 := f49.trans R48
  have f59 : Safe Z EL T41.vm h45 a1 := Safe.wr W45 f47 f46.1 f47
  have le60 : (h0).size ≤ (h41).size := E41.1
  have le61 : (h0).size ≤ (h45).size := (Nat.le_trans le60 (Nat.le_of_eq (Wr.size W45).symm))
  have f62 : Safe Z EL T48.vm h48 a1 := R48.safe (Nat.lt_of_lt_of_le P1.lt le61) f59
  refine g_putF X51 hx hZ48 hown48 (host := "") (Or.inl (wd25 hw)) Via.refl f54 f56 (Or.inr ⟨(wd21 hw), rfl, hnm⟩) (wd1 hw) (ty := .byte) (by decide) rfl rfl e51 (hb hby d_jdk_42m149_23) (q := 26) rfl ?_
  intro T57 h57 X57 e57 W57
  have N57 := Fr.snoc X57 N45 P4
  have Fw57 : Fld Z h57 a1 "java/lang/String" "coder" "B" (.int (0 : Int32)) := f54.same W57
  have K63 : Keep h0 h41 [a1] := (Keep.refl h0 [a1]).ext E41
  have K64 : Keep h0 h45 [a1] := K63.wr W45 (Or.inl (by simp))
  have K65 : Keep h0 h48 [a1] := K64.ext E48
  have K66 : Keep h0 h57 [a1] := K65.wr W57 (Or.inl (by simp))
  have f67 : Exa Z h57 a1 "java/lang/String" := f56.wr W57
  have f68 : Fld Z h48 a1 "java/lang/String" "value" "[B" (.ref d41) := Fw45.ext E48
  have f69 : Fld Z h57 a1 "java/lang/String" "value" "[B" (.ref d41) := f68.other W57 (Or.inr (slot_ne (Or.inr (wd20 hw)) (Or.inr (wd21 hw)) (by decide) (t := (.array .byte)) (t' := .byte) (by decide) (by decide)))
  have ne70 : d41 ≠ a1 := (Ne.symm (sn41 _ f47).2)
  have f71 : Arv Z h45 d41 k41 .byte (0 : Int32) [] (.int 0) := V41.other W45 ne70
  have f72 : Arv Z h48 d41 k41 .byte (0 : Int32) [] (.int 0) := f71.ext E48
  have f73 : Arv Z h57 d41 k41 .byte (0 : Int32) [] (.int 0) := f72.other W57 ne70
  have le74 : (h48).size ≤ (h57).size := (Nat.le_of_eq (Wr.size W57).symm)
  have f75 : CHr Z EL s.vm s.heap T48.vm h57 := f58.trans (CHr.wr W57 f62 f58.1)
  refine endC X57 hlk hS48 (by rw [e57]; exact (Nat.le_trans hk48 le74)) hZ48 (own_EW hw) (by rw [e57]; exact f75) (fun _ => rfl) (lastV X57 hx hret (hb hby d_jdk_42m149_26)) ?_ (by decide) (by decide)
  rw [e57]
  exact ⟨d41, k41, rfl, N57, K66, f67, f69, Fw57, f73⟩
theorem d_jdk_42m3_0 : decode jdk_42_method_3_code 0 = .ok (.aload_n 0, 1) := by decide +kernel
theorem d_jdk_42m3_1 : decode jdk_42_method_3_code 1 = .ok (.aload_n 1, 1) := by decide +kernel
theorem d_jdk_42m3_2 : decode jdk_42_method_3_code 2 = .ok (.iconst 0, 1) := by decide +kernel
theorem d_jdk_42m3_3 : decode jdk_42_method_3_code 3 = .ok (.aload_n 1, 1) := by decide +kernel
theorem d_jdk_42m3_4 : decode jdk_42_method_3_code 4 = .ok (.arraylength, 1) := by decide +kernel
theorem d_jdk_42m3_5 : decode jdk_42_method_3_code 5 = .ok (.aconst_null, 1) := by decide +kernel
theorem d_jdk_42m3_6 : decode jdk_42_method_3_code 6 = .ok (.invokespecial 27, 3) := by decide +kernel
theorem wd14 {a0 : Array Value} {Z : State} (hw : ∀ d ∈ tables_1, d.before a0 Z = true) : ((Jvm.Cond.code ({ cls := "java/lang/String", name := "<init>", desc := "([CIILjava/lang/Void;)V" } : Jvm.MethodName) jdk_42_method_149_code (6 : Nat) (Option.none : Option Jvm.ClassFile.FieldType)) : Jvm.Cond).before a0 Z = true := hw _ (List.mem_of_getElem? (i := 14) rfl)
theorem wd2 {a0 : Array Value} {Z : State} (hw : ∀ d ∈ tables_1, d.before a0 Z = true) : ((Jvm.Cond.initialized "java/lang/String") : Jvm.Cond).before a0 Z = true := hw _ (List.mem_of_getElem? (i := 2) rfl)
theorem pd0 : parseMethodDescriptor "([CIILjava/lang/Void;)V" = some ⟨[(.array .char), .int, .int, (.object "java/lang/Void")], none⟩ := by decide +kernel
theorem wd11 {a0 : Array Value} {Z : State} (hw : ∀ d ∈ tables_1, d.before a0 Z = true) : ((Jvm.Cond.methodLink "java/lang/String" (27 : Nat) ({ cls := "java/lang/String", name := "<init>", desc := "([CIILjava/lang/Void;)V" } : Jvm.MethodName)) : Jvm.Cond).before a0 Z = true := hw _ (List.mem_of_getElem? (i := 11) rfl)
theorem wd12 {a0 : Array Value} {Z : State} (hw : ∀ d ∈ tables_1, d.before a0 Z = true) : ((Jvm.Cond.instanceMethod ({ cls := "java/lang/String", name := "<init>", desc := "([CIILjava/lang/Void;)V" } : Jvm.MethodName)) : Jvm.Cond).before a0 Z = true := hw _ (List.mem_of_getElem? (i := 12) rfl)
theorem d_jdk_42m3_9 : decode jdk_42_method_3_code 9 = .ok (.return_, 1) := by decide +kernel
def Q_new1e (Z : State) (a1 : Addr) (a2 : Addr) (kc : ClassId) (cl : List Value) (h0 : Heap) (v : Option Value) (h : Heap) (L : List Loc) : Prop := ∃ (t : Addr), ∃ (kb : ClassId), v = none ∧ Fr Z.heap.size L ∧ Keep h0 h [a1] ∧ Exa Z h a1 "java/lang/String" ∧ Fld Z h a1 "java/lang/String" "value" "[B" (.ref t) ∧ Fld Z h a1 "java/lang/String" "coder" "B" (.int (0 : Int32)) ∧ Arv Z h t kb .byte (0 : Int32) [] (.int 0)
set_option maxRecDepth 65536 in
set_option maxHeartbeats 40000000 in
theorem rm_new1e (l : Launch) (Z : State) (a0 : Array Value) (hw : ∀ d ∈ tables_1, d.before a0 Z = true) (zC : Int32) (SC : Sta Z Z.heap "java/lang/String" "COMPACT_STRINGS" "Z" (.int zC)) (PC : ¬ zC = (0 : Int32)) (a1 : Addr) (a2 : Addr) (kc : ClassId) (cl : List Value) (h0 : Heap) (O0 : Old Z Z.heap.size h0) (P1 : Exa Z h0 a1 "java/lang/String") (P2 : Fld Z h0 a1 "java/lang/String" "value" "[B" .null) (P3 : Fld Z h0 a1 "java/lang/String" "coder" "B" (.int (0 : Int32))) (P4 : Z.heap.size ≤ a1) (P6 : Arv Z h0 a2 kc .char (0 : Int32) cl (.int 0)) :
    ConS l Z EL (⟨"java/lang/String", "<init>", "([C)V"⟩ : MethodName) jdk_42_method_3_code 2 none ({ frames := 2, cells := 4, slots := 8, locals := 29 } : Room) #[(.ref a1), (.ref a2)] h0 [a1] (Q_new1e Z a1 a2 kc cl h0) := by
  refine ConS.intro pn1 ?_
  intro p e s m below meth c T0 v0 X0 hx hby hml hown0 hnm hret hlk hZ0 e0 hS0 C0 hsl0
  have P5 := hsl0 a1 (by simp)
  have N0 := Fr.nil Z.heap.size
  refine castGo (g' := mkF m 0 #[.val (.ref a1), .val (.ref a2)] []) (by first | rfl | (simp [entryFrame, mkF, argsToLocals, Value.category]; done)) ?_
  show Go _ _ _ _ (T0.setTop (mkF m 0 #[.val (.ref a1), .val (.ref a2)] []))
  refine aL X0 hx (hb hby d_jdk_42m3_0) (q := 1) rfl rfl rfl ?_
  refine aL X0 hx (hb hby d_jdk_42m3_1) (q := 2) rfl rfl rfl ?_
  refine cI X0 hx (hb hby d_jdk_42m3_2) (q := 3) rfl (z := (0 : Int32)) rfl ?_
  refine aL X0 hx (hb hby d_jdk_42m3_3) (q := 4) rfl rfl rfl ?_
  refine g_len X0 hx hZ0 P6 e0 (hb hby d_jdk_42m3_4) (q := 5) rfl ?_
  refine cN X0 hx (hb hby d_jdk_42m3_5) (q := 6) rfl ?_
  refine g_spS X0 hx hZ0 hown0 hS0 (Nat.zero_le _) (wd11 hw) (wd12 hw) (wd14 hw) rfl (by decide) e0 (ConS.back (W := 0) (rm_new4e l Z a0 hw zC SC PC a1 a2 h0 O0 P1 P2 P3 P4) hZ0 (wd14 hw) (wd2 hw) (by decide) (by decide) (own_EW hw) C0.1 (sfS P5 sf0) (allS (Nat.lt_of_lt_of_le P1.lt (Nat.le_refl _)) all0)) (by rw [hml]; rfl) (lenOf pd0 rfl) rfl (Nat.le_of_eq rfl) (hb hby d_jdk_42m3_6) (q := 9) rfl (by decide) (by decide) ?_
  rintro v76 T76 L76 ⟨X76, hS76, hZ76, hown76, R76⟩ Q76
  obtain ⟨t_76, kb_76, rfl, Nq76, K76q, q76_0, q76_1, q76_2, q76_3⟩ := Q76
  have N76 := Fr.app N0 Nq76
  show Go _ _ _ _ (T76.setTop (mkF m 9 #[.val (.ref a1), .val (.ref a2)] []))
  have K77 : Keep h0 T76.heap [a1] := (Keep.refl h0 [a1]).trans K76q (allS (Or.inl (by simp)) all0)
  have f78 : CHr Z EL s.vm s.heap T76.vm T76.heap := C0.trans R76
  refine endC X76 hlk hS76 (Nat.le_trans (Nat.le_refl _) (Nat.le_refl _)) hZ76 (own_EW hw) f78 (fun _ => rfl) (lastV X76 hx hret (hb hby d_jdk_42m3_9)) ?_ (by decide) (by decide)
  exact ⟨t_76, kb_76, rfl, N76, K77, q76_0, q76_1, q76_2, q76_3⟩
theorem d_jdk_31m11_0 : decode jdk_31_method_11_code 0 = .ok (.aload_n 0, 1) := by decide +kernel
theorem d_jdk_31m11_1 : decode jdk_31_method_11_code 1 = .ok (.ifnonnull 12, 3) := by decide +kernel
theorem d_jdk_31m11_13 : decode jdk_31_method_11_code 13 = .ok (.aload_n 0, 1) := by decide +kernel
theorem d_jdk_31m11_14 : decode jdk_31_method_11_code 14 = .ok (.areturn, 1) := by decide +kernel
def Q_rnn (Z : State) (a1 : Addr) (a2 : Addr) (h0 : Heap) (v : Option Value) (h : Heap) (L : List Loc) : Prop := v = some (.ref a1) ∧ Fr Z.heap.size L ∧ h = h0
theorem pn2 : plainName "java/util/Objects" = true := by first | (simp [plainName, overriddenIn]; done) | decide +kernel
set_option maxRecDepth 65536 in
set_option maxHeartbeats 40000000 in
theorem rm_rnn (l : Launch) (Z : State) (a0 : Array Value) (hw : ∀ d ∈ tables_1, d.before a0 Z = true) (zC : Int32) (SC : Sta Z Z.heap "java/lang/String" "COMPACT_STRINGS" "Z" (.int zC)) (PC : ¬ zC = (0 : Int32)) (a1 : Addr) (a2 : Addr) (h0 : Heap) (O0 : Old Z Z.heap.size h0)  :
    Con l Z (⟨"java/util/Objects", "requireNonNull", "(Ljava/lang/Object;Ljava/lang/String;)Ljava/lang/Object;"⟩ : MethodName) jdk_31_method_11_code 2 (some (.object "java/lang/Object")) ({ frames := 0, cells := 0, slots := 0, locals := 0 } : Room) #[(.ref a1), (.ref a2)] h0 (Q_rnn Z a1 a2 h0) := by
  refine Con.intro pn2 ?_
  intro p e s m below meth c T0 X0 hx hby hml hown0 hnm hret hlk hZ0 e0
  have N0 := Fr.nil Z.heap.size
  refine castGo (g' := mkF m 0 #[.val (.ref a1), .val (.ref a2)] []) (by first | rfl | (simp [entryFrame, mkF, argsToLocals, Value.category]; done)) ?_
  show Go _ _ _ _ (T0.setTop (mkF m 0 #[.val (.ref a1), .val (.ref a2)] []))
  refine aL X0 hx (hb hby d_jdk_31m11_0) (q := 1) rfl rfl rfl ?_
  refine nnY X0 hx (hb hby d_jdk_31m11_1) (q := 13) (by decide) (by decide) ?_
  refine aL X0 hx (hb hby d_jdk_31m11_13) (q := 14) rfl rfl rfl ?_
  refine endP X0 hlk (fun h => by rw [hret] at h; cases h) (lastA X0 hx hret rfl rfl rfl (hb hby d_jdk_31m11_14)) ?_ (by decide) (by decide)
  rw [e0]
  exact ⟨rfl, N0, rfl⟩
theorem d_prog_19m1_0 : decode prog_19_method_1_code 0 = .ok (.aload_n 0, 1) := by decide +kernel
theorem d_prog_19m1_1 : decode prog_19_method_1_code 1 = .ok (.invokespecial 1, 3) := by decide +kernel
theorem wd41 {a0 : Array Value} {Z : State} (hw : ∀ d ∈ tables_1, d.before a0 Z = true) : ((Jvm.Cond.methodLink "com/example/handoff/handoff/internal/Payload" (1 : Nat) ({ cls := "java/lang/Object", name := "<init>", desc := "()V" } : Jvm.MethodName)) : Jvm.Cond).before a0 Z = true := hw _ (List.mem_of_getElem? (i := 41) rfl)
theorem d_prog_19m1_4 : decode prog_19_method_1_code 4 = .ok (.aload_n 0, 1) := by decide +kernel
theorem d_prog_19m1_5 : decode prog_19_method_1_code 5 = .ok (.aload_n 1, 1) := by decide +kernel
theorem d_prog_19m1_6 : decode prog_19_method_1_code 6 = .ok (.putfield 7, 3) := by decide +kernel
theorem wd42 {a0 : Array Value} {Z : State} (hw : ∀ d ∈ tables_1, d.before a0 Z = true) : ((Jvm.Cond.fieldLink "com/example/handoff/handoff/internal/Payload" (7 : Nat) "com/example/handoff/handoff/internal/Payload" "contentType" "Ljava/lang/String;") : Jvm.Cond).before a0 Z = true := hw _ (List.mem_of_getElem? (i := 42) rfl)
theorem wd43 {a0 : Array Value} {Z : State} (hw : ∀ d ∈ tables_1, d.before a0 Z = true) : ((Jvm.Cond.laysFinal "com/example/handoff/handoff/internal/Payload" "com/example/handoff/handoff/internal/Payload" "contentType" "Ljava/lang/String;") : Jvm.Cond).before a0 Z = true := hw _ (List.mem_of_getElem? (i := 43) rfl)
theorem wd31 {a0 : Array Value} {Z : State} (hw : ∀ d ∈ tables_1, d.before a0 Z = true) : ((Jvm.Cond.instantiable "com/example/handoff/handoff/internal/Payload" (2 : Nat)) : Jvm.Cond).before a0 Z = true := hw _ (List.mem_of_getElem? (i := 31) rfl)
theorem d_prog_19m1_9 : decode prog_19_method_1_code 9 = .ok (.aload_n 0, 1) := by decide +kernel
theorem d_prog_19m1_10 : decode prog_19_method_1_code 10 = .ok (.aload_n 2, 1) := by decide +kernel
theorem d_prog_19m1_11 : decode prog_19_method_1_code 11 = .ok (.putfield 13, 3) := by decide +kernel
theorem wd44 {a0 : Array Value} {Z : State} (hw : ∀ d ∈ tables_1, d.before a0 Z = true) : ((Jvm.Cond.fieldLink "com/example/handoff/handoff/internal/Payload" (13 : Nat) "com/example/handoff/handoff/internal/Payload" "bytes" "[B") : Jvm.Cond).before a0 Z = true := hw _ (List.mem_of_getElem? (i := 44) rfl)
theorem wd45 {a0 : Array Value} {Z : State} (hw : ∀ d ∈ tables_1, d.before a0 Z = true) : ((Jvm.Cond.laysFinal "com/example/handoff/handoff/internal/Payload" "com/example/handoff/handoff/internal/Payload" "bytes" "[B") : Jvm.Cond).before a0 Z = true := hw _ (List.mem_of_getElem? (i := 45) rfl)
theorem d_prog_19m1_14 : decode prog_19_method_1_code 14 = .ok (.return_, 1) := by decide +kernel
def Q_payinit (Z : State) (a1 : Addr) (a2 : Addr) (a3 : Addr) (h0 : Heap) (v : Option Value) (h : Heap) (L : List Loc) : Prop := v = none ∧ Fr Z.heap.size L ∧ Keep h0 h [a1] ∧ Exa Z h a1 "com/example/handoff/handoff/internal/Payload" ∧ Fld Z h a1 "com/example/handoff/handoff/internal/Payload" "contentType" "Ljava/lang/String;" (.ref a2) ∧ Fld Z h a1 "com/example/handoff/handoff/internal/Payload" "bytes" "[B" (.ref a3)
theorem pn3 : plainName "com/example/handoff/handoff/internal/Payload" = true := by first | (simp [plainName, overriddenIn]; done) | decide +kernel
set_option maxRecDepth 65536 in
set_option maxHeartbeats 40000000 in
theorem rm_payinit (l : Launch) (Z : State) (a0 : Array Value) (hw : ∀ d ∈ tables_1, d.before a0 Z = true) (zC : Int32) (SC : Sta Z Z.heap "java/lang/String" "COMPACT_STRINGS" "Z" (.int zC)) (PC : ¬ zC = (0 : Int32)) (a1 : Addr) (a2 : Addr) (a3 : Addr) (h0 : Heap) (O0 : Old Z Z.heap.size h0) (P1 : Exa Z h0 a1 "com/example/handoff/handoff/internal/Payload") (P2 : Fld Z h0 a1 "com/example/handoff/handoff/internal/Payload" "contentType" "Ljava/lang/String;" .null) (P3 : Fld Z h0 a1 "com/example/handoff/handoff/internal/Payload" "bytes" "[B" .null) (P4 : Z.heap.size ≤ a1) :
    Con l Z (⟨"com/example/handoff/handoff/internal/Payload", "<init>", "(Ljava/lang/String;[B)V"⟩ : MethodName) prog_19_method_1_code 3 none ({ frames := 1, cells := 0, slots := 0, locals := 12 } : Room) #[(.ref a1), (.ref a2), (.ref a3)] h0 (Q_payinit Z a1 a2 a3 h0) := by
  refine Con.intro pn3 ?_
  intro p e s m below meth c T0 X0 hx hby hml hown0 hnm hret hlk hZ0 e0
  have N0 := Fr.nil Z.heap.size
  refine castGo (g' := mkF m 0 #[.val (.ref a1), .val (.ref a2), .val (.ref a3)] []) (by first | rfl | (simp [entryFrame, mkF, argsToLocals, Value.category]; done)) ?_
  show Go _ _ _ _ (T0.setTop (mkF m 0 #[.val (.ref a1), .val (.ref a2), .val (.ref a3)] []))
  refine aL X0 hx (hb hby d_prog_19m1_0) (q := 1) rfl rfl rfl ?_
  refine g_init0 X0 hx hZ0 hown0 (wd41 hw) (wd16 hw) (wd17 hw) (by rw [hml]; rfl) (by decide) (W := 0) (Nat.le_of_eq rfl) (by decide) e0 (hb hby d_prog_19m1_1) (q := 4) rfl ?_
  intro T79 X79 e79
  refine aL X79 hx (hb hby d_prog_19m1_4) (q := 5) rfl rfl rfl ?_
  refine aL X79 hx (hb hby d_prog_19m1_5) (q := 6) rfl rfl rfl ?_
  refine g_putF X79 hx hZ0 hown0 (host := "") (Or.inl (wd42 hw)) Via.refl P2 P1 (Or.inr ⟨(wd43 hw), rfl, hnm⟩) (wd31 hw) (ty := (.object "java/lang/String")) (by decide) rfl rfl e79 (hb hby d_prog_19m1_6) (q := 9) rfl ?_
  intro T80 h80 X80 e80 W80
  have N80 := Fr.snoc X80 N0 P4
  have Fw80 : Fld Z h80 a1 "com/example/handoff/handoff/internal/Payload" "contentType" "Ljava/lang/String;" (.ref a2) := P2.same W80
  refine aL X80 hx (hb hby d_prog_19m1_9) (q := 10) rfl rfl rfl ?_
  refine aL X80 hx (hb hby d_prog_19m1_10) (q := 11) rfl rfl rfl ?_
  have f81 : Fld Z h80 a1 "com/example/handoff/handoff/internal/Payload" "bytes" "[B" .null := P3.other W80 (Or.inr (slot_ne (Or.inr (wd45 hw)) (Or.inr (wd43 hw)) (by decide) (t := (.array .byte)) (t' := (.object "java/lang/String")) (by decide) (by decide)))
  have f82 : Exa Z h80 a1 "com/example/handoff/handoff/internal/Payload" := P1.wr W80
  refine g_putF X80 hx hZ0 hown0 (host := "") (Or.inl (wd44 hw)) Via.refl f81 f82 (Or.inr ⟨(wd45 hw), rfl, hnm⟩) (wd31 hw) (ty := (.array .byte)) (by decide) rfl rfl e80 (hb hby d_prog_19m1_11) (q := 14) rfl ?_
  intro T83 h83 X83 e83 W83
  have N83 := Fr.snoc X83 N80 P4
  have Fw83 : Fld Z h83 a1 "com/example/handoff/handoff/internal/Payload" "bytes" "[B" (.ref a3) := f81.same W83
  have K84 : Keep h0 h80 [a1] := (Keep.refl h0 [a1]).wr W80 (Or.inl (by simp))
  have K85 : Keep h0 h83 [a1] := K84.wr W83 (Or.inl (by simp))
  have f86 : Exa Z h83 a1 "com/example/handoff/handoff/internal/Payload" := f82.wr W83
  have f87 : Fld Z h83 a1 "com/example/handoff/handoff/internal/Payload" "contentType" "Ljava/lang/String;" (.ref a2) := Fw80.other W83 (Or.inr (slot_ne (Or.inr (wd43 hw)) (Or.inr (wd45 hw)) (by decide) (t := (.object "java/lang/String")) (t' := (.array .byte)) (by decide) (by decide)))
  refine endP X83 hlk (fun _ => rfl) (lastV X83 hx hret (hb hby d_prog_19m1_14)) ?_ (by decide) (by decide)
  rw [e83]
  exact ⟨rfl, N83, K85, f86, f87, Fw83⟩
theorem d_prog_19m3_0 : decode prog_19_method_3_code 0 = .ok (.new 8, 3) := by decide +kernel
theorem wd30 {a0 : Array Value} {Z : State} (hw : ∀ d ∈ tables_1, d.before a0 Z = true) : ((Jvm.Cond.classLink "com/example/handoff/handoff/internal/Payload" (8 : Nat) "com/example/handoff/handoff/internal/Payload") : Jvm.Cond).before a0 Z = true := hw _ (List.mem_of_getElem? (i := 30) rfl)
theorem wd28 {a0 : Array Value} {Z : State} (hw : ∀ d ∈ tables_1, d.before a0 Z = true) : ((Jvm.Cond.initialized "com/example/handoff/handoff/internal/Payload") : Jvm.Cond).before a0 Z = true := hw _ (List.mem_of_getElem? (i := 28) rfl)
theorem d_prog_19m3_3 : decode prog_19_method_3_code 3 = .ok (.dup, 1) := by decide +kernel
theorem d_prog_19m3_4 : decode prog_19_method_3_code 4 = .ok (.aload_n 0, 1) := by decide +kernel
theorem d_prog_19m3_5 : decode prog_19_method_3_code 5 = .ok (.ldc 34, 2) := by decide +kernel
theorem d_prog_19m3_7 : decode prog_19_method_3_code 7 = .ok (.invokestatic 35, 3) := by decide +kernel
theorem wd36 {a0 : Array Value} {Z : State} (hw : ∀ d ∈ tables_1, d.before a0 Z = true) : ((Jvm.Cond.code ({ cls := "java/util/Objects", name := "requireNonNull", desc := "(Ljava/lang/Object;Ljava/lang/String;)Ljava/lang/Object;" } : Jvm.MethodName) jdk_31_method_11_code (2 : Nat) (Option.some (Jvm.ClassFile.FieldType.object "java/lang/Object"))) : Jvm.Cond).before a0 Z = true := hw _ (List.mem_of_getElem? (i := 36) rfl)
theorem wd35 {a0 : Array Value} {Z : State} (hw : ∀ d ∈ tables_1, d.before a0 Z = true) : ((Jvm.Cond.initialized "java/util/Objects") : Jvm.Cond).before a0 Z = true := hw _ (List.mem_of_getElem? (i := 35) rfl)
theorem pd1 : parseMethodDescriptor "(Ljava/lang/Object;Ljava/lang/String;)Ljava/lang/Object;" = some ⟨[(.object "java/lang/Object"), (.object "java/lang/String")], some (.object "java/lang/Object")⟩ := by decide +kernel
theorem wd33 {a0 : Array Value} {Z : State} (hw : ∀ d ∈ tables_1, d.before a0 Z = true) : ((Jvm.Cond.methodLink "com/example/handoff/handoff/internal/Payload" (35 : Nat) ({ cls := "java/util/Objects", name := "requireNonNull", desc := "(Ljava/lang/Object;Ljava/lang/String;)Ljava/lang/Object;" } : Jvm.MethodName)) : Jvm.Cond).before a0 Z = true := hw _ (List.mem_of_getElem? (i := 33) rfl)
theorem wd34 {a0 : Array Value} {Z : State} (hw : ∀ d ∈ tables_1, d.before a0 Z = true) : ((Jvm.Cond.static ({ cls := "java/util/Objects", name := "requireNonNull", desc := "(Ljava/lang/Object;Ljava/lang/String;)Ljava/lang/Object;" } : Jvm.MethodName)) : Jvm.Cond).before a0 Z = true := hw _ (List.mem_of_getElem? (i := 34) rfl)
theorem d_prog_19m3_10 : decode prog_19_method_3_code 10 = .ok (.checkcast 26, 3) := by decide +kernel
theorem wd37 {a0 : Array Value} {Z : State} (hw : ∀ d ∈ tables_1, d.before a0 Z = true) : ((Jvm.Cond.classLink "com/example/handoff/handoff/internal/Payload" (26 : Nat) "java/lang/String") : Jvm.Cond).before a0 Z = true := hw _ (List.mem_of_getElem? (i := 37) rfl)
theorem d_prog_19m3_13 : decode prog_19_method_3_code 13 = .ok (.iconst 0, 1) := by decide +kernel
theorem d_prog_19m3_14 : decode prog_19_method_3_code 14 = .ok (.newarray .byte, 2) := by decide +kernel
theorem wd19 {a0 : Array Value} {Z : State} (hw : ∀ d ∈ tables_1, d.before a0 Z = true) : ((Jvm.Cond.arrayClass Jvm.ClassFile.FieldType.byte) : Jvm.Cond).before a0 Z = true := hw _ (List.mem_of_getElem? (i := 19) rfl)
theorem d_prog_19m3_16 : decode prog_19_method_3_code 16 = .ok (.invokespecial 31, 3) := by decide +kernel
theorem wd40 {a0 : Array Value} {Z : State} (hw : ∀ d ∈ tables_1, d.before a0 Z = true) : ((Jvm.Cond.code ({ cls := "com/example/handoff/handoff/internal/Payload", name := "<init>", desc := "(Ljava/lang/String;[B)V" } : Jvm.MethodName) prog_19_method_1_code (3 : Nat) (Option.none : Option Jvm.ClassFile.FieldType)) : Jvm.Cond).before a0 Z = true := hw _ (List.mem_of_getElem? (i := 40) rfl)
theorem pd2 : parseMethodDescriptor "(Ljava/lang/String;[B)V" = some ⟨[(.object "java/lang/String"), (.array .byte)], none⟩ := by decide +kernel
theorem wd38 {a0 : Array Value} {Z : State} (hw : ∀ d ∈ tables_1, d.before a0 Z = true) : ((Jvm.Cond.methodLink "com/example/handoff/handoff/internal/Payload" (31 : Nat) ({ cls := "com/example/handoff/handoff/internal/Payload", name := "<init>", desc := "(Ljava/lang/String;[B)V" } : Jvm.MethodName)) : Jvm.Cond).before a0 Z = true := hw _ (List.mem_of_getElem? (i := 38) rfl)
theorem wd39 {a0 : Array Value} {Z : State} (hw : ∀ d ∈ tables_1, d.before a0 Z = true) : ((Jvm.Cond.instanceMethod ({ cls := "com/example/handoff/handoff/internal/Payload", name := "<init>", desc := "(Ljava/lang/String;[B)V" } : Jvm.MethodName)) : Jvm.Cond).before a0 Z = true := hw _ (List.mem_of_getElem? (i := 39) rfl)
theorem d_prog_19m3_19 : decode prog_19_method_3_code 19 = .ok (.areturn, 1) := by decide +kernel
def Q_empty (Z : State) (a1 : Addr) (h0 : Heap) (v : Option Value) (h : Heap) (L : List Loc) : Prop := ∃ (r : Addr), ∃ (t : Addr), ∃ (kb : ClassId), v = some (.ref r) ∧ Fr Z.heap.size L ∧ Keep h0 h [] ∧ Exa Z h r "com/example/handoff/handoff/internal/Payload" ∧ Fld Z h r "com/example/handoff/handoff/internal/Payload" "contentType" "Ljava/lang/String;" (.ref a1) ∧ Fld Z h r "com/example/handoff/handoff/internal/Payload" "bytes" "[B" (.ref t) ∧ Arv Z h t kb .byte (0 : Int32) [] (.int 0)
set_option maxRecDepth 65536 in
set_option maxHeartbeats 40000000 in
theorem rm_empty (l : Launch) (Z : State) (a0 : Array Value) (hw : ∀ d ∈ tables_1, d.before a0 Z = true) (zC : Int32) (SC : Sta Z Z.heap "java/lang/String" "COMPACT_STRINGS" "Z" (.int zC)) (PC : ¬ zC = (0 : Int32)) (a1 : Addr) (h0 : Heap) (O0 : Old Z Z.heap.size h0) (P1 : Exa Z h0 a1 "java/lang/String") :
    ConS l Z EL (⟨"com/example/handoff/handoff/internal/Payload", "empty", "(Ljava/lang/String;)Lcom/example/handoff/handoff/internal/Payload;"⟩ : MethodName) prog_19_method_3_code 1 (some (.object "com/example/handoff/handoff/internal/Payload")) ({ frames := 2, cells := 4, slots := 50, locals := 27 } : Room) #[(.ref a1)] h0 [] (Q_empty Z a1 h0) := by
  refine ConS.intro pn3 ?_
  intro p e s m below meth c T0 v0 X0 hx hby hml hown0 hnm hret hlk hZ0 e0 hS0 C0 hsl0
  have N0 := Fr.nil Z.heap.size
  refine castGo (g' := mkF m 0 #[.val (.ref a1)] []) (by first | rfl | (simp [entryFrame, mkF, argsToLocals, Value.category]; done)) ?_
  show Go _ _ _ _ (T0.setTop (mkF m 0 #[.val (.ref a1)] []))
  refine g_new X0 hx hZ0 hown0 (wd30 hw) (wd31 hw) (wd28 hw) (by decide) (by decide) e0 (hb hby d_prog_19m3_0) (q := 3) rfl ?_
  intro T88 h88 b88 g88 X88 e88 E88 A88 D88
  have sf89 : Safe Z EL v0 h0 b88 := Safe.new (Nat.le_of_eq g88.symm)
  have F88_43 := D88 (Or.inr (wd43 hw)) (ty := (.object "java/lang/String")) (by decide)
  have F88_45 := D88 (Or.inr (wd45 hw)) (ty := (.array .byte)) (by decide)
  refine g_dup X88 hx (hb hby d_prog_19m3_3) (q := 4) rfl rfl ?_
  refine aL X88 hx (hb hby d_prog_19m3_4) (q := 5) rfl rfl rfl ?_
  have f91 : CHr Z EL s.vm s.heap v0 h88 := C0.trans (CHr.ext E88 C0.1)
  refine g_ldc X88 hx hZ0 hown0 (wd32 hw) (own_wS hw) hS0 (Nat.zero_le _) (own_EW hw) (by simp [EL]) f91.1 (vs := [(.int (99 : Int32)), (.int (111 : Int32)), (.int (110 : Int32)), (.int (116 : Int32)), (.int (101 : Int32)), (.int (110 : Int32)), (.int (116 : Int32)), (.int (84 : Int32)), (.int (121 : Int32)), (.int (112 : Int32)), (.int (101 : Int32))]) (z := (11 : Int32)) ⟨by decide, by decide⟩ (by decide) (by decide) (n := 44) (by decide) (by decide) (by decide) (by decide) e88 (hb hby d_prog_19m3_5) (q := 7) rfl ?_
  intro b90 T90 h90 kk90 d90 k90 X90 e90 E90 hS90 hk90 hZ90 hown90 A90 Fc90 Fv90 V90 lta90 ltb90 R90 sn90
  have f93 : Old Z Z.heap.size h88 := O0.ext E88
  have f94 : Old Z Z.heap.size h90 := f93.ext E90
  refine g_st X90 hx hZ90 hown90 (wd33 hw) (wd34 hw) (wd35 hw) (wd36 hw) (by decide) e90 (Con.back (W := 2) (rm_rnn l Z a0 hw zC SC PC a1 b90 h90 f94 ) hZ90 (wd36 hw) (wd35 hw) (by decide) (by decide)) (by rw [hml]; rfl) (lenOf pd1 rfl) rfl (Nat.le_of_eq rfl) (hb hby d_prog_19m3_7) (q := 10) rfl (by decide) (by decide) ?_
  intro v92 T92 L92 X92 Q92
  obtain ⟨rfl, Nq92, e92⟩ := Q92
  have N92 := Fr.app N0 Nq92
  show Go _ _ _ _ (T92.setTop (mkF m 10 #[.val (.ref a1)] [(.ref a1), (.ref b88), (.ref b88)]))
  have f96 : Exa Z h88 a1 "java/lang/String" := P1.ext E88
  have f97 : Exa Z h90 a1 "java/lang/String" := f96.ext E90
  refine g_cast X92 hx hZ90 hown90 (wd37 hw) (Ins.self f97) e92 (hb hby d_prog_19m3_10) (q := 13) rfl ?_
  intro T95 X95 e95
  refine cI X95 hx (hb hby d_prog_19m3_13) (q := 14) rfl (z := (0 : Int32)) rfl ?_
  refine g_newA X95 hx hZ90 (aty := .byte) (wd19 hw) (by decide) (n := 0) (by decide) (by decide) (by decide) (by decide) e95 (hb hby d_prog_19m3_14) (q := 16) rfl ?_
  intro T98 h98 k98 b98 g98 X98 e98 E98 V98
  have sf99 : Safe Z EL T90.vm h90 b98 := Safe.new (Nat.le_of_eq g98.symm)
  have Va98 : Arv Z h98 b98 k98 .byte (0 : Int32) [] (.int 0) := V98
  have f108 : Exa Z h90 b88 "com/example/handoff/handoff/internal/Payload" := A88.ext E90
  have f109 : Exa Z h98 b88 "com/example/handoff/handoff/internal/Payload" := f108.ext E98
  have f110 : Fld Z h90 b88 "com/example/handoff/handoff/internal/Payload" "contentType" "Ljava/lang/String;" .null := F88_43.ext E90
  have f111 : Fld Z h98 b88 "com/example/handoff/handoff/internal/Payload" "contentType" "Ljava/lang/String;" .null := f110.ext E98
  have f112 : Fld Z h90 b88 "com/example/handoff/handoff/internal/Payload" "bytes" "[B" .null := F88_45.ext E90
  have f113 : Fld Z h98 b88 "com/example/handoff/handoff/internal/Payload" "bytes" "[B" .null := f112.ext E98
  have gz114 : Z.heap.size ≤ b88 := Nat.le_trans O0.2.1 (Nat.le_of_eq g88.symm)
  have f115 : Old Z Z.heap.size h98 := f94.ext E98
  refine g_sp X98 hx hZ90 hown90 (wd38 hw) (wd39 hw) (wd40 hw) rfl (by decide) e98 (Con.back (W := 1) (rm_payinit l Z a0 hw zC SC PC b88 a1 b98 h98 f115 f109 f111 f113 gz114) hZ90 (wd40 hw) (wd28 hw) (by decide) (by decide)) (by rw [hml]; rfl) (lenOf pd2 rfl) rfl (Nat.le_of_eq rfl) (hb hby d_prog_19m3_16) (q := 19) rfl (by decide) (by decide) ?_
  intro v107 T107 L107 X107 Q107
  obtain ⟨rfl, Nq107, K107q, q107_0, q107_1, q107_2⟩ := Q107
  have N107 := Fr.app N92 Nq107
  show Go _ _ _ _ (T107.setTop (mkF m 19 #[.val (.ref a1)] [(.ref b88)]))
  have K116 : Keep h0 h88 [] := (Keep.refl h0 []).ext E88
  have K117 : Keep h0 h90 [] := K116.ext E90
  have K118 : Keep h0 h98 [] := K117.ext E98
  have gh119 : h0.size ≤ b88 := Nat.le_trans (Nat.le_refl _) (Nat.le_of_eq g88.symm)
  have K120 : Keep h0 T107.heap [] := K118.trans K107q (allS (Or.inr gh119) all0)
  have le121 : (h88).size ≤ (h90).size := E90.1
  have ne122 : b98 ≠ b88 := (Nat.ne_of_gt (Nat.lt_of_lt_of_le (Nat.lt_of_lt_of_le A88.lt le121) (Nat.le_of_eq g98.symm)))
  have f123 : Arv Z T107.heap b98 k98 .byte (0 : Int32) [] (.int 0) := Va98.keep K107q (ninS ne122 nin0)
  have le124 : (h90).size ≤ (h98).size := E98.1
  have le125 : (h90).size ≤ (T107.heap).size := (Nat.le_trans le124 K107q.1)
  have f126 : CHr Z EL s.vm s.heap T90.vm h90 := f91.trans R90
  have f127 : CHr Z EL s.vm s.heap T90.vm h98 := f126.trans (CHr.ext E98 f126.1)
  have f128 : Safe Z EL v0 h88 b88 := Safe.ext E88 C0.1 sf89
  have f129 : Safe Z EL T90.vm h90 b88 := R90.safe (Nat.lt_of_lt_of_le A88.lt (Nat.le_refl _)) f128
  have f130 : Safe Z EL T90.vm h98 b88 := Safe.ext E98 f126.1 f129
  have f131 : CHr Z EL s.vm s.heap T90.vm T107.heap := f127.trans (CHr.keep K107q (sfS f130 sf0) f127.1)
  refine endC X107 hlk hS90 (Nat.le_trans hk90 le125) hZ90 (own_EW hw) f131 (fun h => by rw [hret] at h; cases h) (lastA X107 hx hret rfl rfl rfl (hb hby d_prog_19m3_19)) ?_ (by decide) (by decide)
  exact ⟨b88, b98, k98, rfl, N107, K120, q107_0, q107_1, q107_2, f123⟩
theorem d_prog_19m4_0 : decode prog_19_method_4_code 0 = .ok (.aload_n 0, 1) := by decide +kernel
theorem d_prog_19m4_1 : decode prog_19_method_4_code 1 = .ok (.getfield 7, 3) := by decide +kernel
theorem d_prog_19m4_4 : decode prog_19_method_4_code 4 = .ok (.areturn, 1) := by decide +kernel
def Q_getct (Z : State) (a1 : Addr) (a2 : Addr) (h0 : Heap) (v : Option Value) (h : Heap) (L : List Loc) : Prop := v = some (.ref a2) ∧ Fr Z.heap.size L ∧ h = h0
set_option maxRecDepth 65536 in
set_option maxHeartbeats 40000000 in
theorem rm_getct (l : Launch) (Z : State) (a0 : Array Value) (hw : ∀ d ∈ tables_1, d.before a0 Z = true) (zC : Int32) (SC : Sta Z Z.heap "java/lang/String" "COMPACT_STRINGS" "Z" (.int zC)) (PC : ¬ zC = (0 : Int32)) (a1 : Addr) (a2 : Addr) (h0 : Heap) (O0 : Old Z Z.heap.size h0) (P1 : Fld Z h0 a1 "com/example/handoff/handoff/internal/Payload" "contentType" "Ljava/lang/String;" (.ref a2)) :
    Con l Z (⟨"com/example/handoff/handoff/internal/Payload", "getContentType", "()Ljava/lang/String;"⟩ : MethodName) prog_19_method_4_code 1 (some (.object "java/lang/String")) ({ frames := 0, cells := 0, slots := 0, locals := 0 } : Room) #[(.ref a1)] h0 (Q_getct Z a1 a2 h0) := by
  refine Con.intro pn3 ?_
  intro p e s m below meth c T0 X0 hx hby hml hown0 hnm hret hlk hZ0 e0
  have N0 := Fr.nil Z.heap.size
  refine castGo (g' := mkF m 0 #[.val (.ref a1)] []) (by first | rfl | (simp [entryFrame, mkF, argsToLocals, Value.category]; done)) ?_
  show Go _ _ _ _ (T0.setTop (mkF m 0 #[.val (.ref a1)] []))
  refine aL X0 hx (hb hby d_prog_19m4_0) (q := 1) rfl rfl rfl ?_
  refine g_getF X0 hx hZ0 hown0 (host := "") (Or.inl (wd42 hw)) Via.refl P1 e0 (hb hby d_prog_19m4_1) (q := 4) rfl ?_
  intro T132 X132 e132
  refine endP X132 hlk (fun h => by rw [hret] at h; cases h) (lastA X132 hx hret rfl rfl rfl (hb hby d_prog_19m4_4)) ?_ (by decide) (by decide)
  rw [e132]
  exact ⟨rfl, N0, rfl⟩
theorem d_prog_19m5_0 : decode prog_19_method_5_code 0 = .ok (.aload_n 0, 1) := by decide +kernel
theorem d_prog_19m5_1 : decode prog_19_method_5_code 1 = .ok (.getfield 13, 3) := by decide +kernel
theorem d_prog_19m5_4 : decode prog_19_method_5_code 4 = .ok (.areturn, 1) := by decide +kernel
def Q_getby (Z : State) (a1 : Addr) (a2 : Addr) (h0 : Heap) (v : Option Value) (h : Heap) (L : List Loc) : Prop := v = some (.ref a2) ∧ Fr Z.heap.size L ∧ h = h0
set_option maxRecDepth 65536 in
set_option maxHeartbeats 40000000 in
theorem rm_getby (l : Launch) (Z : State) (a0 : Array Value) (hw : ∀ d ∈ tables_1, d.before a0 Z = true) (zC : Int32) (SC : Sta Z Z.heap "java/lang/String" "COMPACT_STRINGS" "Z" (.int zC)) (PC : ¬ zC = (0 : Int32)) (a1 : Addr) (a2 : Addr) (h0 : Heap) (O0 : Old Z Z.heap.size h0) (P1 : Fld Z h0 a1 "com/example/handoff/handoff/internal/Payload" "bytes" "[B" (.ref a2)) :
    Con l Z (⟨"com/example/handoff/handoff/internal/Payload", "getBytes", "()[B"⟩ : MethodName) prog_19_method_5_code 1 (some (.array .byte)) ({ frames := 0, cells := 0, slots := 0, locals := 0 } : Room) #[(.ref a1)] h0 (Q_getby Z a1 a2 h0) := by
  refine Con.intro pn3 ?_
  intro p e s m below meth c T0 X0 hx hby hml hown0 hnm hret hlk hZ0 e0
  have N0 := Fr.nil Z.heap.size
  refine castGo (g' := mkF m 0 #[.val (.ref a1)] []) (by first | rfl | (simp [entryFrame, mkF, argsToLocals, Value.category]; done)) ?_
  show Go _ _ _ _ (T0.setTop (mkF m 0 #[.val (.ref a1)] []))
  refine aL X0 hx (hb hby d_prog_19m5_0) (q := 1) rfl rfl rfl ?_
  refine g_getF X0 hx hZ0 hown0 (host := "") (Or.inl (wd44 hw)) Via.refl P1 e0 (hb hby d_prog_19m5_1) (q := 4) rfl ?_
  intro T133 X133 e133
  refine endP X133 hlk (fun h => by rw [hret] at h; cases h) (lastA X133 hx hret rfl rfl rfl (hb hby d_prog_19m5_4)) ?_ (by decide) (by decide)
  rw [e133]
  exact ⟨rfl, N0, rfl⟩
theorem d_jdk_42m66_0 : decode jdk_42_method_66_code 0 = .ok (.aload_n 0, 1) := by decide +kernel
theorem d_jdk_42m66_1 : decode jdk_42_method_66_code 1 = .ok (.aload_n 1, 1) := by decide +kernel
theorem d_jdk_42m66_2 : decode jdk_42_method_66_code 2 = .ok (.if_acmp .ne 5, 3) := by decide +kernel
theorem d_jdk_42m66_5 : decode jdk_42_method_66_code 5 = .ok (.iconst 1, 1) := by decide +kernel
theorem d_jdk_42m66_6 : decode jdk_42_method_66_code 6 = .ok (.ireturn, 1) := by decide +kernel
def Q_eqid (Z : State) (a1 : Addr) (h0 : Heap) (v : Option Value) (h : Heap) (L : List Loc) : Prop := v = some (.int (1 : Int32)) ∧ Fr Z.heap.size L ∧ h = h0
set_option maxRecDepth 65536 in
set_option maxHeartbeats 40000000 in
theorem rm_eqid (l : Launch) (Z : State) (a0 : Array Value) (hw : ∀ d ∈ tables_1, d.before a0 Z = true) (zC : Int32) (SC : Sta Z Z.heap "java/lang/String" "COMPACT_STRINGS" "Z" (.int zC)) (PC : ¬ zC = (0 : Int32)) (a1 : Addr) (h0 : Heap) (O0 : Old Z Z.heap.size h0)  :
    Con l Z (⟨"java/lang/String", "equals", "(Ljava/lang/Object;)Z"⟩ : MethodName) jdk_42_method_66_code 3 (some .boolean) ({ frames := 0, cells := 0, slots := 0, locals := 0 } : Room) #[(.ref a1), (.ref a1)] h0 (Q_eqid Z a1 h0) := by
  refine Con.intro pn1 ?_
  intro p e s m below meth c T0 X0 hx hby hml hown0 hnm hret hlk hZ0 e0
  have N0 := Fr.nil Z.heap.size
  refine castGo (g' := mkF m 0 #[.val (.ref a1), .val (.ref a1), .unset] []) (by first | rfl | (simp [entryFrame, mkF, argsToLocals, Value.category]; done)) ?_
  show Go _ _ _ _ (T0.setTop (mkF m 0 #[.val (.ref a1), .val (.ref a1), .unset] []))
  refine aL X0 hx (hb hby d_jdk_42m66_0) (q := 1) rfl rfl rfl ?_
  refine aL X0 hx (hb hby d_jdk_42m66_1) (q := 2) rfl rfl rfl ?_
  refine g_acmp X0 hx (hb hby d_jdk_42m66_2) (q := 5) rfl rfl (same := true) (decide_eq_true rfl) (by decide) (by decide) ?_
  refine cI X0 hx (hb hby d_jdk_42m66_5) (q := 6) rfl (z := (1 : Int32)) rfl ?_
  refine endP X0 hlk (fun h => by rw [hret] at h; cases h) (lastN X0 hx (t := .boolean) (z' := (1 : Int32)) hret (by simp) (by decide) (hb hby d_jdk_42m66_6)) ?_ (by decide) (by decide)
  rw [e0]
  exact ⟨rfl, N0, rfl⟩
theorem d_jdk_42m152_0 : decode jdk_42_method_152_code 0 = .ok (.getstatic 38, 3) := by decide +kernel
theorem wd71 {a0 : Array Value} {Z : State} (hw : ∀ d ∈ tables_1, d.before a0 Z = true) : ((Jvm.Cond.fieldLink "java/lang/String" (38 : Nat) "java/lang/String" "COMPACT_STRINGS" "Z") : Jvm.Cond).before a0 Z = true := hw _ (List.mem_of_getElem? (i := 71) rfl)
theorem d_jdk_42m152_3 : decode jdk_42_method_152_code 3 = .ok (.ifCond .eq 10, 3) := by decide +kernel
theorem d_jdk_42m152_6 : decode jdk_42_method_152_code 6 = .ok (.aload_n 0, 1) := by decide +kernel
theorem d_jdk_42m152_7 : decode jdk_42_method_152_code 7 = .ok (.getfield 15, 3) := by decide +kernel
theorem d_jdk_42m152_10 : decode jdk_42_method_152_code 10 = .ok (.goto 4, 3) := by decide +kernel
theorem d_jdk_42m152_14 : decode jdk_42_method_152_code 14 = .ok (.ireturn, 1) := by decide +kernel
def Q_coder (Z : State) (a1 : Addr) (h0 : Heap) (v : Option Value) (h : Heap) (L : List Loc) : Prop := v = some (.int (0 : Int32)) ∧ Fr Z.heap.size L ∧ h = h0
set_option maxRecDepth 65536 in
set_option maxHeartbeats 40000000 in
theorem rm_coder (l : Launch) (Z : State) (a0 : Array Value) (hw : ∀ d ∈ tables_1, d.before a0 Z = true) (zC : Int32) (SC : Sta Z Z.heap "java/lang/String" "COMPACT_STRINGS" "Z" (.int zC)) (PC : ¬ zC = (0 : Int32)) (a1 : Addr) (h0 : Heap) (O0 : Old Z Z.heap.size h0) (P1 : Fld Z h0 a1 "java/lang/String" "coder" "B" (.int (0 : Int32))) :
    Con l Z (⟨"java/lang/String", "coder", "()B"⟩ : MethodName) jdk_42_method_152_code 1 (some .byte) ({ frames := 0, cells := 0, slots := 0, locals := 0 } : Room) #[(.ref a1)] h0 (Q_coder Z a1 h0) := by
  refine Con.intro pn1 ?_
  intro p e s m below meth c T0 X0 hx hby hml hown0 hnm hret hlk hZ0 e0
  have N0 := Fr.nil Z.heap.size
  refine castGo (g' := mkF m 0 #[.val (.ref a1)] []) (by first | rfl | (simp [entryFrame, mkF, argsToLocals, Value.category]; done)) ?_
  show Go _ _ _ _ (T0.setTop (mkF m 0 #[.val (.ref a1)] []))
  refine g_getS X0 hx hZ0 hown0 (host := "") (Or.inl (wd71 hw)) Via.refl (SC.ext O0.2) e0 (hb hby d_jdk_42m152_0) (q := 3) rfl ?_
  intro T134 X134 e134
  refine ifN X134 hx (hb hby d_jdk_42m152_3) (q := 6) rfl ((if0 _ _).trans (feq PC).1) ?_
  refine aL X134 hx (hb hby d_jdk_42m152_6) (q := 7) rfl rfl rfl ?_
  refine g_getF X134 hx hZ0 hown0 (host := "") (Or.inl (wd25 hw)) Via.refl P1 e134 (hb hby d_jdk_42m152_7) (q := 10) rfl ?_
  intro T135 X135 e135
  refine g_goto X135 hx (hb hby d_jdk_42m152_10) (q := 14) (by decide) (by decide) ?_
  refine endP X135 hlk (fun h => by rw [hret] at h; cases h) (lastN X135 hx (t := .byte) (z' := (0 : Int32)) hret (by simp) (by decide) (hb hby d_jdk_42m152_14)) ?_ (by decide) (by decide)
  rw [e135]
  exact ⟨rfl, N0, rfl⟩
theorem d_jdk_42m54_0 : decode jdk_42_method_54_code 0 = .ok (.aload_n 0, 1) := by decide +kernel
theorem d_jdk_42m54_1 : decode jdk_42_method_54_code 1 = .ok (.getfield 9, 3) := by decide +kernel
theorem d_jdk_42m54_4 : decode jdk_42_method_54_code 4 = .ok (.arraylength, 1) := by decide +kernel
theorem d_jdk_42m54_5 : decode jdk_42_method_54_code 5 = .ok (.aload_n 0, 1) := by decide +kernel
theorem d_jdk_42m54_6 : decode jdk_42_method_54_code 6 = .ok (.invokevirtual 335, 3) := by decide +kernel
theorem wd70 {a0 : Array Value} {Z : State} (hw : ∀ d ∈ tables_1, d.before a0 Z = true) : ((Jvm.Cond.code ({ cls := "java/lang/String", name := "coder", desc := "()B" } : Jvm.MethodName) jdk_42_method_152_code (1 : Nat) (Option.some Jvm.ClassFile.FieldType.byte)) : Jvm.Cond).before a0 Z = true := hw _ (List.mem_of_getElem? (i := 70) rfl)
theorem pd3 : parseMethodDescriptor "()B" = some ⟨[], some .byte⟩ := by decide +kernel
theorem wd69 {a0 : Array Value} {Z : State} (hw : ∀ d ∈ tables_1, d.before a0 Z = true) : ((Jvm.Cond.selects "java/lang/String" ({ cls := "java/lang/String", name := "coder", desc := "()B" } : Jvm.MethodName) ({ cls := "java/lang/String", name := "coder", desc := "()B" } : Jvm.MethodName)) : Jvm.Cond).before a0 Z = true := hw _ (List.mem_of_getElem? (i := 69) rfl)
theorem wd66 {a0 : Array Value} {Z : State} (hw : ∀ d ∈ tables_1, d.before a0 Z = true) : ((Jvm.Cond.methodLink "java/lang/String" (335 : Nat) ({ cls := "java/lang/String", name := "coder", desc := "()B" } : Jvm.MethodName)) : Jvm.Cond).before a0 Z = true := hw _ (List.mem_of_getElem? (i := 66) rfl)
theorem wd67 {a0 : Array Value} {Z : State} (hw : ∀ d ∈ tables_1, d.before a0 Z = true) : ((Jvm.Cond.declares ({ cls := "java/lang/String", name := "coder", desc := "()B" } : Jvm.MethodName)) : Jvm.Cond).before a0 Z = true := hw _ (List.mem_of_getElem? (i := 67) rfl)
theorem wd68 {a0 : Array Value} {Z : State} (hw : ∀ d ∈ tables_1, d.before a0 Z = true) : ((Jvm.Cond.instanceMethod ({ cls := "java/lang/String", name := "coder", desc := "()B" } : Jvm.MethodName)) : Jvm.Cond).before a0 Z = true := hw _ (List.mem_of_getElem? (i := 68) rfl)
theorem d_jdk_42m54_9 : decode jdk_42_method_54_code 9 = .ok (.ishr, 1) := by decide +kernel
theorem d_jdk_42m54_10 : decode jdk_42_method_54_code 10 = .ok (.ireturn, 1) := by decide +kernel
def Q_len0 (Z : State) (a1 : Addr) (t : Addr) (kb : ClassId) (vs : List Value) (h0 : Heap) (v : Option Value) (h : Heap) (L : List Loc) : Prop := v = some (.int (0 : Int32)) ∧ Fr Z.heap.size L ∧ h = h0
set_option maxRecDepth 65536 in
set_option maxHeartbeats 40000000 in
theorem rm_len0 (l : Launch) (Z : State) (a0 : Array Value) (hw : ∀ d ∈ tables_1, d.before a0 Z = true) (zC : Int32) (SC : Sta Z Z.heap "java/lang/String" "COMPACT_STRINGS" "Z" (.int zC)) (PC : ¬ zC = (0 : Int32)) (a1 : Addr) (t : Addr) (kb : ClassId) (vs : List Value) (h0 : Heap) (O0 : Old Z Z.heap.size h0) (P0 : Exa Z h0 a1 "java/lang/String") (P1 : Fld Z h0 a1 "java/lang/String" "coder" "B" (.int (0 : Int32))) (P2 : Fld Z h0 a1 "java/lang/String" "value" "[B" (.ref t)) (P3 : Arv Z h0 t kb .byte (0 : Int32) vs (.int 0)) :
    Con l Z (⟨"java/lang/String", "length", "()I"⟩ : MethodName) jdk_42_method_54_code 1 (some .int) ({ frames := 1, cells := 0, slots := 0, locals := 13 } : Room) #[(.ref a1)] h0 (Q_len0 Z a1 t kb vs h0) := by
  refine Con.intro pn1 ?_
  intro p e s m below meth c T0 X0 hx hby hml hown0 hnm hret hlk hZ0 e0
  have N0 := Fr.nil Z.heap.size
  refine castGo (g' := mkF m 0 #[.val (.ref a1)] []) (by first | rfl | (simp [entryFrame, mkF, argsToLocals, Value.category]; done)) ?_
  show Go _ _ _ _ (T0.setTop (mkF m 0 #[.val (.ref a1)] []))
  refine aL X0 hx (hb hby d_jdk_42m54_0) (q := 1) rfl rfl rfl ?_
  refine g_getF X0 hx hZ0 hown0 (host := "") (Or.inl (wd24 hw)) Via.refl P2 e0 (hb hby d_jdk_42m54_1) (q := 4) rfl ?_
  intro T136 X136 e136
  refine g_len X136 hx hZ0 P3 e136 (hb hby d_jdk_42m54_4) (q := 5) rfl ?_
  refine aL X136 hx (hb hby d_jdk_42m54_5) (q := 6) rfl rfl rfl ?_
  refine g_vi X136 hx hZ0 hown0 (wd66 hw) (wd67 hw) (notFace_of_selects (args := #[]) (mvT hZ0 (wd69 hw))) (wd69 hw) (wd68 hw) (by decide) P0 e136 (Con.back (W := 1) (rm_coder l Z a0 hw zC SC PC a1 h0 O0 P1) hZ0 (wd70 hw) (wd2 hw) (by decide) (by decide)) (by rw [hml]; rfl) (lenOf pd3 rfl) rfl (Nat.le_of_eq rfl) (hb hby d_jdk_42m54_6) (q := 9) rfl (by decide) (by decide) ?_
  intro v137 T137 L137 X137 Q137
  obtain ⟨rfl, Nq137, e137⟩ := Q137
  have N137 := Fr.app N0 Nq137
  show Go _ _ _ _ (T137.setTop (mkF m 9 #[.val (.ref a1)] [(.int (0 : Int32)), (.int (0 : Int32))]))
  refine g_ishr X137 hx (hb hby d_jdk_42m54_9) (q := 10) rfl (z := (0 : Int32)) (by decide) ?_
  refine endP X137 hlk (fun h => by rw [hret] at h; cases h) (lastI X137 hx hret (hb hby d_jdk_42m54_10)) ?_ (by decide) (by decide)
  rw [e137]
  exact ⟨rfl, N137, rfl⟩
def Q_len1 (Z : State) (a1 : Addr) (t : Addr) (kb : ClassId) (vs : List Value) (h0 : Heap) (v : Option Value) (h : Heap) (L : List Loc) : Prop := v = some (.int (1 : Int32)) ∧ Fr Z.heap.size L ∧ h = h0
set_option maxRecDepth 65536 in
set_option maxHeartbeats 40000000 in
theorem rm_len1 (l : Launch) (Z : State) (a0 : Array Value) (hw : ∀ d ∈ tables_1, d.before a0 Z = true) (zC : Int32) (SC : Sta Z Z.heap "java/lang/String" "COMPACT_STRINGS" "Z" (.int zC)) (PC : ¬ zC = (0 : Int32)) (a1 : Addr) (t : Addr) (kb : ClassId) (vs : List Value) (h0 : Heap) (O0 : Old Z Z.heap.size h0) (P0 : Exa Z h0 a1 "java/lang/String") (P1 : Fld Z h0 a1 "java/lang/String" "coder" "B" (.int (0 : Int32))) (P2 : Fld Z h0 a1 "java/lang/String" "value" "[B" (.ref t)) (P3 : Arv Z h0 t kb .byte (1 : Int32) vs (.int 0)) :
    Con l Z (⟨"java/lang/String", "length", "()I"⟩ : MethodName) jdk_42_method_54_code 1 (some .int) ({ frames := 1, cells := 0, slots := 0, locals := 13 } : Room) #[(.ref a1)] h0 (Q_len1 Z a1 t kb vs h0) := by
  refine Con.intro pn1 ?_
  intro p e s m below meth c T0 X0 hx hby hml hown0 hnm hret hlk hZ0 e0
  have N0 := Fr.nil Z.heap.size
  refine castGo (g' := mkF m 0 #[.val (.ref a1)] []) (by first | rfl | (simp [entryFrame, mkF, argsToLocals, Value.category]; done)) ?_
  show Go _ _ _ _ (T0.setTop (mkF m 0 #[.val (.ref a1)] []))
  refine aL X0 hx (hb hby d_jdk_42m54_0) (q := 1) rfl rfl rfl ?_
  refine g_getF X0 hx hZ0 hown0 (host := "") (Or.inl (wd24 hw)) Via.refl P2 e0 (hb hby d_jdk_42m54_1) (q := 4) rfl ?_
  intro T138 X138 e138
  refine g_len X138 hx hZ0 P3 e138 (hb hby d_jdk_42m54_4) (q := 5) rfl ?_
  refine aL X138 hx (hb hby d_jdk_42m54_5) (q := 6) rfl rfl rfl ?_
  refine g_vi X138 hx hZ0 hown0 (wd66 hw) (wd67 hw) (notFace_of_selects (args := #[]) (mvT hZ0 (wd69 hw))) (wd69 hw) (wd68 hw) (by decide) P0 e138 (Con.back (W := 1) (rm_coder l Z a0 hw zC SC PC a1 h0 O0 P1) hZ0 (wd70 hw) (wd2 hw) (by decide) (by decide)) (by rw [hml]; rfl) (lenOf pd3 rfl) rfl (Nat.le_of_eq rfl) (hb hby d_jdk_42m54_6) (q := 9) rfl (by decide) (by decide) ?_
  intro v139 T139 L139 X139 Q139
  obtain ⟨rfl, Nq139, e139⟩ := Q139
  have N139 := Fr.app N0 Nq139
  show Go _ _ _ _ (T139.setTop (mkF m 9 #[.val (.ref a1)] [(.int (0 : Int32)), (.int (1 : Int32))]))
  refine g_ishr X139 hx (hb hby d_jdk_42m54_9) (q := 10) rfl (z := (1 : Int32)) (by decide) ?_
  refine endP X139 hlk (fun h => by rw [hret] at h; cases h) (lastI X139 hx hret (hb hby d_jdk_42m54_10)) ?_ (by decide) (by decide)
  rw [e139]
  exact ⟨rfl, N139, rfl⟩
def Q_len2 (Z : State) (a1 : Addr) (t : Addr) (kb : ClassId) (vs : List Value) (h0 : Heap) (v : Option Value) (h : Heap) (L : List Loc) : Prop := v = some (.int (2 : Int32)) ∧ Fr Z.heap.size L ∧ h = h0
set_option maxRecDepth 65536 in
set_option maxHeartbeats 40000000 in
theorem rm_len2 (l : Launch) (Z : State) (a0 : Array Value) (hw : ∀ d ∈ tables_1, d.before a0 Z = true) (zC : Int32) (SC : Sta Z Z.heap "java/lang/String" "COMPACT_STRINGS" "Z" (.int zC)) (PC : ¬ zC = (0 : Int32)) (a1 : Addr) (t : Addr) (kb : ClassId) (vs : List Value) (h0 : Heap) (O0 : Old Z Z.heap.size h0) (P0 : Exa Z h0 a1 "java/lang/String") (P1 : Fld Z h0 a1 "java/lang/String" "coder" "B" (.int (0 : Int32))) (P2 : Fld Z h0 a1 "java/lang/String" "value" "[B" (.ref t)) (P3 : Arv Z h0 t kb .byte (2 : Int32) vs (.int 0)) :
    Con l Z (⟨"java/lang/String", "length", "()I"⟩ : MethodName) jdk_42_method_54_code 1 (some .int) ({ frames := 1, cells := 0, slots := 0, locals := 13 } : Room) #[(.ref a1)] h0 (Q_len2 Z a1 t kb vs h0) := by
  refine Con.intro pn1 ?_
  intro p e s m below meth c T0 X0 hx hby hml hown0 hnm hret hlk hZ0 e0
  have N0 := Fr.nil Z.heap.size
  refine castGo (g' := mkF m 0 #[.val (.ref a1)] []) (by first | rfl | (simp [entryFrame, mkF, argsToLocals, Value.category]; done)) ?_
  show Go _ _ _ _ (T0.setTop (mkF m 0 #[.val (.ref a1)] []))
  refine aL X0 hx (hb hby d_jdk_42m54_0) (q := 1) rfl rfl rfl ?_
  refine g_getF X0 hx hZ0 hown0 (host := "") (Or.inl (wd24 hw)) Via.refl P2 e0 (hb hby d_jdk_42m54_1) (q := 4) rfl ?_
  intro T140 X140 e140
  refine g_len X140 hx hZ0 P3 e140 (hb hby d_jdk_42m54_4) (q := 5) rfl ?_
  refine aL X140 hx (hb hby d_jdk_42m54_5) (q := 6) rfl rfl rfl ?_
  refine g_vi X140 hx hZ0 hown0 (wd66 hw) (wd67 hw) (notFace_of_selects (args := #[]) (mvT hZ0 (wd69 hw))) (wd69 hw) (wd68 hw) (by decide) P0 e140 (Con.back (W := 1) (rm_coder l Z a0 hw zC SC PC a1 h0 O0 P1) hZ0 (wd70 hw) (wd2 hw) (by decide) (by decide)) (by rw [hml]; rfl) (lenOf pd3 rfl) rfl (Nat.le_of_eq rfl) (hb hby d_jdk_42m54_6) (q := 9) rfl (by decide) (by decide) ?_
  intro v141 T141 L141 X141 Q141
  obtain ⟨rfl, Nq141, e141⟩ := Q141
  have N141 := Fr.app N0 Nq141
  show Go _ _ _ _ (T141.setTop (mkF m 9 #[.val (.ref a1)] [(.int (0 : Int32)), (.int (2 : Int32))]))
  refine g_ishr X141 hx (hb hby d_jdk_42m54_9) (q := 10) rfl (z := (2 : Int32)) (by decide) ?_
  refine endP X141 hlk (fun h => by rw [hret] at h; cases h) (lastI X141 hx hret (hb hby d_jdk_42m54_10)) ?_ (by decide) (by decide)
  rw [e141]
  exact ⟨rfl, N141, rfl⟩
def Q_len3 (Z : State) (a1 : Addr) (t : Addr) (kb : ClassId) (vs : List Value) (h0 : Heap) (v : Option Value) (h : Heap) (L : List Loc) : Prop := v = some (.int (3 : Int32)) ∧ Fr Z.heap.size L ∧ h = h0
set_option maxRecDepth 65536 in
set_option maxHeartbeats 40000000 in
theorem rm_len3 (l : Launch) (Z : State) (a0 : Array Value) (hw : ∀ d ∈ tables_1, d.before a0 Z = true) (zC : Int32) (SC : Sta Z Z.heap "java/lang/String" "COMPACT_STRINGS" "Z" (.int zC)) (PC : ¬ zC = (0 : Int32)) (a1 : Addr) (t : Addr) (kb : ClassId) (vs : List Value) (h0 : Heap) (O0 : Old Z Z.heap.size h0) (P0 : Exa Z h0 a1 "java/lang/String") (P1 : Fld Z h0 a1 "java/lang/String" "coder" "B" (.int (0 : Int32))) (P2 : Fld Z h0 a1 "java/lang/String" "value" "[B" (.ref t)) (P3 : Arv Z h0 t kb .byte (3 : Int32) vs (.int 0)) :
    Con l Z (⟨"java/lang/String", "length", "()I"⟩ : MethodName) jdk_42_method_54_code 1 (some .int) ({ frames := 1, cells := 0, slots := 0, locals := 13 } : Room) #[(.ref a1)] h0 (Q_len3 Z a1 t kb vs h0) := by
  refine Con.intro pn1 ?_
  intro p e s m below meth c T0 X0 hx hby hml hown0 hnm hret hlk hZ0 e0
  have N0 := Fr.nil Z.heap.size
  refine castGo (g' := mkF m 0 #[.val (.ref a1)] []) (by first | rfl | (simp [entryFrame, mkF, argsToLocals, Value.category]; done)) ?_
  show Go _ _ _ _ (T0.setTop (mkF m 0 #[.val (.ref a1)] []))
  refine aL X0 hx (hb hby d_jdk_42m54_0) (q := 1) rfl rfl rfl ?_
  refine g_getF X0 hx hZ0 hown0 (host := "") (Or.inl (wd24 hw)) Via.refl P2 e0 (hb hby d_jdk_42m54_1) (q := 4) rfl ?_
  intro T142 X142 e142
  refine g_len X142 hx hZ0 P3 e142 (hb hby d_jdk_42m54_4) (q := 5) rfl ?_
  refine aL X142 hx (hb hby d_jdk_42m54_5) (q := 6) rfl rfl rfl ?_
  refine g_vi X142 hx hZ0 hown0 (wd66 hw) (wd67 hw) (notFace_of_selects (args := #[]) (mvT hZ0 (wd69 hw))) (wd69 hw) (wd68 hw) (by decide) P0 e142 (Con.back (W := 1) (rm_coder l Z a0 hw zC SC PC a1 h0 O0 P1) hZ0 (wd70 hw) (wd2 hw) (by decide) (by decide)) (by rw [hml]; rfl) (lenOf pd3 rfl) rfl (Nat.le_of_eq rfl) (hb hby d_jdk_42m54_6) (q := 9) rfl (by decide) (by decide) ?_
  intro v143 T143 L143 X143 Q143
  obtain ⟨rfl, Nq143, e143⟩ := Q143
  have N143 := Fr.app N0 Nq143
  show Go _ _ _ _ (T143.setTop (mkF m 9 #[.val (.ref a1)] [(.int (0 : Int32)), (.int (3 : Int32))]))
  refine g_ishr X143 hx (hb hby d_jdk_42m54_9) (q := 10) rfl (z := (3 : Int32)) (by decide) ?_
  refine endP X143 hlk (fun h => by rw [hret] at h; cases h) (lastI X143 hx hret (hb hby d_jdk_42m54_10)) ?_ (by decide) (by decide)
  rw [e143]
  exact ⟨rfl, N143, rfl⟩
def Q_len4 (Z : State) (a1 : Addr) (t : Addr) (kb : ClassId) (vs : List Value) (h0 : Heap) (v : Option Value) (h : Heap) (L : List Loc) : Prop := v = some (.int (4 : Int32)) ∧ Fr Z.heap.size L ∧ h = h0
set_option maxRecDepth 65536 in
set_option maxHeartbeats 40000000 in
theorem rm_len4 (l : Launch) (Z : State) (a0 : Array Value) (hw : ∀ d ∈ tables_1, d.before a0 Z = true) (zC : Int32) (SC : Sta Z Z.heap "java/lang/String" "COMPACT_STRINGS" "Z" (.int zC)) (PC : ¬ zC = (0 : Int32)) (a1 : Addr) (t : Addr) (kb : ClassId) (vs : List Value) (h0 : Heap) (O0 : Old Z Z.heap.size h0) (P0 : Exa Z h0 a1 "java/lang/String") (P1 : Fld Z h0 a1 "java/lang/String" "coder" "B" (.int (0 : Int32))) (P2 : Fld Z h0 a1 "java/lang/String" "value" "[B" (.ref t)) (P3 : Arv Z h0 t kb .byte (4 : Int32) vs (.int 0)) :
    Con l Z (⟨"java/lang/String", "length", "()I"⟩ : MethodName) jdk_42_method_54_code 1 (some .int) ({ frames := 1, cells := 0, slots := 0, locals := 13 } : Room) #[(.ref a1)] h0 (Q_len4 Z a1 t kb vs h0) := by
  refine Con.intro pn1 ?_
  intro p e s m below meth c T0 X0 hx hby hml hown0 hnm hret hlk hZ0 e0
  have N0 := Fr.nil Z.heap.size
  refine castGo (g' := mkF m 0 #[.val (.ref a1)] []) (by first | rfl | (simp [entryFrame, mkF, argsToLocals, Value.category]; done)) ?_
  show Go _ _ _ _ (T0.setTop (mkF m 0 #[.val (.ref a1)] []))
  refine aL X0 hx (hb hby d_jdk_42m54_0) (q := 1) rfl rfl rfl ?_
  refine g_getF X0 hx hZ0 hown0 (host := "") (Or.inl (wd24 hw)) Via.refl P2 e0 (hb hby d_jdk_42m54_1) (q := 4) rfl ?_
  intro T144 X144 e144
  refine g_len X144 hx hZ0 P3 e144 (hb hby d_jdk_42m54_4) (q := 5) rfl ?_
  refine aL X144 hx (hb hby d_jdk_42m54_5) (q := 6) rfl rfl rfl ?_
  refine g_vi X144 hx hZ0 hown0 (wd66 hw) (wd67 hw) (notFace_of_selects (args := #[]) (mvT hZ0 (wd69 hw))) (wd69 hw) (wd68 hw) (by decide) P0 e144 (Con.back (W := 1) (rm_coder l Z a0 hw zC SC PC a1 h0 O0 P1) hZ0 (wd70 hw) (wd2 hw) (by decide) (by decide)) (by rw [hml]; rfl) (lenOf pd3 rfl) rfl (Nat.le_of_eq rfl) (hb hby d_jdk_42m54_6) (q := 9) rfl (by decide) (by decide) ?_
  intro v145 T145 L145 X145 Q145
  obtain ⟨rfl, Nq145, e145⟩ := Q145
  have N145 := Fr.app N0 Nq145
  show Go _ _ _ _ (T145.setTop (mkF m 9 #[.val (.ref a1)] [(.int (0 : Int32)), (.int (4 : Int32))]))
  refine g_ishr X145 hx (hb hby d_jdk_42m54_9) (q := 10) rfl (z := (4 : Int32)) (by decide) ?_
  refine endP X145 hlk (fun h => by rw [hret] at h; cases h) (lastI X145 hx hret (hb hby d_jdk_42m54_10)) ?_ (by decide) (by decide)
  rw [e145]
  exact ⟨rfl, N145, rfl⟩
theorem own_n (x : Int32) : (x &&& 7) % 5 = 0 ∨ (x &&& 7) % 5 = 1 ∨ (x &&& 7) % 5 = 2 ∨ (x &&& 7) % 5 = 3 ∨ (x &&& 7) % 5 = 4 := by
  have h := c_mask x 7 3 (by decide) (by decide)
  have h2 := (c_irem (x &&& 7) 5 5 (by decide)).1
  have e : ∀ k : Int32, ((x &&& 7) % 5).toInt = k.toInt → (x &&& 7) % 5 = k := fun k q => Int32.toInt_inj.mp q
  have h3 : (2 ^ 3 : Nat) = 8 := by decide
  rw [h3] at h
  have h4 := h2 (by omega)
  have c0 : (0 : Int32).toInt = 0 := by decide
  have c1 : (1 : Int32).toInt = 1 := by decide
  have c2 : (2 : Int32).toInt = 2 := by decide
  have c3 : (3 : Int32).toInt = 3 := by decide
  have c4 : (4 : Int32).toInt = 4 := by decide
  have : ((x &&& 7) % 5).toInt = 0 ∨ ((x &&& 7) % 5).toInt = 1 ∨ ((x &&& 7) % 5).toInt = 2 ∨ ((x &&& 7) % 5).toInt = 3 ∨ ((x &&& 7) % 5).toInt = 4 := by omega
  rcases this with q | q | q | q | q
  · exact Or.inl (e 0 (by rw [q, c0]))
  · exact Or.inr (Or.inl (e 1 (by rw [q, c1])))
  · exact Or.inr (Or.inr (Or.inl (e 2 (by rw [q, c2]))))
  · exact Or.inr (Or.inr (Or.inr (Or.inl (e 3 (by rw [q, c3])))))
  · exact Or.inr (Or.inr (Or.inr (Or.inr (e 4 (by rw [q, c4])))))
theorem wd0 {a0 : Array Value} {Z : State} (hw : ∀ d ∈ tables_1, d.before a0 Z = true) : ((Jvm.Cond.classLink "com/example/handoff/handoff/internal/PayloadEmptyPinLaw" (7 : Nat) "java/lang/String") : Jvm.Cond).before a0 Z = true := hw _ (List.mem_of_getElem? (i := 0) rfl)
theorem wd6 {a0 : Array Value} {Z : State} (hw : ∀ d ∈ tables_1, d.before a0 Z = true) : ((Jvm.Cond.code ({ cls := "com/example/handoff/handoff/internal/PayloadEmptyPinLaw", name := "chars", desc := "(II)[C" } : Jvm.MethodName) method_2_code (6 : Nat) (Option.some (Jvm.ClassFile.FieldType.array Jvm.ClassFile.FieldType.char))) : Jvm.Cond).before a0 Z = true := hw _ (List.mem_of_getElem? (i := 6) rfl)
theorem wd5 {a0 : Array Value} {Z : State} (hw : ∀ d ∈ tables_1, d.before a0 Z = true) : ((Jvm.Cond.initialized "com/example/handoff/handoff/internal/PayloadEmptyPinLaw") : Jvm.Cond).before a0 Z = true := hw _ (List.mem_of_getElem? (i := 5) rfl)
theorem pd4 : parseMethodDescriptor "(II)[C" = some ⟨[.int, .int], some (.array .char)⟩ := by decide +kernel
theorem wd3 {a0 : Array Value} {Z : State} (hw : ∀ d ∈ tables_1, d.before a0 Z = true) : ((Jvm.Cond.methodLink "com/example/handoff/handoff/internal/PayloadEmptyPinLaw" (9 : Nat) ({ cls := "com/example/handoff/handoff/internal/PayloadEmptyPinLaw", name := "chars", desc := "(II)[C" } : Jvm.MethodName)) : Jvm.Cond).before a0 Z = true := hw _ (List.mem_of_getElem? (i := 3) rfl)
theorem wd4 {a0 : Array Value} {Z : State} (hw : ∀ d ∈ tables_1, d.before a0 Z = true) : ((Jvm.Cond.static ({ cls := "com/example/handoff/handoff/internal/PayloadEmptyPinLaw", name := "chars", desc := "(II)[C" } : Jvm.MethodName)) : Jvm.Cond).before a0 Z = true := hw _ (List.mem_of_getElem? (i := 4) rfl)
theorem wd10 {a0 : Array Value} {Z : State} (hw : ∀ d ∈ tables_1, d.before a0 Z = true) : ((Jvm.Cond.code ({ cls := "java/lang/String", name := "<init>", desc := "([C)V" } : Jvm.MethodName) jdk_42_method_3_code (2 : Nat) (Option.none : Option Jvm.ClassFile.FieldType)) : Jvm.Cond).before a0 Z = true := hw _ (List.mem_of_getElem? (i := 10) rfl)
theorem pd5 : parseMethodDescriptor "([C)V" = some ⟨[(.array .char)], none⟩ := by decide +kernel
theorem wd8 {a0 : Array Value} {Z : State} (hw : ∀ d ∈ tables_1, d.before a0 Z = true) : ((Jvm.Cond.methodLink "com/example/handoff/handoff/internal/PayloadEmptyPinLaw" (15 : Nat) ({ cls := "java/lang/String", name := "<init>", desc := "([C)V" } : Jvm.MethodName)) : Jvm.Cond).before a0 Z = true := hw _ (List.mem_of_getElem? (i := 8) rfl)
theorem wd9 {a0 : Array Value} {Z : State} (hw : ∀ d ∈ tables_1, d.before a0 Z = true) : ((Jvm.Cond.instanceMethod ({ cls := "java/lang/String", name := "<init>", desc := "([C)V" } : Jvm.MethodName)) : Jvm.Cond).before a0 Z = true := hw _ (List.mem_of_getElem? (i := 9) rfl)
theorem wd29 {a0 : Array Value} {Z : State} (hw : ∀ d ∈ tables_1, d.before a0 Z = true) : ((Jvm.Cond.code ({ cls := "com/example/handoff/handoff/internal/Payload", name := "empty", desc := "(Ljava/lang/String;)Lcom/example/handoff/handoff/internal/Payload;" } : Jvm.MethodName) prog_19_method_3_code (1 : Nat) (Option.some (Jvm.ClassFile.FieldType.object "com/example/handoff/handoff/internal/Payload"))) : Jvm.Cond).before a0 Z = true := hw _ (List.mem_of_getElem? (i := 29) rfl)
theorem pd6 : parseMethodDescriptor "(Ljava/lang/String;)Lcom/example/handoff/handoff/internal/Payload;" = some ⟨[(.object "java/lang/String")], some (.object "com/example/handoff/handoff/internal/Payload")⟩ := by decide +kernel
theorem wd26 {a0 : Array Value} {Z : State} (hw : ∀ d ∈ tables_1, d.before a0 Z = true) : ((Jvm.Cond.methodLink "com/example/handoff/handoff/internal/PayloadEmptyPinLaw" (18 : Nat) ({ cls := "com/example/handoff/handoff/internal/Payload", name := "empty", desc := "(Ljava/lang/String;)Lcom/example/handoff/handoff/internal/Payload;" } : Jvm.MethodName)) : Jvm.Cond).before a0 Z = true := hw _ (List.mem_of_getElem? (i := 26) rfl)
theorem wd27 {a0 : Array Value} {Z : State} (hw : ∀ d ∈ tables_1, d.before a0 Z = true) : ((Jvm.Cond.static ({ cls := "com/example/handoff/handoff/internal/Payload", name := "empty", desc := "(Ljava/lang/String;)Lcom/example/handoff/handoff/internal/Payload;" } : Jvm.MethodName)) : Jvm.Cond).before a0 Z = true := hw _ (List.mem_of_getElem? (i := 27) rfl)
theorem wd50 {a0 : Array Value} {Z : State} (hw : ∀ d ∈ tables_1, d.before a0 Z = true) : ((Jvm.Cond.code ({ cls := "com/example/handoff/handoff/internal/Payload", name := "getContentType", desc := "()Ljava/lang/String;" } : Jvm.MethodName) prog_19_method_4_code (1 : Nat) (Option.some (Jvm.ClassFile.FieldType.object "java/lang/String"))) : Jvm.Cond).before a0 Z = true := hw _ (List.mem_of_getElem? (i := 50) rfl)
theorem pd7 : parseMethodDescriptor "()Ljava/lang/String;" = some ⟨[], some (.object "java/lang/String")⟩ := by decide +kernel
theorem wd49 {a0 : Array Value} {Z : State} (hw : ∀ d ∈ tables_1, d.before a0 Z = true) : ((Jvm.Cond.selects "com/example/handoff/handoff/internal/Payload" ({ cls := "com/example/handoff/handoff/internal/Payload", name := "getContentType", desc := "()Ljava/lang/String;" } : Jvm.MethodName) ({ cls := "com/example/handoff/handoff/internal/Payload", name := "getContentType", desc := "()Ljava/lang/String;" } : Jvm.MethodName)) : Jvm.Cond).before a0 Z = true := hw _ (List.mem_of_getElem? (i := 49) rfl)
theorem wd46 {a0 : Array Value} {Z : State} (hw : ∀ d ∈ tables_1, d.before a0 Z = true) : ((Jvm.Cond.methodLink "com/example/handoff/handoff/internal/PayloadEmptyPinLaw" (24 : Nat) ({ cls := "com/example/handoff/handoff/internal/Payload", name := "getContentType", desc := "()Ljava/lang/String;" } : Jvm.MethodName)) : Jvm.Cond).before a0 Z = true := hw _ (List.mem_of_getElem? (i := 46) rfl)
theorem wd47 {a0 : Array Value} {Z : State} (hw : ∀ d ∈ tables_1, d.before a0 Z = true) : ((Jvm.Cond.declares ({ cls := "com/example/handoff/handoff/internal/Payload", name := "getContentType", desc := "()Ljava/lang/String;" } : Jvm.MethodName)) : Jvm.Cond).before a0 Z = true := hw _ (List.mem_of_getElem? (i := 47) rfl)
theorem wd48 {a0 : Array Value} {Z : State} (hw : ∀ d ∈ tables_1, d.before a0 Z = true) : ((Jvm.Cond.instanceMethod ({ cls := "com/example/handoff/handoff/internal/Payload", name := "getContentType", desc := "()Ljava/lang/String;" } : Jvm.MethodName)) : Jvm.Cond).before a0 Z = true := hw _ (List.mem_of_getElem? (i := 48) rfl)
theorem wd55 {a0 : Array Value} {Z : State} (hw : ∀ d ∈ tables_1, d.before a0 Z = true) : ((Jvm.Cond.code ({ cls := "com/example/handoff/handoff/internal/Payload", name := "getBytes", desc := "()[B" } : Jvm.MethodName) prog_19_method_5_code (1 : Nat) (Option.some (Jvm.ClassFile.FieldType.array Jvm.ClassFile.FieldType.byte))) : Jvm.Cond).before a0 Z = true := hw _ (List.mem_of_getElem? (i := 55) rfl)
theorem pd8 : parseMethodDescriptor "()[B" = some ⟨[], some (.array .byte)⟩ := by decide +kernel
theorem wd54 {a0 : Array Value} {Z : State} (hw : ∀ d ∈ tables_1, d.before a0 Z = true) : ((Jvm.Cond.selects "com/example/handoff/handoff/internal/Payload" ({ cls := "com/example/handoff/handoff/internal/Payload", name := "getBytes", desc := "()[B" } : Jvm.MethodName) ({ cls := "com/example/handoff/handoff/internal/Payload", name := "getBytes", desc := "()[B" } : Jvm.MethodName)) : Jvm.Cond).before a0 Z = true := hw _ (List.mem_of_getElem? (i := 54) rfl)
theorem wd51 {a0 : Array Value} {Z : State} (hw : ∀ d ∈ tables_1, d.before a0 Z = true) : ((Jvm.Cond.methodLink "com/example/handoff/handoff/internal/PayloadEmptyPinLaw" (28 : Nat) ({ cls := "com/example/handoff/handoff/internal/Payload", name := "getBytes", desc := "()[B" } : Jvm.MethodName)) : Jvm.Cond).before a0 Z = true := hw _ (List.mem_of_getElem? (i := 51) rfl)
theorem wd52 {a0 : Array Value} {Z : State} (hw : ∀ d ∈ tables_1, d.before a0 Z = true) : ((Jvm.Cond.declares ({ cls := "com/example/handoff/handoff/internal/Payload", name := "getBytes", desc := "()[B" } : Jvm.MethodName)) : Jvm.Cond).before a0 Z = true := hw _ (List.mem_of_getElem? (i := 52) rfl)
theorem wd53 {a0 : Array Value} {Z : State} (hw : ∀ d ∈ tables_1, d.before a0 Z = true) : ((Jvm.Cond.instanceMethod ({ cls := "com/example/handoff/handoff/internal/Payload", name := "getBytes", desc := "()[B" } : Jvm.MethodName)) : Jvm.Cond).before a0 Z = true := hw _ (List.mem_of_getElem? (i := 53) rfl)
theorem wd60 {a0 : Array Value} {Z : State} (hw : ∀ d ∈ tables_1, d.before a0 Z = true) : ((Jvm.Cond.code ({ cls := "java/lang/String", name := "equals", desc := "(Ljava/lang/Object;)Z" } : Jvm.MethodName) jdk_42_method_66_code (3 : Nat) (Option.some Jvm.ClassFile.FieldType.boolean)) : Jvm.Cond).before a0 Z = true := hw _ (List.mem_of_getElem? (i := 60) rfl)
theorem pd9 : parseMethodDescriptor "(Ljava/lang/Object;)Z" = some ⟨[(.object "java/lang/Object")], some .boolean⟩ := by decide +kernel
theorem wd59 {a0 : Array Value} {Z : State} (hw : ∀ d ∈ tables_1, d.before a0 Z = true) : ((Jvm.Cond.selects "java/lang/String" ({ cls := "java/lang/String", name := "equals", desc := "(Ljava/lang/Object;)Z" } : Jvm.MethodName) ({ cls := "java/lang/String", name := "equals", desc := "(Ljava/lang/Object;)Z" } : Jvm.MethodName)) : Jvm.Cond).before a0 Z = true := hw _ (List.mem_of_getElem? (i := 59) rfl)
theorem wd56 {a0 : Array Value} {Z : State} (hw : ∀ d ∈ tables_1, d.before a0 Z = true) : ((Jvm.Cond.methodLink "com/example/handoff/handoff/internal/PayloadEmptyPinLaw" (32 : Nat) ({ cls := "java/lang/String", name := "equals", desc := "(Ljava/lang/Object;)Z" } : Jvm.MethodName)) : Jvm.Cond).before a0 Z = true := hw _ (List.mem_of_getElem? (i := 56) rfl)
theorem wd57 {a0 : Array Value} {Z : State} (hw : ∀ d ∈ tables_1, d.before a0 Z = true) : ((Jvm.Cond.declares ({ cls := "java/lang/String", name := "equals", desc := "(Ljava/lang/Object;)Z" } : Jvm.MethodName)) : Jvm.Cond).before a0 Z = true := hw _ (List.mem_of_getElem? (i := 57) rfl)
theorem wd58 {a0 : Array Value} {Z : State} (hw : ∀ d ∈ tables_1, d.before a0 Z = true) : ((Jvm.Cond.instanceMethod ({ cls := "java/lang/String", name := "equals", desc := "(Ljava/lang/Object;)Z" } : Jvm.MethodName)) : Jvm.Cond).before a0 Z = true := hw _ (List.mem_of_getElem? (i := 58) rfl)
theorem wd65 {a0 : Array Value} {Z : State} (hw : ∀ d ∈ tables_1, d.before a0 Z = true) : ((Jvm.Cond.code ({ cls := "java/lang/String", name := "length", desc := "()I" } : Jvm.MethodName) jdk_42_method_54_code (1 : Nat) (Option.some Jvm.ClassFile.FieldType.int)) : Jvm.Cond).before a0 Z = true := hw _ (List.mem_of_getElem? (i := 65) rfl)
theorem pd10 : parseMethodDescriptor "()I" = some ⟨[], some .int⟩ := by decide +kernel
theorem wd64 {a0 : Array Value} {Z : State} (hw : ∀ d ∈ tables_1, d.before a0 Z = true) : ((Jvm.Cond.selects "java/lang/String" ({ cls := "java/lang/String", name := "length", desc := "()I" } : Jvm.MethodName) ({ cls := "java/lang/String", name := "length", desc := "()I" } : Jvm.MethodName)) : Jvm.Cond).before a0 Z = true := hw _ (List.mem_of_getElem? (i := 64) rfl)
theorem wd61 {a0 : Array Value} {Z : State} (hw : ∀ d ∈ tables_1, d.before a0 Z = true) : ((Jvm.Cond.methodLink "com/example/handoff/handoff/internal/PayloadEmptyPinLaw" (36 : Nat) ({ cls := "java/lang/String", name := "length", desc := "()I" } : Jvm.MethodName)) : Jvm.Cond).before a0 Z = true := hw _ (List.mem_of_getElem? (i := 61) rfl)
theorem wd62 {a0 : Array Value} {Z : State} (hw : ∀ d ∈ tables_1, d.before a0 Z = true) : ((Jvm.Cond.declares ({ cls := "java/lang/String", name := "length", desc := "()I" } : Jvm.MethodName)) : Jvm.Cond).before a0 Z = true := hw _ (List.mem_of_getElem? (i := 62) rfl)
theorem wd63 {a0 : Array Value} {Z : State} (hw : ∀ d ∈ tables_1, d.before a0 Z = true) : ((Jvm.Cond.instanceMethod ({ cls := "java/lang/String", name := "length", desc := "()I" } : Jvm.MethodName)) : Jvm.Cond).before a0 Z = true := hw _ (List.mem_of_getElem? (i := 63) rfl)
def Q_law (Z : State) (p0 : Int32) (p1 : Int32) (h0 : Heap) (v : Option Value) (h : Heap) (L : List Loc) : Prop := v = some (.int (1 : Int32)) ∧ Fr Z.heap.size L ∧ Keep h0 h []
set_option maxRecDepth 65536 in
set_option maxHeartbeats 40000000 in
theorem rm_law (l : Launch) (Z : State) (a0 : Array Value) (hw : ∀ d ∈ tables_1, d.before a0 Z = true) (zC : Int32) (SC : Sta Z Z.heap "java/lang/String" "COMPACT_STRINGS" "Z" (.int zC)) (PC : ¬ zC = (0 : Int32)) (p0 : Int32) (p1 : Int32) (h0 : Heap) (O0 : Old Z Z.heap.size h0)  :
    ConS l Z EL (⟨"com/example/handoff/handoff/internal/PayloadEmptyPinLaw", "law", "(II)Z"⟩ : MethodName) code 7 (some .boolean) room_1 #[(.int p0), (.int p1)] h0 [] (Q_law Z p0 p1 h0) := by
  refine ConS.intro pn0 ?_
  intro p e s m below meth c T0 v0 X0 hx hby hml hown0 hnm hret hlk hZ0 e0 hS0 C0 hsl0
  have N0 := Fr.nil Z.heap.size
  refine castGo (g' := mkF m 0 #[.val (.int p0), .val (.int p1), .unset, .unset, .unset, .unset, .unset] []) (by first | rfl | (simp [entryFrame, mkF, argsToLocals, Value.category]; done)) ?_
  show Go _ _ _ _ (T0.setTop (mkF m 0 #[.val (.int p0), .val (.int p1), .unset, .unset, .unset, .unset, .unset] []))
  refine iL X0 hx (hb hby at_0) (q := 1) rfl rfl ?_
  refine bI X0 hx (hb hby at_1) (q := 3) rfl (z := (7 : Int32)) rfl ?_
  refine g_iand X0 hx (hb hby at_3) (q := 4) rfl rfl ?_
  refine cI X0 hx (hb hby at_4) (q := 5) rfl (z := (5 : Int32)) rfl ?_
  refine g_irem X0 hx (hb hby at_5) (q := 6) rfl (by decide) rfl ?_
  rcases (own_n p0 : ((p0 &&& (7 : Int32)) % (5 : Int32)) = (0 : Int32) ∨ ((p0 &&& (7 : Int32)) % (5 : Int32)) = (1 : Int32) ∨ ((p0 &&& (7 : Int32)) % (5 : Int32)) = (2 : Int32) ∨ ((p0 &&& (7 : Int32)) % (5 : Int32)) = (3 : Int32) ∨ ((p0 &&& (7 : Int32)) % (5 : Int32)) = (4 : Int32)) with hk146 | hk147 | hk148 | hk149 | hk150
  · rw [hk146]
    show Go _ _ _ _ (T0.setTop (mkF m 6 #[.val (.int p0), .val (.int p1), .unset, .unset, .unset, .unset, .unset] [(.int (0 : Int32))]))
    refine sI X0 hx (hb hby at_6) (q := 7) rfl (Ls' := #[.val (.int p0), .val (.int p1), .val (.int (0 : Int32)), .unset, .unset, .unset, .unset]) rfl ?_
    refine g_new X0 hx hZ0 hown0 (wd0 hw) (wd1 hw) (wd2 hw) (by decide) (by decide) e0 (hb hby at_7) (q := 10) rfl ?_
    intro T151 h151 b151 g151 X151 e151 E151 A151 D151
    have sf152 : Safe Z EL v0 h0 b151 := Safe.new (Nat.le_of_eq g151.symm)
    have F151_20 := D151 (Or.inr (wd20 hw)) (ty := (.array .byte)) (by decide)
    have F151_21 := D151 (Or.inr (wd21 hw)) (ty := .byte) (by decide)
    refine g_dup X151 hx (hb hby at_10) (q := 11) rfl rfl ?_
    refine iL X151 hx (hb hby at_11) (q := 12) rfl rfl ?_
    refine iL X151 hx (hb hby at_12) (q := 13) rfl rfl ?_
    have f154 : Old Z Z.heap.size h151 := O0.ext E151
    refine g_st X151 hx hZ0 hown0 (wd3 hw) (wd4 hw) (wd5 hw) (wd6 hw) (by decide) e151 (Con.back (W := 2) (rm_chars0 l Z a0 hw zC SC PC p1 h151 f154 ) hZ0 (wd6 hw) (wd5 hw) (by decide) (by decide)) (by rw [hml]; rfl) (lenOf pd4 rfl) rfl (Nat.le_of_eq rfl) (hb hby at_13) (q := 16) rfl (by decide) (by decide) ?_
    intro v153 T153 L153 X153 Q153
    obtain ⟨a_153, kc_153, cs_153, rfl, Nq153, K153q, q153_0, q153_1, q153_2, q153_3⟩ := Q153
    have N153 := Fr.app N0 Nq153
    show Go _ _ _ _ (T153.setTop (mkF m 16 #[.val (.int p0), .val (.int p1), .val (.int (0 : Int32)), .unset, .unset, .unset, .unset] [(.ref a_153), (.ref b151), (.ref b151)]))
    have f163 : Exa Z T153.heap b151 "java/lang/String" := A151.keep K153q
    have f164 : Fld Z T153.heap b151 "java/lang/String" "value" "[B" .null := F151_20.keep K153q nin0
    have f165 : Fld Z T153.heap b151 "java/lang/String" "coder" "B" (.int (0 : Int32)) := F151_21.keep K153q nin0
    have gz166 : Z.heap.size ≤ b151 := Nat.le_trans O0.2.1 (Nat.le_of_eq g151.symm)
    have f167 : Safe Z EL v0 h151 b151 := Safe.ext E151 C0.1 sf152
    have f168 : CHr Z EL s.vm s.heap v0 h151 := C0.trans (CHr.ext E151 C0.1)
    have f169 : Safe Z EL v0 T153.heap b151 := Safe.keep K153q sf0 f168.1 f167
    have f170 : Old Z Z.heap.size T153.heap := f154.keep K153q all0
    have f171 : CHr Z EL s.vm s.heap v0 T153.heap := f168.trans (CHr.keep K153q sf0 f168.1)
    have le172 : (h151).size ≤ (T153.heap).size := K153q.1
    refine g_spS X153 hx hZ0 hown0 hS0 (Nat.zero_le _) (wd8 hw) (wd9 hw) (wd10 hw) rfl (by decide) rfl (ConS.back (W := 1) (rm_new1e l Z a0 hw zC SC PC b151 a_153 kc_153 (cs_153.map Value.int) T153.heap f170 f163 f164 f165 gz166 q153_1) hZ0 (wd10 hw) (wd2 hw) (by decide) (by decide) (own_EW hw) f171.1 (sfS f169 sf0) (allS (Nat.lt_of_lt_of_le A151.lt le172) all0)) (by rw [hml]; rfl) (lenOf pd5 rfl) rfl (Nat.le_of_eq rfl) (hb hby at_16) (q := 19) rfl (by decide) (by decide) ?_
    rintro v162 T162 L162 ⟨X162, hS162, hZ162, hown162, R162⟩ Q162
    obtain ⟨t_162, kb_162, rfl, Nq162, K162q, q162_0, q162_1, q162_2, q162_3⟩ := Q162
    have N162 := Fr.app N153 Nq162
    show Go _ _ _ _ (T162.setTop (mkF m 19 #[.val (.int p0), .val (.int p1), .val (.int (0 : Int32)), .unset, .unset, .unset, .unset] [(.ref b151)]))
    refine sA X162 hx (hb hby at_19) (q := 20) rfl rfl (Ls' := #[.val (.int p0), .val (.int p1), .val (.int (0 : Int32)), .val (.ref b151), .unset, .unset, .unset]) rfl ?_
    refine aL X162 hx (hb hby at_20) (q := 21) rfl rfl rfl ?_
    have f174 : Old Z Z.heap.size T162.heap := f170.keep K162q (allS gz166 all0)
    have f175 : CHr Z EL s.vm s.heap T162.vm T162.heap := f171.trans R162
    refine g_stS X162 hx hZ162 hown162 hS162 (Nat.le_trans (Nat.le_refl _) (Nat.le_refl _)) (wd26 hw) (wd27 hw) (wd28 hw) (wd29 hw) (by decide) rfl (ConS.back (W := 0) (rm_empty l Z a0 hw zC SC PC b151 T162.heap f174 q162_0) hZ162 (wd29 hw) (wd28 hw) (by decide) (by decide) (own_EW hw) f175.1 sf0 all0) (by rw [hml]; rfl) (lenOf pd6 rfl) rfl (Nat.le_of_eq rfl) (hb hby at_21) (q := 24) rfl (by decide) (by decide) ?_
    rintro v173 T173 L173 ⟨X173, hS173, hZ173, hown173, R173⟩ Q173
    obtain ⟨r_173, t_173, kb_173, rfl, Nq173, K173q, q173_0, q173_1, q173_2, q173_3⟩ := Q173
    have N173 := Fr.app N162 Nq173
    show Go _ _ _ _ (T173.setTop (mkF m 24 #[.val (.int p0), .val (.int p1), .val (.int (0 : Int32)), .val (.ref b151), .unset, .unset, .unset] [(.ref r_173)]))
    refine sAw X173 hx (hb hby at_24) (q := 26) rfl rfl (Ls' := #[.val (.int p0), .val (.int p1), .val (.int (0 : Int32)), .val (.ref b151), .val (.ref r_173), .unset, .unset]) rfl ?_
    refine aLw X173 hx (hb hby at_26) (q := 28) rfl rfl rfl ?_
    have f177 : Old Z Z.heap.size T173.heap := f174.keep K173q all0
    refine g_vi X173 hx hZ173 hown173 (wd46 hw) (wd47 hw) (notFace_of_selects (args := #[]) (mvT hZ173 (wd49 hw))) (wd49 hw) (wd48 hw) (by decide) q173_0 rfl (Con.back (W := 0) (rm_getct l Z a0 hw zC SC PC r_173 b151 T173.heap f177 q173_1) hZ173 (wd50 hw) (wd28 hw) (by decide) (by decide)) (by rw [hml]; rfl) (lenOf pd7 rfl) rfl (Nat.le_of_eq rfl) (hb hby at_28) (q := 31) rfl (by decide) (by decide) ?_
    intro v176 T176 L176 X176 Q176
    obtain ⟨rfl, Nq176, e176⟩ := Q176
    have N176 := Fr.app N173 Nq176
    show Go _ _ _ _ (T176.setTop (mkF m 31 #[.val (.int p0), .val (.int p1), .val (.int (0 : Int32)), .val (.ref b151), .val (.ref r_173), .unset, .unset] [(.ref b151)]))
    refine sAw X176 hx (hb hby at_31) (q := 33) rfl rfl (Ls' := #[.val (.int p0), .val (.int p1), .val (.int (0 : Int32)), .val (.ref b151), .val (.ref r_173), .val (.ref b151), .unset]) rfl ?_
    refine aLw X176 hx (hb hby at_33) (q := 35) rfl rfl rfl ?_
    refine g_vi X176 hx hZ173 hown173 (wd51 hw) (wd52 hw) (notFace_of_selects (args := #[]) (mvT hZ173 (wd54 hw))) (wd54 hw) (wd53 hw) (by decide) q173_0 e176 (Con.back (W := 0) (rm_getby l Z a0 hw zC SC PC r_173 t_173 T173.heap f177 q173_2) hZ173 (wd55 hw) (wd28 hw) (by decide) (by decide)) (by rw [hml]; rfl) (lenOf pd8 rfl) rfl (Nat.le_of_eq rfl) (hb hby at_35) (q := 38) rfl (by decide) (by decide) ?_
    intro v178 T178 L178 X178 Q178
    obtain ⟨rfl, Nq178, e178⟩ := Q178
    have N178 := Fr.app N176 Nq178
    show Go _ _ _ _ (T178.setTop (mkF m 38 #[.val (.int p0), .val (.int p1), .val (.int (0 : Int32)), .val (.ref b151), .val (.ref r_173), .val (.ref b151), .unset] [(.ref t_173)]))
    refine sAw X178 hx (hb hby at_38) (q := 40) rfl rfl (Ls' := #[.val (.int p0), .val (.int p1), .val (.int (0 : Int32)), .val (.ref b151), .val (.ref r_173), .val (.ref b151), .val (.ref t_173)]) rfl ?_
    refine aLw X178 hx (hb hby at_40) (q := 42) rfl rfl rfl ?_
    refine nlN X178 hx (hb hby at_42) (q := 45) rfl ?_
    refine aLw X178 hx (hb hby at_45) (q := 47) rfl rfl rfl ?_
    refine aL X178 hx (hb hby at_47) (q := 48) rfl rfl rfl ?_
    have f180 : Exa Z T173.heap b151 "java/lang/String" := q162_0.keep K173q
    refine g_vi X178 hx hZ173 hown173 (wd56 hw) (wd57 hw) (notFace_of_selects (args := #[]) (mvT hZ173 (wd59 hw))) (wd59 hw) (wd58 hw) (by decide) f180 e178 (Con.back (W := 0) (rm_eqid l Z a0 hw zC SC PC b151 T173.heap f177 ) hZ173 (wd60 hw) (wd2 hw) (by decide) (by decide)) (by rw [hml]; rfl) (lenOf pd9 rfl) rfl (Nat.le_of_eq rfl) (hb hby at_48) (q := 51) rfl (by decide) (by decide) ?_
    intro v179 T179 L179 X179 Q179
    obtain ⟨rfl, Nq179, e179⟩ := Q179
    have N179 := Fr.app N178 Nq179
    show Go _ _ _ _ (T179.setTop (mkF m 51 #[.val (.int p0), .val (.int p1), .val (.int (0 : Int32)), .val (.ref b151), .val (.ref r_173), .val (.ref b151), .val (.ref t_173)] [(.int (1 : Int32))]))
    refine ifN X179 hx (hb hby at_51) (q := 54) rfl (by decide) ?_
    refine aLw X179 hx (hb hby at_54) (q := 56) rfl rfl rfl ?_
    have f185 : Fld Z T173.heap b151 "java/lang/String" "coder" "B" (.int (0 : Int32)) := q162_2.keep K173q nin0
    have f186 : Fld Z T173.heap b151 "java/lang/String" "value" "[B" (.ref t_162) := q162_1.keep K173q nin0
    have f187 : Arv Z T173.heap t_162 kb_162 .byte (0 : Int32) [] (.int 0) := q162_3.keep K173q nin0
    refine g_vi X179 hx hZ173 hown173 (wd61 hw) (wd62 hw) (notFace_of_selects (args := #[]) (mvT hZ173 (wd64 hw))) (wd64 hw) (wd63 hw) (by decide) f180 e179 (Con.back (W := 0) (rm_len0 l Z a0 hw zC SC PC b151 t_162 kb_162 [] T173.heap f177 f180 f185 f186 f187) hZ173 (wd65 hw) (wd2 hw) (by decide) (by decide)) (by rw [hml]; rfl) (lenOf pd10 rfl) rfl (Nat.le_of_eq rfl) (hb hby at_56) (q := 59) rfl (by decide) (by decide) ?_
    intro v184 T184 L184 X184 Q184
    obtain ⟨rfl, Nq184, e184⟩ := Q184
    have N184 := Fr.app N179 Nq184
    show Go _ _ _ _ (T184.setTop (mkF m 59 #[.val (.int p0), .val (.int p1), .val (.int (0 : Int32)), .val (.ref b151), .val (.ref r_173), .val (.ref b151), .val (.ref t_173)] [(.int (0 : Int32))]))
    refine iL X184 hx (hb hby at_59) (q := 60) rfl rfl ?_
    refine icN X184 hx (hb hby at_60) (q := 63) rfl (by decide) ?_
    refine aLw X184 hx (hb hby at_63) (q := 65) rfl rfl rfl ?_
    refine nlN X184 hx (hb hby at_65) (q := 68) rfl ?_
    refine aLw X184 hx (hb hby at_68) (q := 70) rfl rfl rfl ?_
    refine g_len X184 hx hZ173 q173_3 e184 (hb hby at_70) (q := 71) rfl ?_
    refine ifN X184 hx (hb hby at_71) (q := 74) rfl (by decide) ?_
    refine cI X184 hx (hb hby at_74) (q := 75) rfl (z := (1 : Int32)) rfl ?_
    refine g_goto X184 hx (hb hby at_75) (q := 79) (by decide) (by decide) ?_
    have K188 : Keep h0 h151 [] := (Keep.refl h0 []).ext E151
    have K189 : Keep h0 T153.heap [] := K188.trans K153q all0
    have gh190 : h0.size ≤ b151 := Nat.le_trans (Nat.le_refl _) (Nat.le_of_eq g151.symm)
    have K191 : Keep h0 T162.heap [] := K189.trans K162q (allS (Or.inr gh190) all0)
    have K192 : Keep h0 T173.heap [] := K191.trans K173q all0
    have f193 : CHr Z EL s.vm s.heap T173.vm T173.heap := f175.trans R173
    refine endC X184 hlk hS173 (by rw [e184]; exact (Nat.le_trans (Nat.le_refl _) (Nat.le_refl _))) hZ173 (own_EW hw) (by rw [e184]; exact f193) (fun h => by rw [hret] at h; cases h) (lastN X184 hx (t := .boolean) (z' := (1 : Int32)) hret (by simp) (by decide) (hb hby at_79)) ?_ (by decide) (by decide)
    rw [e184]
    exact ⟨rfl, N184, K192⟩
  · rw [hk147]
    show Go _ _ _ _ (T0.setTop (mkF m 6 #[.val (.int p0), .val (.int p1), .unset, .unset, .unset, .unset, .unset] [(.int (1 : Int32))]))
    refine sI X0 hx (hb hby at_6) (q := 7) rfl (Ls' := #[.val (.int p0), .val (.int p1), .val (.int (1 : Int32)), .unset, .unset, .unset, .unset]) rfl ?_
    refine g_new X0 hx hZ0 hown0 (wd0 hw) (wd1 hw) (wd2 hw) (by decide) (by decide) e0 (hb hby at_7) (q := 10) rfl ?_
    intro T194 h194 b194 g194 X194 e194 E194 A194 D194
    have sf195 : Safe Z EL v0 h0 b194 := Safe.new (Nat.le_of_eq g194.symm)
    have F194_20 := D194 (Or.inr (wd20 hw)) (ty := (.array .byte)) (by decide)
    have F194_21 := D194 (Or.inr (wd21 hw)) (ty := .byte) (by decide)
    refine g_dup X194 hx (hb hby at_10) (q := 11) rfl rfl ?_
    refine iL X194 hx (hb hby at_11) (q := 12) rfl rfl ?_
    refine iL X194 hx (hb hby at_12) (q := 13) rfl rfl ?_
    have f197 : Old Z Z.heap.size h194 := O0.ext E194
    refine g_st X194 hx hZ0 hown0 (wd3 hw) (wd4 hw) (wd5 hw) (wd6 hw) (by decide) e194 (Con.back (W := 2) (rm_chars1 l Z a0 hw zC SC PC p1 h194 f197 ) hZ0 (wd6 hw) (wd5 hw) (by decide) (by decide)) (by rw [hml]; rfl) (lenOf pd4 rfl) rfl (Nat.le_of_eq rfl) (hb hby at_13) (q := 16) rfl (by decide) (by decide) ?_
    intro v196 T196 L196 X196 Q196
    obtain ⟨a_196, kc_196, cs_196, rfl, Nq196, K196q, q196_0, q196_1, q196_2, q196_3⟩ := Q196
    have N196 := Fr.app N0 Nq196
    show Go _ _ _ _ (T196.setTop (mkF m 16 #[.val (.int p0), .val (.int p1), .val (.int (1 : Int32)), .unset, .unset, .unset, .unset] [(.ref a_196), (.ref b194), (.ref b194)]))
    have f199 : Old Z Z.heap.size T196.heap := f197.keep K196q all0
    have gz200 : Z.heap.size ≤ b194 := Nat.le_trans O0.2.1 (Nat.le_of_eq g194.symm)
    have f201 : Exa Z T196.heap b194 "java/lang/String" := A194.keep K196q
    have f202 : Fld Z T196.heap b194 "java/lang/String" "value" "[B" .null := F194_20.keep K196q nin0
    have f203 : Fld Z T196.heap b194 "java/lang/String" "coder" "B" (.int (0 : Int32)) := F194_21.keep K196q nin0
    refine g_sp X196 hx hZ0 hown0 (wd8 hw) (wd9 hw) (wd10 hw) rfl (by decide) rfl (StrChars.Road.backV (W := 1) hZ0 (own_wStr hw) (kI := 4) (wd1 hw) (cs := cs_196) (bs := (cs_196.map (fun c => c.toInt8.toInt32))) (n := 1) gz200 f199.2.1 f201 f202 f203 q196_1 (SC.ext f199.2) PC q196_2 rfl (by decide) (by decide) q196_3 rfl (by decide) (by decide)) (a := b194) (argsL := [.ref a_196]) (W := 1) (nk := 1) (ns := 1) (Qc := StrChars.Road.QV Z b194 (1 : Int32) (cs_196.map (fun c => c.toInt8.toInt32)) T196.heap Z.heap.size) (by rw [hml]; rfl) (lenOf pd5 rfl) rfl (Nat.le_of_eq rfl) (hb hby at_16) (q := 19) rfl (by decide) (by decide) ?_
    intro v198 T198 L198 X198 Q198
    obtain ⟨rfl, Nq198, K198q, E198q, C198q, t198, kb198, tz198, tg198, tn198, Fv198, Va198⟩ := Q198
    have N198 := Fr.app N196 Nq198
    show Go _ _ _ _ (T198.setTop (mkF m 19 #[.val (.int p0), .val (.int p1), .val (.int (1 : Int32)), .unset, .unset, .unset, .unset] [(.ref b194)]))
    refine sA X198 hx (hb hby at_19) (q := 20) rfl rfl (Ls' := #[.val (.int p0), .val (.int p1), .val (.int (1 : Int32)), .val (.ref b194), .unset, .unset, .unset]) rfl ?_
    refine aL X198 hx (hb hby at_20) (q := 21) rfl rfl rfl ?_
    have f205 : Old Z Z.heap.size T198.heap := f199.keep K198q (allS gz200 all0)
    have f206 : CHr Z EL s.vm s.heap v0 h194 := C0.trans (CHr.ext E194 C0.1)
    have f207 : CHr Z EL s.vm s.heap v0 T196.heap := f206.trans (CHr.keep K196q sf0 f206.1)
    have f208 : Safe Z EL v0 h194 b194 := Safe.ext E194 C0.1 sf195
    have f209 : Safe Z EL v0 T196.heap b194 := Safe.keep K196q sf0 f206.1 f208
    have f210 : CHr Z EL s.vm s.heap v0 T198.heap := f207.trans (CHr.keep K198q (sfS f209 sf0) f207.1)
    refine g_stS X198 hx hZ0 hown0 hS0 (Nat.zero_le _) (wd26 hw) (wd27 hw) (wd28 hw) (wd29 hw) (by decide) rfl (ConS.back (W := 0) (rm_empty l Z a0 hw zC SC PC b194 T198.heap f205 E198q) hZ0 (wd29 hw) (wd28 hw) (by decide) (by decide) (own_EW hw) f210.1 sf0 all0) (by rw [hml]; rfl) (lenOf pd6 rfl) rfl (Nat.le_of_eq rfl) (hb hby at_21) (q := 24) rfl (by decide) (by decide) ?_
    rintro v204 T204 L204 ⟨X204, hS204, hZ204, hown204, R204⟩ Q204
    obtain ⟨r_204, t_204, kb_204, rfl, Nq204, K204q, q204_0, q204_1, q204_2, q204_3⟩ := Q204
    have N204 := Fr.app N198 Nq204
    show Go _ _ _ _ (T204.setTop (mkF m 24 #[.val (.int p0), .val (.int p1), .val (.int (1 : Int32)), .val (.ref b194), .unset, .unset, .unset] [(.ref r_204)]))
    refine sAw X204 hx (hb hby at_24) (q := 26) rfl rfl (Ls' := #[.val (.int p0), .val (.int p1), .val (.int (1 : Int32)), .val (.ref b194), .val (.ref r_204), .unset, .unset]) rfl ?_
    refine aLw X204 hx (hb hby at_26) (q := 28) rfl rfl rfl ?_
    have f212 : Old Z Z.heap.size T204.heap := f205.keep K204q all0
    refine g_vi X204 hx hZ204 hown204 (wd46 hw) (wd47 hw) (notFace_of_selects (args := #[]) (mvT hZ204 (wd49 hw))) (wd49 hw) (wd48 hw) (by decide) q204_0 rfl (Con.back (W := 0) (rm_getct l Z a0 hw zC SC PC r_204 b194 T204.heap f212 q204_1) hZ204 (wd50 hw) (wd28 hw) (by decide) (by decide)) (by rw [hml]; rfl) (lenOf pd7 rfl) rfl (Nat.le_of_eq rfl) (hb hby at_28) (q := 31) rfl (by decide) (by decide) ?_
    intro v211 T211 L211 X211 Q211
    obtain ⟨rfl, Nq211, e211⟩ := Q211
    have N211 := Fr.app N204 Nq211
    show Go _ _ _ _ (T211.setTop (mkF m 31 #[.val (.int p0), .val (.int p1), .val (.int (1 : Int32)), .val (.ref b194), .val (.ref r_204), .unset, .unset] [(.ref b194)]))
    refine sAw X211 hx (hb hby at_31) (q := 33) rfl rfl (Ls' := #[.val (.int p0), .val (.int p1), .val (.int (1 : Int32)), .val (.ref b194), .val (.ref r_204), .val (.ref b194), .unset]) rfl ?_
    refine aLw X211 hx (hb hby at_33) (q := 35) rfl rfl rfl ?_
    refine g_vi X211 hx hZ204 hown204 (wd51 hw) (wd52 hw) (notFace_of_selects (args := #[]) (mvT hZ204 (wd54 hw))) (wd54 hw) (wd53 hw) (by decide) q204_0 e211 (Con.back (W := 0) (rm_getby l Z a0 hw zC SC PC r_204 t_204 T204.heap f212 q204_2) hZ204 (wd55 hw) (wd28 hw) (by decide) (by decide)) (by rw [hml]; rfl) (lenOf pd8 rfl) rfl (Nat.le_of_eq rfl) (hb hby at_35) (q := 38) rfl (by decide) (by decide) ?_
    intro v213 T213 L213 X213 Q213
    obtain ⟨rfl, Nq213, e213⟩ := Q213
    have N213 := Fr.app N211 Nq213
    show Go _ _ _ _ (T213.setTop (mkF m 38 #[.val (.int p0), .val (.int p1), .val (.int (1 : Int32)), .val (.ref b194), .val (.ref r_204), .val (.ref b194), .unset] [(.ref t_204)]))
    refine sAw X213 hx (hb hby at_38) (q := 40) rfl rfl (Ls' := #[.val (.int p0), .val (.int p1), .val (.int (1 : Int32)), .val (.ref b194), .val (.ref r_204), .val (.ref b194), .val (.ref t_204)]) rfl ?_
    refine aLw X213 hx (hb hby at_40) (q := 42) rfl rfl rfl ?_
    refine nlN X213 hx (hb hby at_42) (q := 45) rfl ?_
    refine aLw X213 hx (hb hby at_45) (q := 47) rfl rfl rfl ?_
    refine aL X213 hx (hb hby at_47) (q := 48) rfl rfl rfl ?_
    have f215 : Exa Z T204.heap b194 "java/lang/String" := E198q.keep K204q
    refine g_vi X213 hx hZ204 hown204 (wd56 hw) (wd57 hw) (notFace_of_selects (args := #[]) (mvT hZ204 (wd59 hw))) (wd59 hw) (wd58 hw) (by decide) f215 e213 (Con.back (W := 0) (rm_eqid l Z a0 hw zC SC PC b194 T204.heap f212 ) hZ204 (wd60 hw) (wd2 hw) (by decide) (by decide)) (by rw [hml]; rfl) (lenOf pd9 rfl) rfl (Nat.le_of_eq rfl) (hb hby at_48) (q := 51) rfl (by decide) (by decide) ?_
    intro v214 T214 L214 X214 Q214
    obtain ⟨rfl, Nq214, e214⟩ := Q214
    have N214 := Fr.app N213 Nq214
    show Go _ _ _ _ (T214.setTop (mkF m 51 #[.val (.int p0), .val (.int p1), .val (.int (1 : Int32)), .val (.ref b194), .val (.ref r_204), .val (.ref b194), .val (.ref t_204)] [(.int (1 : Int32))]))
    refine ifN X214 hx (hb hby at_51) (q := 54) rfl (by decide) ?_
    refine aLw X214 hx (hb hby at_54) (q := 56) rfl rfl rfl ?_
    have f222 : Fld Z T204.heap b194 "java/lang/String" "coder" "B" (.int (0 : Int32)) := C198q.keep K204q nin0
    have f223 : Fld Z T204.heap b194 "java/lang/String" "value" "[B" (.ref t198) := Fv198.keep K204q nin0
    have f224 : Arv Z T204.heap t198 kb198 .byte (1 : Int32) ((cs_196.map (fun c => c.toInt8.toInt32)).map Value.int) (.int 0) := Va198.keep K204q nin0
    refine g_vi X214 hx hZ204 hown204 (wd61 hw) (wd62 hw) (notFace_of_selects (args := #[]) (mvT hZ204 (wd64 hw))) (wd64 hw) (wd63 hw) (by decide) f215 e214 (Con.back (W := 0) (rm_len1 l Z a0 hw zC SC PC b194 t198 kb198 ((cs_196.map (fun c => c.toInt8.toInt32)).map Value.int) T204.heap f212 f215 f222 f223 f224) hZ204 (wd65 hw) (wd2 hw) (by decide) (by decide)) (by rw [hml]; rfl) (lenOf pd10 rfl) rfl (Nat.le_of_eq rfl) (hb hby at_56) (q := 59) rfl (by decide) (by decide) ?_
    intro v221 T221 L221 X221 Q221
    obtain ⟨rfl, Nq221, e221⟩ := Q221
    have N221 := Fr.app N214 Nq221
    show Go _ _ _ _ (T221.setTop (mkF m 59 #[.val (.int p0), .val (.int p1), .val (.int (1 : Int32)), .val (.ref b194), .val (.ref r_204), .val (.ref b194), .val (.ref t_204)] [(.int (1 : Int32))]))
    refine iL X221 hx (hb hby at_59) (q := 60) rfl rfl ?_
    refine icN X221 hx (hb hby at_60) (q := 63) rfl (by decide) ?_
    refine aLw X221 hx (hb hby at_63) (q := 65) rfl rfl rfl ?_
    refine nlN X221 hx (hb hby at_65) (q := 68) rfl ?_
    refine aLw X221 hx (hb hby at_68) (q := 70) rfl rfl rfl ?_
    refine g_len X221 hx hZ204 q204_3 e221 (hb hby at_70) (q := 71) rfl ?_
    refine ifN X221 hx (hb hby at_71) (q := 74) rfl (by decide) ?_
    refine cI X221 hx (hb hby at_74) (q := 75) rfl (z := (1 : Int32)) rfl ?_
    refine g_goto X221 hx (hb hby at_75) (q := 79) (by decide) (by decide) ?_
    have K225 : Keep h0 h194 [] := (Keep.refl h0 []).ext E194
    have K226 : Keep h0 T196.heap [] := K225.trans K196q all0
    have gh227 : h0.size ≤ b194 := Nat.le_trans (Nat.le_refl _) (Nat.le_of_eq g194.symm)
    have K228 : Keep h0 T198.heap [] := K226.trans K198q (allS (Or.inr gh227) all0)
    have K229 : Keep h0 T204.heap [] := K228.trans K204q all0
    have f230 : CHr Z EL s.vm s.heap T204.vm T204.heap := f210.trans R204
    refine endC X221 hlk hS204 (by rw [e221]; exact (Nat.le_trans (Nat.le_refl _) (Nat.le_refl _))) hZ204 (own_EW hw) (by rw [e221]; exact f230) (fun h => by rw [hret] at h; cases h) (lastN X221 hx (t := .boolean) (z' := (1 : Int32)) hret (by simp) (by decide) (hb hby at_79)) ?_ (by decide) (by decide)
    rw [e221]
    exact ⟨rfl, N221, K229⟩
  · rw [hk148]
    show Go _ _ _ _ (T0.setTop (mkF m 6 #[.val (.int p0), .val (.int p1), .unset, .unset, .unset, .unset, .unset] [(.int (2 : Int32))]))
    refine sI X0 hx (hb hby at_6) (q := 7) rfl (Ls' := #[.val (.int p0), .val (.int p1), .val (.int (2 : Int32)), .unset, .unset, .unset, .unset]) rfl ?_
    refine g_new X0 hx hZ0 hown0 (wd0 hw) (wd1 hw) (wd2 hw) (by decide) (by decide) e0 (hb hby at_7) (q := 10) rfl ?_
    intro T231 h231 b231 g231 X231 e231 E231 A231 D231
    have sf232 : Safe Z EL v0 h0 b231 := Safe.new (Nat.le_of_eq g231.symm)
    have F231_20 := D231 (Or.inr (wd20 hw)) (ty := (.array .byte)) (by decide)
    have F231_21 := D231 (Or.inr (wd21 hw)) (ty := .byte) (by decide)
    refine g_dup X231 hx (hb hby at_10) (q := 11) rfl rfl ?_
    refine iL X231 hx (hb hby at_11) (q := 12) rfl rfl ?_
    refine iL X231 hx (hb hby at_12) (q := 13) rfl rfl ?_
    have f234 : Old Z Z.heap.size h231 := O0.ext E231
    refine g_st X231 hx hZ0 hown0 (wd3 hw) (wd4 hw) (wd5 hw) (wd6 hw) (by decide) e231 (Con.back (W := 2) (rm_chars2 l Z a0 hw zC SC PC p1 h231 f234 ) hZ0 (wd6 hw) (wd5 hw) (by decide) (by decide)) (by rw [hml]; rfl) (lenOf pd4 rfl) rfl (Nat.le_of_eq rfl) (hb hby at_13) (q := 16) rfl (by decide) (by decide) ?_
    intro v233 T233 L233 X233 Q233
    obtain ⟨a_233, kc_233, cs_233, rfl, Nq233, K233q, q233_0, q233_1, q233_2, q233_3⟩ := Q233
    have N233 := Fr.app N0 Nq233
    show Go _ _ _ _ (T233.setTop (mkF m 16 #[.val (.int p0), .val (.int p1), .val (.int (2 : Int32)), .unset, .unset, .unset, .unset] [(.ref a_233), (.ref b231), (.ref b231)]))
    have f236 : Old Z Z.heap.size T233.heap := f234.keep K233q all0
    have gz237 : Z.heap.size ≤ b231 := Nat.le_trans O0.2.1 (Nat.le_of_eq g231.symm)
    have f238 : Exa Z T233.heap b231 "java/lang/String" := A231.keep K233q
    have f239 : Fld Z T233.heap b231 "java/lang/String" "value" "[B" .null := F231_20.keep K233q nin0
    have f240 : Fld Z T233.heap b231 "java/lang/String" "coder" "B" (.int (0 : Int32)) := F231_21.keep K233q nin0
    refine g_sp X233 hx hZ0 hown0 (wd8 hw) (wd9 hw) (wd10 hw) rfl (by decide) rfl (StrChars.Road.backV (W := 1) hZ0 (own_wStr hw) (kI := 4) (wd1 hw) (cs := cs_233) (bs := (cs_233.map (fun c => c.toInt8.toInt32))) (n := 2) gz237 f236.2.1 f238 f239 f240 q233_1 (SC.ext f236.2) PC q233_2 rfl (by decide) (by decide) q233_3 rfl (by decide) (by decide)) (a := b231) (argsL := [.ref a_233]) (W := 1) (nk := 1) (ns := 2) (Qc := StrChars.Road.QV Z b231 (2 : Int32) (cs_233.map (fun c => c.toInt8.toInt32)) T233.heap Z.heap.size) (by rw [hml]; rfl) (lenOf pd5 rfl) rfl (Nat.le_of_eq rfl) (hb hby at_16) (q := 19) rfl (by decide) (by decide) ?_
    intro v235 T235 L235 X235 Q235
    obtain ⟨rfl, Nq235, K235q, E235q, C235q, t235, kb235, tz235, tg235, tn235, Fv235, Va235⟩ := Q235
    have N235 := Fr.app N233 Nq235
    show Go _ _ _ _ (T235.setTop (mkF m 19 #[.val (.int p0), .val (.int p1), .val (.int (2 : Int32)), .unset, .unset, .unset, .unset] [(.ref b231)]))
    refine sA X235 hx (hb hby at_19) (q := 20) rfl rfl (Ls' := #[.val (.int p0), .val (.int p1), .val (.int (2 : Int32)), .val (.ref b231), .unset, .unset, .unset]) rfl ?_
    refine aL X235 hx (hb hby at_20) (q := 21) rfl rfl rfl ?_
    have f242 : Old Z Z.heap.size T235.heap := f236.keep K235q (allS gz237 all0)
    have f243 : CHr Z EL s.vm s.heap v0 h231 := C0.trans (CHr.ext E231 C0.1)
    have f244 : CHr Z EL s.vm s.heap v0 T233.heap := f243.trans (CHr.keep K233q sf0 f243.1)
    have f245 : Safe Z EL v0 h231 b231 := Safe.ext E231 C0.1 sf232
    have f246 : Safe Z EL v0 T233.heap b231 := Safe.keep K233q sf0 f243.1 f245
    have f247 : CHr Z EL s.vm s.heap v0 T235.heap := f244.trans (CHr.keep K235q (sfS f246 sf0) f244.1)
    refine g_stS X235 hx hZ0 hown0 hS0 (Nat.zero_le _) (wd26 hw) (wd27 hw) (wd28 hw) (wd29 hw) (by decide) rfl (ConS.back (W := 0) (rm_empty l Z a0 hw zC SC PC b231 T235.heap f242 E235q) hZ0 (wd29 hw) (wd28 hw) (by decide) (by decide) (own_EW hw) f247.1 sf0 all0) (by rw [hml]; rfl) (lenOf pd6 rfl) rfl (Nat.le_of_eq rfl) (hb hby at_21) (q := 24) rfl (by decide) (by decide) ?_
    rintro v241 T241 L241 ⟨X241, hS241, hZ241, hown241, R241⟩ Q241
    obtain ⟨r_241, t_241, kb_241, rfl, Nq241, K241q, q241_0, q241_1, q241_2, q241_3⟩ := Q241
    have N241 := Fr.app N235 Nq241
    show Go _ _ _ _ (T241.setTop (mkF m 24 #[.val (.int p0), .val (.int p1), .val (.int (2 : Int32)), .val (.ref b231), .unset, .unset, .unset] [(.ref r_241)]))
    refine sAw X241 hx (hb hby at_24) (q := 26) rfl rfl (Ls' := #[.val (.int p0), .val (.int p1), .val (.int (2 : Int32)), .val (.ref b231), .val (.ref r_241), .unset, .unset]) rfl ?_
    refine aLw X241 hx (hb hby at_26) (q := 28) rfl rfl rfl ?_
    have f249 : Old Z Z.heap.size T241.heap := f242.keep K241q all0
    refine g_vi X241 hx hZ241 hown241 (wd46 hw) (wd47 hw) (notFace_of_selects (args := #[]) (mvT hZ241 (wd49 hw))) (wd49 hw) (wd48 hw) (by decide) q241_0 rfl (Con.back (W := 0) (rm_getct l Z a0 hw zC SC PC r_241 b231 T241.heap f249 q241_1) hZ241 (wd50 hw) (wd28 hw) (by decide) (by decide)) (by rw [hml]; rfl) (lenOf pd7 rfl) rfl (Nat.le_of_eq rfl) (hb hby at_28) (q := 31) rfl (by decide) (by decide) ?_
    intro v248 T248 L248 X248 Q248
    obtain ⟨rfl, Nq248, e248⟩ := Q248
    have N248 := Fr.app N241 Nq248
    show Go _ _ _ _ (T248.setTop (mkF m 31 #[.val (.int p0), .val (.int p1), .val (.int (2 : Int32)), .val (.ref b231), .val (.ref r_241), .unset, .unset] [(.ref b231)]))
    refine sAw X248 hx (hb hby at_31) (q := 33) rfl rfl (Ls' := #[.val (.int p0), .val (.int p1), .val (.int (2 : Int32)), .val (.ref b231), .val (.ref r_241), .val (.ref b231), .unset]) rfl ?_
    refine aLw X248 hx (hb hby at_33) (q := 35) rfl rfl rfl ?_
    refine g_vi X248 hx hZ241 hown241 (wd51 hw) (wd52 hw) (notFace_of_selects (args := #[]) (mvT hZ241 (wd54 hw))) (wd54 hw) (wd53 hw) (by decide) q241_0 e248 (Con.back (W := 0) (rm_getby l Z a0 hw zC SC PC r_241 t_241 T241.heap f249 q241_2) hZ241 (wd55 hw) (wd28 hw) (by decide) (by decide)) (by rw [hml]; rfl) (lenOf pd8 rfl) rfl (Nat.le_of_eq rfl) (hb hby at_35) (q := 38) rfl (by decide) (by decide) ?_
    intro v250 T250 L250 X250 Q250
    obtain ⟨rfl, Nq250, e250⟩ := Q250
    have N250 := Fr.app N248 Nq250
    show Go _ _ _ _ (T250.setTop (mkF m 38 #[.val (.int p0), .val (.int p1), .val (.int (2 : Int32)), .val (.ref b231), .val (.ref r_241), .val (.ref b231), .unset] [(.ref t_241)]))
    refine sAw X250 hx (hb hby at_38) (q := 40) rfl rfl (Ls' := #[.val (.int p0), .val (.int p1), .val (.int (2 : Int32)), .val (.ref b231), .val (.ref r_241), .val (.ref b231), .val (.ref t_241)]) rfl ?_
    refine aLw X250 hx (hb hby at_40) (q := 42) rfl rfl rfl ?_
    refine nlN X250 hx (hb hby at_42) (q := 45) rfl ?_
    refine aLw X250 hx (hb hby at_45) (q := 47) rfl rfl rfl ?_
    refine aL X250 hx (hb hby at_47) (q := 48) rfl rfl rfl ?_
    have f252 : Exa Z T241.heap b231 "java/lang/String" := E235q.keep K241q
    refine g_vi X250 hx hZ241 hown241 (wd56 hw) (wd57 hw) (notFace_of_selects (args := #[]) (mvT hZ241 (wd59 hw))) (wd59 hw) (wd58 hw) (by decide) f252 e250 (Con.back (W := 0) (rm_eqid l Z a0 hw zC SC PC b231 T241.heap f249 ) hZ241 (wd60 hw) (wd2 hw) (by decide) (by decide)) (by rw [hml]; rfl) (lenOf pd9 rfl) rfl (Nat.le_of_eq rfl) (hb hby at_48) (q := 51) rfl (by decide) (by decide) ?_
    intro v251 T251 L251 X251 Q251
    obtain ⟨rfl, Nq251, e251⟩ := Q251
    have N251 := Fr.app N250 Nq251
    show Go _ _ _ _ (T251.setTop (mkF m 51 #[.val (.int p0), .val (.int p1), .val (.int (2 : Int32)), .val (.ref b231), .val (.ref r_241), .val (.ref b231), .val (.ref t_241)] [(.int (1 : Int32))]))
    refine ifN X251 hx (hb hby at_51) (q := 54) rfl (by decide) ?_
    refine aLw X251 hx (hb hby at_54) (q := 56) rfl rfl rfl ?_
    have f261 : Fld Z T241.heap b231 "java/lang/String" "coder" "B" (.int (0 : Int32)) := C235q.keep K241q nin0
    have f262 : Fld Z T241.heap b231 "java/lang/String" "value" "[B" (.ref t235) := Fv235.keep K241q nin0
    have f263 : Arv Z T241.heap t235 kb235 .byte (2 : Int32) ((cs_233.map (fun c => c.toInt8.toInt32)).map Value.int) (.int 0) := Va235.keep K241q nin0
    refine g_vi X251 hx hZ241 hown241 (wd61 hw) (wd62 hw) (notFace_of_selects (args := #[]) (mvT hZ241 (wd64 hw))) (wd64 hw) (wd63 hw) (by decide) f252 e251 (Con.back (W := 0) (rm_len2 l Z a0 hw zC SC PC b231 t235 kb235 ((cs_233.map (fun c => c.toInt8.toInt32)).map Value.int) T241.heap f249 f252 f261 f262 f263) hZ241 (wd65 hw) (wd2 hw) (by decide) (by decide)) (by rw [hml]; rfl) (lenOf pd10 rfl) rfl (Nat.le_of_eq rfl) (hb hby at_56) (q := 59) rfl (by decide) (by decide) ?_
    intro v260 T260 L260 X260 Q260
    obtain ⟨rfl, Nq260, e260⟩ := Q260
    have N260 := Fr.app N251 Nq260
    show Go _ _ _ _ (T260.setTop (mkF m 59 #[.val (.int p0), .val (.int p1), .val (.int (2 : Int32)), .val (.ref b231), .val (.ref r_241), .val (.ref b231), .val (.ref t_241)] [(.int (2 : Int32))]))
    refine iL X260 hx (hb hby at_59) (q := 60) rfl rfl ?_
    refine icN X260 hx (hb hby at_60) (q := 63) rfl (by decide) ?_
    refine aLw X260 hx (hb hby at_63) (q := 65) rfl rfl rfl ?_
    refine nlN X260 hx (hb hby at_65) (q := 68) rfl ?_
    refine aLw X260 hx (hb hby at_68) (q := 70) rfl rfl rfl ?_
    refine g_len X260 hx hZ241 q241_3 e260 (hb hby at_70) (q := 71) rfl ?_
    refine ifN X260 hx (hb hby at_71) (q := 74) rfl (by decide) ?_
    refine cI X260 hx (hb hby at_74) (q := 75) rfl (z := (1 : Int32)) rfl ?_
    refine g_goto X260 hx (hb hby at_75) (q := 79) (by decide) (by decide) ?_
    have K264 : Keep h0 h231 [] := (Keep.refl h0 []).ext E231
    have K265 : Keep h0 T233.heap [] := K264.trans K233q all0
    have gh266 : h0.size ≤ b231 := Nat.le_trans (Nat.le_refl _) (Nat.le_of_eq g231.symm)
    have K267 : Keep h0 T235.heap [] := K265.trans K235q (allS (Or.inr gh266) all0)
    have K268 : Keep h0 T241.heap [] := K267.trans K241q all0
    have f269 : CHr Z EL s.vm s.heap T241.vm T241.heap := f247.trans R241
    refine endC X260 hlk hS241 (by rw [e260]; exact (Nat.le_trans (Nat.le_refl _) (Nat.le_refl _))) hZ241 (own_EW hw) (by rw [e260]; exact f269) (fun h => by rw [hret] at h; cases h) (lastN X260 hx (t := .boolean) (z' := (1 : Int32)) hret (by simp) (by decide) (hb hby at_79)) ?_ (by decide) (by decide)
    rw [e260]
    exact ⟨rfl, N260, K268⟩
  · rw [hk149]
    show Go _ _ _ _ (T0.setTop (mkF m 6 #[.val (.int p0), .val (.int p1), .unset, .unset, .unset, .unset, .unset] [(.int (3 : Int32))]))
    refine sI X0 hx (hb hby at_6) (q := 7) rfl (Ls' := #[.val (.int p0), .val (.int p1), .val (.int (3 : Int32)), .unset, .unset, .unset, .unset]) rfl ?_
    refine g_new X0 hx hZ0 hown0 (wd0 hw) (wd1 hw) (wd2 hw) (by decide) (by decide) e0 (hb hby at_7) (q := 10) rfl ?_
    intro T270 h270 b270 g270 X270 e270 E270 A270 D270
    have sf271 : Safe Z EL v0 h0 b270 := Safe.new (Nat.le_of_eq g270.symm)
    have F270_20 := D270 (Or.inr (wd20 hw)) (ty := (.array .byte)) (by decide)
    have F270_21 := D270 (Or.inr (wd21 hw)) (ty := .byte) (by decide)
    refine g_dup X270 hx (hb hby at_10) (q := 11) rfl rfl ?_
    refine iL X270 hx (hb hby at_11) (q := 12) rfl rfl ?_
    refine iL X270 hx (hb hby at_12) (q := 13) rfl rfl ?_
    have f273 : Old Z Z.heap.size h270 := O0.ext E270
    refine g_st X270 hx hZ0 hown0 (wd3 hw) (wd4 hw) (wd5 hw) (wd6 hw) (by decide) e270 (Con.back (W := 2) (rm_chars3 l Z a0 hw zC SC PC p1 h270 f273 ) hZ0 (wd6 hw) (wd5 hw) (by decide) (by decide)) (by rw [hml]; rfl) (lenOf pd4 rfl) rfl (Nat.le_of_eq rfl) (hb hby at_13) (q := 16) rfl (by decide) (by decide) ?_
    intro v272 T272 L272 X272 Q272
    obtain ⟨a_272, kc_272, cs_272, rfl, Nq272, K272q, q272_0, q272_1, q272_2, q272_3⟩ := Q272
    have N272 := Fr.app N0 Nq272
    show Go _ _ _ _ (T272.setTop (mkF m 16 #[.val (.int p0), .val (.int p1), .val (.int (3 : Int32)), .unset, .unset, .unset, .unset] [(.ref a_272), (.ref b270), (.ref b270)]))
    have f275 : Old Z Z.heap.size T272.heap := f273.keep K272q all0
    have gz276 : Z.heap.size ≤ b270 := Nat.le_trans O0.2.1 (Nat.le_of_eq g270.symm)
    have f277 : Exa Z T272.heap b270 "java/lang/String" := A270.keep K272q
    have f278 : Fld Z T272.heap b270 "java/lang/String" "value" "[B" .null := F270_20.keep K272q nin0
    have f279 : Fld Z T272.heap b270 "java/lang/String" "coder" "B" (.int (0 : Int32)) := F270_21.keep K272q nin0
    refine g_sp X272 hx hZ0 hown0 (wd8 hw) (wd9 hw) (wd10 hw) rfl (by decide) rfl (StrChars.Road.backV (W := 1) hZ0 (own_wStr hw) (kI := 4) (wd1 hw) (cs := cs_272) (bs := (cs_272.map (fun c => c.toInt8.toInt32))) (n := 3) gz276 f275.2.1 f277 f278 f279 q272_1 (SC.ext f275.2) PC q272_2 rfl (by decide) (by decide) q272_3 rfl (by decide) (by decide)) (a := b270) (argsL := [.ref a_272]) (W := 1) (nk := 1) (ns := 3) (Qc := StrChars.Road.QV Z b270 (3 : Int32) (cs_272.map (fun c => c.toInt8.toInt32)) T272.heap Z.heap.size) (by rw [hml]; rfl) (lenOf pd5 rfl) rfl (Nat.le_of_eq rfl) (hb hby at_16) (q := 19) rfl (by decide) (by decide) ?_
    intro v274 T274 L274 X274 Q274
    obtain ⟨rfl, Nq274, K274q, E274q, C274q, t274, kb274, tz274, tg274, tn274, Fv274, Va274⟩ := Q274
    have N274 := Fr.app N272 Nq274
    show Go _ _ _ _ (T274.setTop (mkF m 19 #[.val (.int p0), .val (.int p1), .val (.int (3 : Int32)), .unset, .unset, .unset, .unset] [(.ref b270)]))
    refine sA X274 hx (hb hby at_19) (q := 20) rfl rfl (Ls' := #[.val (.int p0), .val (.int p1), .val (.int (3 : Int32)), .val (.ref b270), .unset, .unset, .unset]) rfl ?_
    refine aL X274 hx (hb hby at_20) (q := 21) rfl rfl rfl ?_
    have f281 : Old Z Z.heap.size T274.heap := f275.keep K274q (allS gz276 all0)
    have f282 : CHr Z EL s.vm s.heap v0 h270 := C0.trans (CHr.ext E270 C0.1)
    have f283 : CHr Z EL s.vm s.heap v0 T272.heap := f282.trans (CHr.keep K272q sf0 f282.1)
    have f284 : Safe Z EL v0 h270 b270 := Safe.ext E270 C0.1 sf271
    have f285 : Safe Z EL v0 T272.heap b270 := Safe.keep K272q sf0 f282.1 f284
    have f286 : CHr Z EL s.vm s.heap v0 T274.heap := f283.trans (CHr.keep K274q (sfS f285 sf0) f283.1)
    refine g_stS X274 hx hZ0 hown0 hS0 (Nat.zero_le _) (wd26 hw) (wd27 hw) (wd28 hw) (wd29 hw) (by decide) rfl (ConS.back (W := 0) (rm_empty l Z a0 hw zC SC PC b270 T274.heap f281 E274q) hZ0 (wd29 hw) (wd28 hw) (by decide) (by decide) (own_EW hw) f286.1 sf0 all0) (by rw [hml]; rfl) (lenOf pd6 rfl) rfl (Nat.le_of_eq rfl) (hb hby at_21) (q := 24) rfl (by decide) (by decide) ?_
    rintro v280 T280 L280 ⟨X280, hS280, hZ280, hown280, R280⟩ Q280
    obtain ⟨r_280, t_280, kb_280, rfl, Nq280, K280q, q280_0, q280_1, q280_2, q280_3⟩ := Q280
    have N280 := Fr.app N274 Nq280
    show Go _ _ _ _ (T280.setTop (mkF m 24 #[.val (.int p0), .val (.int p1), .val (.int (3 : Int32)), .val (.ref b270), .unset, .unset, .unset] [(.ref r_280)]))
    refine sAw X280 hx (hb hby at_24) (q := 26) rfl rfl (Ls' := #[.val (.int p0), .val (.int p1), .val (.int (3 : Int32)), .val (.ref b270), .val (.ref r_280), .unset, .unset]) rfl ?_
    refine aLw X280 hx (hb hby at_26) (q := 28) rfl rfl rfl ?_
    have f288 : Old Z Z.heap.size T280.heap := f281.keep K280q all0
    refine g_vi X280 hx hZ280 hown280 (wd46 hw) (wd47 hw) (notFace_of_selects (args := #[]) (mvT hZ280 (wd49 hw))) (wd49 hw) (wd48 hw) (by decide) q280_0 rfl (Con.back (W := 0) (rm_getct l Z a0 hw zC SC PC r_280 b270 T280.heap f288 q280_1) hZ280 (wd50 hw) (wd28 hw) (by decide) (by decide)) (by rw [hml]; rfl) (lenOf pd7 rfl) rfl (Nat.le_of_eq rfl) (hb hby at_28) (q := 31) rfl (by decide) (by decide) ?_
    intro v287 T287 L287 X287 Q287
    obtain ⟨rfl, Nq287, e287⟩ := Q287
    have N287 := Fr.app N280 Nq287
    show Go _ _ _ _ (T287.setTop (mkF m 31 #[.val (.int p0), .val (.int p1), .val (.int (3 : Int32)), .val (.ref b270), .val (.ref r_280), .unset, .unset] [(.ref b270)]))
    refine sAw X287 hx (hb hby at_31) (q := 33) rfl rfl (Ls' := #[.val (.int p0), .val (.int p1), .val (.int (3 : Int32)), .val (.ref b270), .val (.ref r_280), .val (.ref b270), .unset]) rfl ?_
    refine aLw X287 hx (hb hby at_33) (q := 35) rfl rfl rfl ?_
    refine g_vi X287 hx hZ280 hown280 (wd51 hw) (wd52 hw) (notFace_of_selects (args := #[]) (mvT hZ280 (wd54 hw))) (wd54 hw) (wd53 hw) (by decide) q280_0 e287 (Con.back (W := 0) (rm_getby l Z a0 hw zC SC PC r_280 t_280 T280.heap f288 q280_2) hZ280 (wd55 hw) (wd28 hw) (by decide) (by decide)) (by rw [hml]; rfl) (lenOf pd8 rfl) rfl (Nat.le_of_eq rfl) (hb hby at_35) (q := 38) rfl (by decide) (by decide) ?_
    intro v289 T289 L289 X289 Q289
    obtain ⟨rfl, Nq289, e289⟩ := Q289
    have N289 := Fr.app N287 Nq289
    show Go _ _ _ _ (T289.setTop (mkF m 38 #[.val (.int p0), .val (.int p1), .val (.int (3 : Int32)), .val (.ref b270), .val (.ref r_280), .val (.ref b270), .unset] [(.ref t_280)]))
    refine sAw X289 hx (hb hby at_38) (q := 40) rfl rfl (Ls' := #[.val (.int p0), .val (.int p1), .val (.int (3 : Int32)), .val (.ref b270), .val (.ref r_280), .val (.ref b270), .val (.ref t_280)]) rfl ?_
    refine aLw X289 hx (hb hby at_40) (q := 42) rfl rfl rfl ?_
    refine nlN X289 hx (hb hby at_42) (q := 45) rfl ?_
    refine aLw X289 hx (hb hby at_45) (q := 47) rfl rfl rfl ?_
    refine aL X289 hx (hb hby at_47) (q := 48) rfl rfl rfl ?_
    have f291 : Exa Z T280.heap b270 "java/lang/String" := E274q.keep K280q
    refine g_vi X289 hx hZ280 hown280 (wd56 hw) (wd57 hw) (notFace_of_selects (args := #[]) (mvT hZ280 (wd59 hw))) (wd59 hw) (wd58 hw) (by decide) f291 e289 (Con.back (W := 0) (rm_eqid l Z a0 hw zC SC PC b270 T280.heap f288 ) hZ280 (wd60 hw) (wd2 hw) (by decide) (by decide)) (by rw [hml]; rfl) (lenOf pd9 rfl) rfl (Nat.le_of_eq rfl) (hb hby at_48) (q := 51) rfl (by decide) (by decide) ?_
    intro v290 T290 L290 X290 Q290
    obtain ⟨rfl, Nq290, e290⟩ := Q290
    have N290 := Fr.app N289 Nq290
    show Go _ _ _ _ (T290.setTop (mkF m 51 #[.val (.int p0), .val (.int p1), .val (.int (3 : Int32)), .val (.ref b270), .val (.ref r_280), .val (.ref b270), .val (.ref t_280)] [(.int (1 : Int32))]))
    refine ifN X290 hx (hb hby at_51) (q := 54) rfl (by decide) ?_
    refine aLw X290 hx (hb hby at_54) (q := 56) rfl rfl rfl ?_
    have f302 : Fld Z T280.heap b270 "java/lang/String" "coder" "B" (.int (0 : Int32)) := C274q.keep K280q nin0
    have f303 : Fld Z T280.heap b270 "java/lang/String" "value" "[B" (.ref t274) := Fv274.keep K280q nin0
    have f304 : Arv Z T280.heap t274 kb274 .byte (3 : Int32) ((cs_272.map (fun c => c.toInt8.toInt32)).map Value.int) (.int 0) := Va274.keep K280q nin0
    refine g_vi X290 hx hZ280 hown280 (wd61 hw) (wd62 hw) (notFace_of_selects (args := #[]) (mvT hZ280 (wd64 hw))) (wd64 hw) (wd63 hw) (by decide) f291 e290 (Con.back (W := 0) (rm_len3 l Z a0 hw zC SC PC b270 t274 kb274 ((cs_272.map (fun c => c.toInt8.toInt32)).map Value.int) T280.heap f288 f291 f302 f303 f304) hZ280 (wd65 hw) (wd2 hw) (by decide) (by decide)) (by rw [hml]; rfl) (lenOf pd10 rfl) rfl (Nat.le_of_eq rfl) (hb hby at_56) (q := 59) rfl (by decide) (by decide) ?_
    intro v301 T301 L301 X301 Q301
    obtain ⟨rfl, Nq301, e301⟩ := Q301
    have N301 := Fr.app N290 Nq301
    show Go _ _ _ _ (T301.setTop (mkF m 59 #[.val (.int p0), .val (.int p1), .val (.int (3 : Int32)), .val (.ref b270), .val (.ref r_280), .val (.ref b270), .val (.ref t_280)] [(.int (3 : Int32))]))
    refine iL X301 hx (hb hby at_59) (q := 60) rfl rfl ?_
    refine icN X301 hx (hb hby at_60) (q := 63) rfl (by decide) ?_
    refine aLw X301 hx (hb hby at_63) (q := 65) rfl rfl rfl ?_
    refine nlN X301 hx (hb hby at_65) (q := 68) rfl ?_
    refine aLw X301 hx (hb hby at_68) (q := 70) rfl rfl rfl ?_
    refine g_len X301 hx hZ280 q280_3 e301 (hb hby at_70) (q := 71) rfl ?_
    refine ifN X301 hx (hb hby at_71) (q := 74) rfl (by decide) ?_
    refine cI X301 hx (hb hby at_74) (q := 75) rfl (z := (1 : Int32)) rfl ?_
    refine g_goto X301 hx (hb hby at_75) (q := 79) (by decide) (by decide) ?_
    have K305 : Keep h0 h270 [] := (Keep.refl h0 []).ext E270
    have K306 : Keep h0 T272.heap [] := K305.trans K272q all0
    have gh307 : h0.size ≤ b270 := Nat.le_trans (Nat.le_refl _) (Nat.le_of_eq g270.symm)
    have K308 : Keep h0 T274.heap [] := K306.trans K274q (allS (Or.inr gh307) all0)
    have K309 : Keep h0 T280.heap [] := K308.trans K280q all0
    have f310 : CHr Z EL s.vm s.heap T280.vm T280.heap := f286.trans R280
    refine endC X301 hlk hS280 (by rw [e301]; exact (Nat.le_trans (Nat.le_refl _) (Nat.le_refl _))) hZ280 (own_EW hw) (by rw [e301]; exact f310) (fun h => by rw [hret] at h; cases h) (lastN X301 hx (t := .boolean) (z' := (1 : Int32)) hret (by simp) (by decide) (hb hby at_79)) ?_ (by decide) (by decide)
    rw [e301]
    exact ⟨rfl, N301, K309⟩
  · rw [hk150]
    show Go _ _ _ _ (T0.setTop (mkF m 6 #[.val (.int p0), .val (.int p1), .unset, .unset, .unset, .unset, .unset] [(.int (4 : Int32))]))
    refine sI X0 hx (hb hby at_6) (q := 7) rfl (Ls' := #[.val (.int p0), .val (.int p1), .val (.int (4 : Int32)), .unset, .unset, .unset, .unset]) rfl ?_
    refine g_new X0 hx hZ0 hown0 (wd0 hw) (wd1 hw) (wd2 hw) (by decide) (by decide) e0 (hb hby at_7) (q := 10) rfl ?_
    intro T311 h311 b311 g311 X311 e311 E311 A311 D311
    have sf312 : Safe Z EL v0 h0 b311 := Safe.new (Nat.le_of_eq g311.symm)
    have F311_20 := D311 (Or.inr (wd20 hw)) (ty := (.array .byte)) (by decide)
    have F311_21 := D311 (Or.inr (wd21 hw)) (ty := .byte) (by decide)
    refine g_dup X311 hx (hb hby at_10) (q := 11) rfl rfl ?_
    refine iL X311 hx (hb hby at_11) (q := 12) rfl rfl ?_
    refine iL X311 hx (hb hby at_12) (q := 13) rfl rfl ?_
    have f314 : Old Z Z.heap.size h311 := O0.ext E311
    refine g_st X311 hx hZ0 hown0 (wd3 hw) (wd4 hw) (wd5 hw) (wd6 hw) (by decide) e311 (Con.back (W := 2) (rm_chars4 l Z a0 hw zC SC PC p1 h311 f314 ) hZ0 (wd6 hw) (wd5 hw) (by decide) (by decide)) (by rw [hml]; rfl) (lenOf pd4 rfl) rfl (Nat.le_of_eq rfl) (hb hby at_13) (q := 16) rfl (by decide) (by decide) ?_
    intro v313 T313 L313 X313 Q313
    obtain ⟨a_313, kc_313, cs_313, rfl, Nq313, K313q, q313_0, q313_1, q313_2, q313_3⟩ := Q313
    have N313 := Fr.app N0 Nq313
    show Go _ _ _ _ (T313.setTop (mkF m 16 #[.val (.int p0), .val (.int p1), .val (.int (4 : Int32)), .unset, .unset, .unset, .unset] [(.ref a_313), (.ref b311), (.ref b311)]))
    have f316 : Old Z Z.heap.size T313.heap := f314.keep K313q all0
    have gz317 : Z.heap.size ≤ b311 := Nat.le_trans O0.2.1 (Nat.le_of_eq g311.symm)
    have f318 : Exa Z T313.heap b311 "java/lang/String" := A311.keep K313q
    have f319 : Fld Z T313.heap b311 "java/lang/String" "value" "[B" .null := F311_20.keep K313q nin0
    have f320 : Fld Z T313.heap b311 "java/lang/String" "coder" "B" (.int (0 : Int32)) := F311_21.keep K313q nin0
    refine g_sp X313 hx hZ0 hown0 (wd8 hw) (wd9 hw) (wd10 hw) rfl (by decide) rfl (StrChars.Road.backV (W := 1) hZ0 (own_wStr hw) (kI := 4) (wd1 hw) (cs := cs_313) (bs := (cs_313.map (fun c => c.toInt8.toInt32))) (n := 4) gz317 f316.2.1 f318 f319 f320 q313_1 (SC.ext f316.2) PC q313_2 rfl (by decide) (by decide) q313_3 rfl (by decide) (by decide)) (a := b311) (argsL := [.ref a_313]) (W := 1) (nk := 1) (ns := 4) (Qc := StrChars.Road.QV Z b311 (4 : Int32) (cs_313.map (fun c => c.toInt8.toInt32)) T313.heap Z.heap.size) (by rw [hml]; rfl) (lenOf pd5 rfl) rfl (Nat.le_of_eq rfl) (hb hby at_16) (q := 19) rfl (by decide) (by decide) ?_
    intro v315 T315 L315 X315 Q315
    obtain ⟨rfl, Nq315, K315q, E315q, C315q, t315, kb315, tz315, tg315, tn315, Fv315, Va315⟩ := Q315
    have N315 := Fr.app N313 Nq315
    show Go _ _ _ _ (T315.setTop (mkF m 19 #[.val (.int p0), .val (.int p1), .val (.int (4 : Int32)), .unset, .unset, .unset, .unset] [(.ref b311)]))
    refine sA X315 hx (hb hby at_19) (q := 20) rfl rfl (Ls' := #[.val (.int p0), .val (.int p1), .val (.int (4 : Int32)), .val (.ref b311), .unset, .unset, .unset]) rfl ?_
    refine aL X315 hx (hb hby at_20) (q := 21) rfl rfl rfl ?_
    have f322 : Old Z Z.heap.size T315.heap := f316.keep K315q (allS gz317 all0)
    have f323 : CHr Z EL s.vm s.heap v0 h311 := C0.trans (CHr.ext E311 C0.1)
    have f324 : CHr Z EL s.vm s.heap v0 T313.heap := f323.trans (CHr.keep K313q sf0 f323.1)
    have f325 : Safe Z EL v0 h311 b311 := Safe.ext E311 C0.1 sf312
    have f326 : Safe Z EL v0 T313.heap b311 := Safe.keep K313q sf0 f323.1 f325
    have f327 : CHr Z EL s.vm s.heap v0 T315.heap := f324.trans (CHr.keep K315q (sfS f326 sf0) f324.1)
    refine g_stS X315 hx hZ0 hown0 hS0 (Nat.zero_le _) (wd26 hw) (wd27 hw) (wd28 hw) (wd29 hw) (by decide) rfl (ConS.back (W := 0) (rm_empty l Z a0 hw zC SC PC b311 T315.heap f322 E315q) hZ0 (wd29 hw) (wd28 hw) (by decide) (by decide) (own_EW hw) f327.1 sf0 all0) (by rw [hml]; rfl) (lenOf pd6 rfl) rfl (Nat.le_of_eq rfl) (hb hby at_21) (q := 24) rfl (by decide) (by decide) ?_
    rintro v321 T321 L321 ⟨X321, hS321, hZ321, hown321, R321⟩ Q321
    obtain ⟨r_321, t_321, kb_321, rfl, Nq321, K321q, q321_0, q321_1, q321_2, q321_3⟩ := Q321
    have N321 := Fr.app N315 Nq321
    show Go _ _ _ _ (T321.setTop (mkF m 24 #[.val (.int p0), .val (.int p1), .val (.int (4 : Int32)), .val (.ref b311), .unset, .unset, .unset] [(.ref r_321)]))
    refine sAw X321 hx (hb hby at_24) (q := 26) rfl rfl (Ls' := #[.val (.int p0), .val (.int p1), .val (.int (4 : Int32)), .val (.ref b311), .val (.ref r_321), .unset, .unset]) rfl ?_
    refine aLw X321 hx (hb hby at_26) (q := 28) rfl rfl rfl ?_
    have f329 : Old Z Z.heap.size T321.heap := f322.keep K321q all0
    refine g_vi X321 hx hZ321 hown321 (wd46 hw) (wd47 hw) (notFace_of_selects (args := #[]) (mvT hZ321 (wd49 hw))) (wd49 hw) (wd48 hw) (by decide) q321_0 rfl (Con.back (W := 0) (rm_getct l Z a0 hw zC SC PC r_321 b311 T321.heap f329 q321_1) hZ321 (wd50 hw) (wd28 hw) (by decide) (by decide)) (by rw [hml]; rfl) (lenOf pd7 rfl) rfl (Nat.le_of_eq rfl) (hb hby at_28) (q := 31) rfl (by decide) (by decide) ?_
    intro v328 T328 L328 X328 Q328
    obtain ⟨rfl, Nq328, e328⟩ := Q328
    have N328 := Fr.app N321 Nq328
    show Go _ _ _ _ (T328.setTop (mkF m 31 #[.val (.int p0), .val (.int p1), .val (.int (4 : Int32)), .val (.ref b311), .val (.ref r_321), .unset, .unset] [(.ref b311)]))
    refine sAw X328 hx (hb hby at_31) (q := 33) rfl rfl (Ls' := #[.val (.int p0), .val (.int p1), .val (.int (4 : Int32)), .val (.ref b311), .val (.ref r_321), .val (.ref b311), .unset]) rfl ?_
    refine aLw X328 hx (hb hby at_33) (q := 35) rfl rfl rfl ?_
    refine g_vi X328 hx hZ321 hown321 (wd51 hw) (wd52 hw) (notFace_of_selects (args := #[]) (mvT hZ321 (wd54 hw))) (wd54 hw) (wd53 hw) (by decide) q321_0 e328 (Con.back (W := 0) (rm_getby l Z a0 hw zC SC PC r_321 t_321 T321.heap f329 q321_2) hZ321 (wd55 hw) (wd28 hw) (by decide) (by decide)) (by rw [hml]; rfl) (lenOf pd8 rfl) rfl (Nat.le_of_eq rfl) (hb hby at_35) (q := 38) rfl (by decide) (by decide) ?_
    intro v330 T330 L330 X330 Q330
    obtain ⟨rfl, Nq330, e330⟩ := Q330
    have N330 := Fr.app N328 Nq330
    show Go _ _ _ _ (T330.setTop (mkF m 38 #[.val (.int p0), .val (.int p1), .val (.int (4 : Int32)), .val (.ref b311), .val (.ref r_321), .val (.ref b311), .unset] [(.ref t_321)]))
    refine sAw X330 hx (hb hby at_38) (q := 40) rfl rfl (Ls' := #[.val (.int p0), .val (.int p1), .val (.int (4 : Int32)), .val (.ref b311), .val (.ref r_321), .val (.ref b311), .val (.ref t_321)]) rfl ?_
    refine aLw X330 hx (hb hby at_40) (q := 42) rfl rfl rfl ?_
    refine nlN X330 hx (hb hby at_42) (q := 45) rfl ?_
    refine aLw X330 hx (hb hby at_45) (q := 47) rfl rfl rfl ?_
    refine aL X330 hx (hb hby at_47) (q := 48) rfl rfl rfl ?_
    have f332 : Exa Z T321.heap b311 "java/lang/String" := E315q.keep K321q
    refine g_vi X330 hx hZ321 hown321 (wd56 hw) (wd57 hw) (notFace_of_selects (args := #[]) (mvT hZ321 (wd59 hw))) (wd59 hw) (wd58 hw) (by decide) f332 e330 (Con.back (W := 0) (rm_eqid l Z a0 hw zC SC PC b311 T321.heap f329 ) hZ321 (wd60 hw) (wd2 hw) (by decide) (by decide)) (by rw [hml]; rfl) (lenOf pd9 rfl) rfl (Nat.le_of_eq rfl) (hb hby at_48) (q := 51) rfl (by decide) (by decide) ?_
    intro v331 T331 L331 X331 Q331
    obtain ⟨rfl, Nq331, e331⟩ := Q331
    have N331 := Fr.app N330 Nq331
    show Go _ _ _ _ (T331.setTop (mkF m 51 #[.val (.int p0), .val (.int p1), .val (.int (4 : Int32)), .val (.ref b311), .val (.ref r_321), .val (.ref b311), .val (.ref t_321)] [(.int (1 : Int32))]))
    refine ifN X331 hx (hb hby at_51) (q := 54) rfl (by decide) ?_
    refine aLw X331 hx (hb hby at_54) (q := 56) rfl rfl rfl ?_
    have f345 : Fld Z T321.heap b311 "java/lang/String" "coder" "B" (.int (0 : Int32)) := C315q.keep K321q nin0
    have f346 : Fld Z T321.heap b311 "java/lang/String" "value" "[B" (.ref t315) := Fv315.keep K321q nin0
    have f347 : Arv Z T321.heap t315 kb315 .byte (4 : Int32) ((cs_313.map (fun c => c.toInt8.toInt32)).map Value.int) (.int 0) := Va315.keep K321q nin0
    refine g_vi X331 hx hZ321 hown321 (wd61 hw) (wd62 hw) (notFace_of_selects (args := #[]) (mvT hZ321 (wd64 hw))) (wd64 hw) (wd63 hw) (by decide) f332 e331 (Con.back (W := 0) (rm_len4 l Z a0 hw zC SC PC b311 t315 kb315 ((cs_313.map (fun c => c.toInt8.toInt32)).map Value.int) T321.heap f329 f332 f345 f346 f347) hZ321 (wd65 hw) (wd2 hw) (by decide) (by decide)) (by rw [hml]; rfl) (lenOf pd10 rfl) rfl (Nat.le_of_eq rfl) (hb hby at_56) (q := 59) rfl (by decide) (by decide) ?_
    intro v344 T344 L344 X344 Q344
    obtain ⟨rfl, Nq344, e344⟩ := Q344
    have N344 := Fr.app N331 Nq344
    show Go _ _ _ _ (T344.setTop (mkF m 59 #[.val (.int p0), .val (.int p1), .val (.int (4 : Int32)), .val (.ref b311), .val (.ref r_321), .val (.ref b311), .val (.ref t_321)] [(.int (4 : Int32))]))
    refine iL X344 hx (hb hby at_59) (q := 60) rfl rfl ?_
    refine icN X344 hx (hb hby at_60) (q := 63) rfl (by decide) ?_
    refine aLw X344 hx (hb hby at_63) (q := 65) rfl rfl rfl ?_
    refine nlN X344 hx (hb hby at_65) (q := 68) rfl ?_
    refine aLw X344 hx (hb hby at_68) (q := 70) rfl rfl rfl ?_
    refine g_len X344 hx hZ321 q321_3 e344 (hb hby at_70) (q := 71) rfl ?_
    refine ifN X344 hx (hb hby at_71) (q := 74) rfl (by decide) ?_
    refine cI X344 hx (hb hby at_74) (q := 75) rfl (z := (1 : Int32)) rfl ?_
    refine g_goto X344 hx (hb hby at_75) (q := 79) (by decide) (by decide) ?_
    have K348 : Keep h0 h311 [] := (Keep.refl h0 []).ext E311
    have K349 : Keep h0 T313.heap [] := K348.trans K313q all0
    have gh350 : h0.size ≤ b311 := Nat.le_trans (Nat.le_refl _) (Nat.le_of_eq g311.symm)
    have K351 : Keep h0 T315.heap [] := K349.trans K315q (allS (Or.inr gh350) all0)
    have K352 : Keep h0 T321.heap [] := K351.trans K321q all0
    have f353 : CHr Z EL s.vm s.heap T321.vm T321.heap := f327.trans R321
    refine endC X344 hlk hS321 (by rw [e344]; exact (Nat.le_trans (Nat.le_refl _) (Nat.le_refl _))) hZ321 (own_EW hw) (by rw [e344]; exact f353) (fun h => by rw [hret] at h; cases h) (lastN X344 hx (t := .boolean) (z' := (1 : Int32)) hret (by simp) (by decide) (hb hby at_79)) ?_ (by decide) (by decide)
    rw [e344]
    exact ⟨rfl, N344, K352⟩
set_option maxRecDepth 65536 in
set_option maxHeartbeats 40000000 in
theorem comes_1 {Post : Tables → Env → Array Value → State → Outcome → State → Prop} (hpost : ∀ tb e args s v u, (limb_1_1.after args s (.returned v) u = true ∧ limb_1_2.after args s (.returned v) u = true) → ReturnedEndW s (.returned v) u (Jvm.fieldLocs frame_1_writes args s ++ Jvm.arrayLocs frame_1_arrays args s ++ Jvm.staticLocs frame_1_statics s) 24 2176 → Post tb e args s (.returned v) u) :
    ArmFor flags0 classFile x code maxLocals ret World_1 tables_1 room_1 Calls_1 rest_1 Pre_1 Post := by
  intro l hfl _ _ p e ha hc hk s m args below hf hA hF happ hP
  obtain ⟨hcalls, hrest, hpre⟩ := hP
  obtain ⟨-, -, -, hnamed, -, -, -, hat⟩ := (Spec.applies_iff hf).mp happ
  obtain ⟨hg, hn⟩ := and_e (Cond.before_iff.mp (show (Jvm.Cond.and given_1 narrow_1).before args s = true from hpre))
  obtain ⟨g0, r0⟩ := and_e hg
  obtain ⟨i0, r1⟩ := and_e r0
  obtain ⟨w0, w1, rfl⟩ : ∃ w0 w1 : Value, args = #[w0, w1] := by
    have hs : args.size = 2 := by simpa [Cond.value, given_1] using g0
    obtain ⟨L⟩ := args
    match L, hs with
    | [w0, w1], _ => exact ⟨w0, w1, rfl⟩
  have hw := fun d (hd : d ∈ tables_1) => atoms_spec (ws := Jvm.Cond.code x code maxLocals ret :: tables_1) hat d (List.mem_cons_of_mem _ hd)
  obtain ⟨hsets, hown0⟩ := atoms_of _ (rest_1_c_eq ▸ (show rest_1_c.before _ s = true from hrest))
  have hfit : Fit s := fun {y c} hc i hi => by
    obtain ⟨ha, rfl⟩ := Array.getElem?_eq_some_iff.mp hc
    have q := List.all_eq_true.mp ((Array.all_eq_true_iff_forall_mem.mp hF) _ (Array.getElem_mem ha)) i (List.mem_range.mpr hi)
    simpa [Array.getElem?_eq_getElem hi] using q
  obtain ⟨z0, q0⟩ := is_v i0
  obtain rfl : w0 = (.int z0) := Option.some.inj q0
  obtain ⟨z1, q1⟩ := is_v r1
  obtain rfl : w1 = (.int z1) := Option.some.inj q1
  have n5 := not_v (Cond.before_iff.mp (hsets _ (List.mem_of_getElem? (i := 2) rfl)))
  obtain ⟨zC, ezC⟩ := is_v (Cond.before_iff.mp (hsets _ (List.mem_of_getElem? (i := 1) rfl)))
  have SC : Sta s s.heap "java/lang/String" "COMPACT_STRINGS" "Z" (.int zC) := Sta.start ezC (Or.inl (hsets _ (List.mem_of_getElem? (i := 0) rfl)))
  have PC : ¬ (zC = (0 : Int32)) := gotF (Cond.eq_ints ezC (Term.int_eval (0))) n5
  have hCH : CHv s EL s.vm s.heap := CHv.start (own_EW hw) hcalls.1 (hsets _ (List.mem_of_getElem? (i := 2) rfl)) (wd19 hw) (wd1 hw)
  obtain ⟨n, o, h1, h2, h3, _, L, rfl, hq1, -, hq⟩ := rm_law l s _ hw zC SC PC z0 z1  s.heap (Old.start s)  tables_1 p e ha hc hk s m _ below hf ((Spec.applies_iff_loose hf).mp happ).1 ⟨rfl, State.Warmed39.refl s, rfl, hCH, fun _ q => nomatch q⟩ trivial
  obtain ⟨rfl, N, -⟩ := hq1
  exact ⟨n, _, h1, h2, h3, hpost _ _ _ _ _ _ ⟨Cond.after_iff.mpr rfl, Cond.after_iff.mpr (eq_i res_at (Term.int_eval (1)) rfl)⟩ ⟨hq.1, hq.2.1, hq.2.2.1, hq.2.2.2.sift fun y hy => Or.inr (N y hy)⟩⟩
theorem main_1_1 : Claimed_1_1 := comes_1 fun _ _ _ _ _ _ h hF => ⟨h.1, hF⟩
theorem main_1_2 : Claimed_1_2 := comes_1 fun _ _ _ _ _ _ h hF => ⟨h.2, hF⟩
end Jvm.Pilot.@@N@@
namespace Jvm.Pilot.@@N@@
open Jvm Jvm.ClassFile Sem Op Lib Jvm.Free Jvm.Stand Jvm.Pilot.@@N@@.Jvm.D
/-! MADE BY PROGRAM (witnessworld.py) out of the Statement's table words and the real class files: 21 classes; the members and pool entries that the words name. The judged class is class 1, her method 2. -/
namespace start1
open Jvm.ClassFile
def u (s : String) : CpInfo := .utf8 (stringToUtf16 s)
/-- a pool by its gaps: so many unusable entries, then the entry; so many at the end -/
def gap : Nat → List CpInfo → List CpInfo
  | 0, r => r
  | n + 1, r => .unusable :: gap n r
def poolList (es : List (Nat × CpInfo)) (last : Nat) : List CpInfo := es.foldr (fun e r => gap e.1 (e.2 :: r)) (gap last [])
def pool (es : List (Nat × CpInfo)) (last : Nat) : Array CpInfo := ⟨poolList es last⟩
def fileOf (pool : Array CpInfo) (this : Nat) (attrs : Array Attribute := #[]) (ms : Array MethodInfo := #[]) (fl : Nat := 33) (sup : Nat := 0) (ifs : Array Nat := #[]) (fds : Array FieldInfo := #[]) : ClassFile where
  minorVersion := 0
  majorVersion := 65
  constantPool := pool
  accessFlags := fl
  thisClass := this
  superClass := sup
  interfaces := ifs
  fields := fds
  methods := ms
  attributes := attrs
def plain (name : String) (sup : Option ClassId) : Class where
  name := name
  kind := .ordinary
  loader := none
  accessFlags := 33
  super := sup
  interfaces := #[]
  cf := none
  fields := #[]
  methods := #[]
  instanceTypes := #[]
  staticTypes := #[]
  resolved := #[]
  callSites := []
  init := .initialized
  statics := none
  mirror := none

def pool0 : Array CpInfo := pool [(5, u "<init>"), (0, u "()V"), (1, .class_ 10), (1, u "java/lang/Object")] 113

def k0c0 : Code := { maxStack := 0, maxLocals := 1, code := object_method_1_code, exceptionTable := #[], attributes := #[] }
def k0m0 : Method := { name := "<init>", desc := "()V", sig := { parameters := [], returnType := none }, accessFlags := 1, code := some k0c0 }
/-- java/lang/Object -/
def k0 : Class := { plain "java/lang/Object" none with
  accessFlags := 33
  interfaces := #[]
  cf := some (fileOf pool0 8 #[] #[{ accessFlags := 1, nameIndex := 5, descriptorIndex := 6, attributes := #[] }] 33 0 #[] #[])
  fields := #[]
  methods := #[k0m0]
  instanceTypes := #[]
  staticTypes := #[]
  resolved := Array.replicate 124 none
  statics := none }

def pool1 : Array CpInfo := pool [(2, .class_ 4), (1, u "java/lang/Object"), (0, u "<init>"), (0, u "()V"), (0, .class_ 8), (0, u "java/lang/String"), (0, .methodref 10 11), (0, .class_ 12), (0, .nameAndType 13 14), (0, u "com/example/handoff/handoff/internal/PayloadEmptyPinLaw"), (0, u "chars"), (0, u "(II)[C"), (0, .methodref 7 16), (0, .nameAndType 5 17), (0, u "([C)V"), (0, .methodref 19 20), (0, .class_ 21), (0, .nameAndType 22 23), (0, u "com/example/handoff/handoff/internal/Payload"), (0, u "empty"), (0, u "(Ljava/lang/String;)Lcom/example/handoff/handoff/internal/Payload;"), (0, .methodref 19 25), (0, .nameAndType 26 27), (0, u "getContentType"), (0, u "()Ljava/lang/String;"), (0, .methodref 19 29), (0, .nameAndType 30 31), (0, u "getBytes"), (0, u "()[B"), (0, .methodref 7 33), (0, .nameAndType 34 35), (0, u "equals"), (0, u "(Ljava/lang/Object;)Z"), (0, .methodref 7 37), (0, .nameAndType 38 39), (0, u "length"), (0, u "()I"), (3, u "law"), (0, u "(II)Z")] 4

def k1m0 : Method := { name := "<init>", desc := "()V", sig := { parameters := [], returnType := none }, accessFlags := 2, code := none }
def k1c1 : Code := { maxStack := 4, maxLocals := 6, code := method_2_code, exceptionTable := #[], attributes := #[] }
def k1m1 : Method := { name := "chars", desc := "(II)[C", sig := { parameters := [.int, .int], returnType := some (.array .char) }, accessFlags := 10, code := some k1c1 }
def k1c2 : Code := { maxStack := 4, maxLocals := 7, code := code, exceptionTable := #[], attributes := #[] }
def k1m2 : Method := { name := "law", desc := "(II)Z", sig := { parameters := [.int, .int], returnType := some .boolean }, accessFlags := 9, code := some k1c2 }
/-- com/example/handoff/handoff/internal/PayloadEmptyPinLaw -/
def k1 : Class := { plain "com/example/handoff/handoff/internal/PayloadEmptyPinLaw" (some 0) with
  accessFlags := 49
  interfaces := #[]
  cf := some (fileOf pool1 10 #[] #[{ accessFlags := 2, nameIndex := 5, descriptorIndex := 6, attributes := #[] }, { accessFlags := 10, nameIndex := 13, descriptorIndex := 14, attributes := #[] }, { accessFlags := 9, nameIndex := 43, descriptorIndex := 44, attributes := #[] }] 49 2 #[] #[])
  fields := #[]
  methods := #[k1m0, k1m1, k1m2]
  instanceTypes := #[]
  staticTypes := #[]
  resolved := Array.replicate 49 none
  statics := none }

def pool2 : Array CpInfo := pool [(1, .class_ 2), (0, u "java/io/Serializable"), (0, .class_ 4), (0, u "java/lang/Object")] 2

/-- java/io/Serializable -/
def k2 : Class := { plain "java/io/Serializable" (some 0) with
  accessFlags := 1537
  interfaces := #[]
  cf := some (fileOf pool2 1 #[] #[] 1537 3 #[] #[])
  fields := #[]
  methods := #[]
  instanceTypes := #[]
  staticTypes := #[]
  resolved := Array.replicate 7 none
  statics := none }

def pool3 : Array CpInfo := pool [(1, .class_ 2), (0, u "java/lang/Comparable"), (0, .class_ 4), (0, u "java/lang/Object")] 7

/-- java/lang/Comparable -/
def k3 : Class := { plain "java/lang/Comparable" (some 0) with
  accessFlags := 1537
  interfaces := #[]
  cf := some (fileOf pool3 1 #[] #[] 1537 3 #[] #[])
  fields := #[]
  methods := #[]
  instanceTypes := #[]
  staticTypes := #[]
  resolved := Array.replicate 12 none
  statics := none }

def pool4 : Array CpInfo := pool [(2, .class_ 4), (1, u "java/lang/CharSequence"), (42, .class_ 48), (0, u "java/lang/CharSequence$1CodePointIterator"), (10, .class_ 60), (0, u "java/lang/CharSequence$1CharIterator"), (5, .class_ 67), (0, u "java/lang/Object")] 63

/-- java/lang/CharSequence -/
def k4 : Class := { plain "java/lang/CharSequence" (some 0) with
  accessFlags := 1537
  interfaces := #[]
  cf := some (fileOf pool4 2 #[.nestMembers #[47, 59]] #[] 1537 66 #[] #[])
  fields := #[]
  methods := #[]
  instanceTypes := #[]
  staticTypes := #[]
  resolved := Array.replicate 131 none
  statics := none }

def pool5 : Array CpInfo := pool [(1, .class_ 2), (0, u "java/lang/constant/Constable"), (0, .class_ 4), (0, u "java/lang/Object")] 6

/-- java/lang/constant/Constable -/
def k5 : Class := { plain "java/lang/constant/Constable" (some 0) with
  accessFlags := 1537
  interfaces := #[]
  cf := some (fileOf pool5 1 #[] #[] 1537 3 #[] #[])
  fields := #[]
  methods := #[]
  instanceTypes := #[]
  staticTypes := #[]
  resolved := Array.replicate 11 none
  statics := none }

def pool6 : Array CpInfo := pool [(1, .class_ 2), (0, u "java/lang/constant/ConstantDesc"), (0, .class_ 4), (0, u "java/lang/Object")] 32

/-- java/lang/constant/ConstantDesc -/
def k6 : Class := { plain "java/lang/constant/ConstantDesc" (some 0) with
  accessFlags := 1537
  interfaces := #[]
  cf := some (fileOf pool6 1 #[] #[] 1537 3 #[] #[])
  fields := #[]
  methods := #[]
  instanceTypes := #[]
  staticTypes := #[]
  resolved := Array.replicate 37 none
  statics := none }

def pool7 : Array CpInfo := pool [(1, .methodref 2 3), (0, .class_ 4), (0, .nameAndType 5 6), (0, u "java/lang/Object"), (0, u "<init>"), (0, u "()V"), (0, .string 8), (0, u ""), (0, .fieldref 10 11), (0, .class_ 12), (0, .nameAndType 13 14), (0, u "java/lang/String"), (0, u "value"), (0, u "[B"), (0, .fieldref 10 16), (0, .nameAndType 17 18), (0, u "coder"), (0, u "B"), (2, u "hash"), (0, u "I"), (2, u "hashIsZero"), (0, u "Z"), (0, .methodref 10 28), (0, .nameAndType 5 29), (0, u "([CIILjava/lang/Void;)V"), (8, .fieldref 10 39), (0, .nameAndType 40 26), (0, u "COMPACT_STRINGS"), (1, .class_ 44), (1, u "java/lang/StringUTF16"), (0, u "compress"), (1, .methodref 42 48), (0, .nameAndType 49 50), (0, u "coderFromArrayLen"), (0, u "([BI)B"), (126, .methodref 42 178), (0, .nameAndType 45 179), (0, u "([CII)[B"), (154, u "()I"), (0, .methodref 10 336), (0, .nameAndType 17 337), (0, u "()B"), (169, u "length"), (35, u "equals"), (29, u "(Ljava/lang/Object;)Z"), (1, .class_ 576), (0, u "java/lang/CharSequence"), (22, u "CASE_INSENSITIVE_ORDER"), (0, u "Ljava/util/Comparator;"), (409, u "([C)V"), (90, u "serialPersistentFields"), (0, u "[Ljava/io/ObjectStreamField;"), (0, .class_ 1104), (0, u "java/lang/String$CaseInsensitiveComparator"), (1, .class_ 1107), (0, u "java/io/Serializable"), (0, .class_ 1109), (0, u "java/lang/Comparable"), (0, .class_ 1111), (0, u "java/lang/constant/Constable"), (0, .class_ 1113), (0, u "java/lang/constant/ConstantDesc"), (2, u "serialVersionUID"), (0, u "J"), (3, u "REPL"), (0, u "C"), (2, u "LATIN1"), (1, u "UTF16")] 323

def k7m0 : Method := { name := "<init>", desc := "()V", sig := { parameters := [], returnType := none }, accessFlags := 1, code := none }
def k7c1 : Code := { maxStack := 5, maxLocals := 2, code := jdk_42_method_3_code, exceptionTable := #[], attributes := #[] }
def k7m1 : Method := { name := "<init>", desc := "([C)V", sig := { parameters := [(.array .char)], returnType := none }, accessFlags := 1, code := some k7c1 }
def k7c2 : Code := { maxStack := 2, maxLocals := 1, code := jdk_42_method_54_code, exceptionTable := #[], attributes := #[] }
def k7m2 : Method := { name := "length", desc := "()I", sig := { parameters := [], returnType := some .int }, accessFlags := 1, code := some k7c2 }
def k7c3 : Code := { maxStack := 2, maxLocals := 3, code := jdk_42_method_66_code, exceptionTable := #[], attributes := #[] }
def k7m3 : Method := { name := "equals", desc := "(Ljava/lang/Object;)Z", sig := { parameters := [(.object "java/lang/Object")], returnType := some .boolean }, accessFlags := 1, code := some k7c3 }
def k7c4 : Code := { maxStack := 4, maxLocals := 6, code := jdk_42_method_149_code, exceptionTable := #[], attributes := #[] }
def k7m4 : Method := { name := "<init>", desc := "([CIILjava/lang/Void;)V", sig := { parameters := [(.array .char), .int, .int, (.object "java/lang/Void")], returnType := none }, accessFlags := 2, code := some k7c4 }
def k7c5 : Code := { maxStack := 1, maxLocals := 1, code := jdk_42_method_152_code, exceptionTable := #[], attributes := #[] }
def k7m5 : Method := { name := "coder", desc := "()B", sig := { parameters := [], returnType := some .byte }, accessFlags := 0, code := some k7c5 }
/-- java/lang/String -/
def k7 : Class := { plain "java/lang/String" (some 0) with
  accessFlags := 49
  interfaces := #[2, 3, 4, 5, 6]
  cf := some (fileOf pool7 10 #[.nestMembers #[1103]] #[{ accessFlags := 1, nameIndex := 5, descriptorIndex := 6, attributes := #[] }, { accessFlags := 1, nameIndex := 5, descriptorIndex := 1010, attributes := #[] }, { accessFlags := 1, nameIndex := 507, descriptorIndex := 334, attributes := #[] }, { accessFlags := 1, nameIndex := 543, descriptorIndex := 573, attributes := #[] }, { accessFlags := 2, nameIndex := 5, descriptorIndex := 29, attributes := #[] }, { accessFlags := 0, nameIndex := 17, descriptorIndex := 337, attributes := #[] }] 49 2 #[1106, 1108, 575, 1110, 1112] #[{ accessFlags := 18, nameIndex := 13, descriptorIndex := 14, attributes := #[] }, { accessFlags := 18, nameIndex := 17, descriptorIndex := 18, attributes := #[] }, { accessFlags := 2, nameIndex := 21, descriptorIndex := 22, attributes := #[] }, { accessFlags := 2, nameIndex := 25, descriptorIndex := 26, attributes := #[] }, { accessFlags := 26, nameIndex := 1116, descriptorIndex := 1117, attributes := #[] }, { accessFlags := 24, nameIndex := 40, descriptorIndex := 26, attributes := #[] }, { accessFlags := 26, nameIndex := 1101, descriptorIndex := 1102, attributes := #[] }, { accessFlags := 26, nameIndex := 1121, descriptorIndex := 1122, attributes := #[] }, { accessFlags := 25, nameIndex := 599, descriptorIndex := 600, attributes := #[] }, { accessFlags := 24, nameIndex := 1125, descriptorIndex := 18, attributes := #[] }, { accessFlags := 24, nameIndex := 1127, descriptorIndex := 18, attributes := #[] }])
  fields := #[{ name := "value", type := (.array .byte), accessFlags := 18, slot := 0, constantValue := 0 }, { name := "coder", type := .byte, accessFlags := 18, slot := 1, constantValue := 0 }, { name := "hash", type := .int, accessFlags := 2, slot := 2, constantValue := 0 }, { name := "hashIsZero", type := .boolean, accessFlags := 2, slot := 3, constantValue := 0 }, { name := "serialVersionUID", type := .long, accessFlags := 26, slot := 0, constantValue := 0 }, { name := "COMPACT_STRINGS", type := .boolean, accessFlags := 24, slot := 1, constantValue := 0 }, { name := "serialPersistentFields", type := (.array (.object "java/io/ObjectStreamField")), accessFlags := 26, slot := 2, constantValue := 0 }, { name := "REPL", type := .char, accessFlags := 26, slot := 3, constantValue := 0 }, { name := "CASE_INSENSITIVE_ORDER", type := (.object "java/util/Comparator"), accessFlags := 25, slot := 4, constantValue := 0 }, { name := "LATIN1", type := .byte, accessFlags := 24, slot := 5, constantValue := 0 }, { name := "UTF16", type := .byte, accessFlags := 24, slot := 6, constantValue := 0 }]
  methods := #[k7m0, k7m1, k7m2, k7m3, k7m4, k7m5]
  instanceTypes := #[(.array .byte), .byte, .int, .boolean]
  staticTypes := #[.long, .boolean, (.array (.object "java/io/ObjectStreamField")), .char, (.object "java/util/Comparator"), .byte, .byte]
  resolved := Array.replicate 1451 none
  statics := some 0 }

def pool8 : Array CpInfo := pool [(1, .methodref 2 3), (0, .class_ 4), (0, .nameAndType 5 6), (0, u "java/lang/Object"), (0, u "<init>"), (0, u "()V"), (0, .fieldref 8 9), (0, .class_ 10), (0, .nameAndType 11 12), (0, u "com/example/handoff/handoff/internal/Payload"), (0, u "contentType"), (0, u "Ljava/lang/String;"), (0, .fieldref 8 14), (0, .nameAndType 15 16), (0, u "bytes"), (0, u "[B"), (9, .class_ 28), (1, u "java/lang/String"), (0, u "getBytes"), (1, .methodref 8 32), (0, .nameAndType 5 33), (0, u "(Ljava/lang/String;[B)V"), (0, .string 11), (0, .methodref 36 37), (0, .class_ 38), (0, .nameAndType 39 40), (0, u "java/util/Objects"), (0, u "requireNonNull"), (0, u "(Ljava/lang/Object;Ljava/lang/String;)Ljava/lang/Object;"), (0, u "TEXT"), (1, u "BYTES"), (2, u "JSON"), (5, u "(Ljava/lang/String;)Lcom/example/handoff/handoff/internal/Payload;"), (0, u "empty"), (0, u "getContentType"), (0, u "()Ljava/lang/String;"), (0, u "()[B")] 2

def k8c0 : Code := { maxStack := 2, maxLocals := 3, code := prog_19_method_1_code, exceptionTable := #[], attributes := #[] }
def k8m0 : Method := { name := "<init>", desc := "(Ljava/lang/String;[B)V", sig := { parameters := [(.object "java/lang/String"), (.array .byte)], returnType := none }, accessFlags := 0, code := some k8c0 }
def k8c1 : Code := { maxStack := 4, maxLocals := 1, code := prog_19_method_3_code, exceptionTable := #[], attributes := #[] }
def k8m1 : Method := { name := "empty", desc := "(Ljava/lang/String;)Lcom/example/handoff/handoff/internal/Payload;", sig := { parameters := [(.object "java/lang/String")], returnType := some (.object "com/example/handoff/handoff/internal/Payload") }, accessFlags := 9, code := some k8c1 }
def k8c2 : Code := { maxStack := 1, maxLocals := 1, code := prog_19_method_4_code, exceptionTable := #[], attributes := #[] }
def k8m2 : Method := { name := "getContentType", desc := "()Ljava/lang/String;", sig := { parameters := [], returnType := some (.object "java/lang/String") }, accessFlags := 1, code := some k8c2 }
def k8c3 : Code := { maxStack := 1, maxLocals := 1, code := prog_19_method_5_code, exceptionTable := #[], attributes := #[] }
def k8m3 : Method := { name := "getBytes", desc := "()[B", sig := { parameters := [], returnType := some (.array .byte) }, accessFlags := 1, code := some k8c3 }
/-- com/example/handoff/handoff/internal/Payload -/
def k8 : Class := { plain "com/example/handoff/handoff/internal/Payload" (some 0) with
  accessFlags := 33
  interfaces := #[]
  cf := some (fileOf pool8 8 #[] #[{ accessFlags := 0, nameIndex := 5, descriptorIndex := 33, attributes := #[] }, { accessFlags := 9, nameIndex := 53, descriptorIndex := 52, attributes := #[] }, { accessFlags := 1, nameIndex := 54, descriptorIndex := 55, attributes := #[] }, { accessFlags := 1, nameIndex := 29, descriptorIndex := 56, attributes := #[] }] 33 2 #[] #[{ accessFlags := 25, nameIndex := 41, descriptorIndex := 12, attributes := #[] }, { accessFlags := 25, nameIndex := 43, descriptorIndex := 12, attributes := #[] }, { accessFlags := 25, nameIndex := 46, descriptorIndex := 12, attributes := #[] }, { accessFlags := 18, nameIndex := 11, descriptorIndex := 12, attributes := #[] }, { accessFlags := 18, nameIndex := 15, descriptorIndex := 16, attributes := #[] }])
  fields := #[{ name := "TEXT", type := (.object "java/lang/String"), accessFlags := 25, slot := 0, constantValue := 0 }, { name := "BYTES", type := (.object "java/lang/String"), accessFlags := 25, slot := 1, constantValue := 0 }, { name := "JSON", type := (.object "java/lang/String"), accessFlags := 25, slot := 2, constantValue := 0 }, { name := "contentType", type := (.object "java/lang/String"), accessFlags := 18, slot := 0, constantValue := 0 }, { name := "bytes", type := (.array .byte), accessFlags := 18, slot := 1, constantValue := 0 }]
  methods := #[k8m0, k8m1, k8m2, k8m3]
  instanceTypes := #[(.object "java/lang/String"), (.array .byte)]
  staticTypes := #[(.object "java/lang/String"), (.object "java/lang/String"), (.object "java/lang/String")]
  resolved := Array.replicate 59 none
  statics := none }

def pool9 : Array CpInfo := pool [(2, .class_ 4), (1, u "java/lang/Object"), (0, u "<init>"), (0, u "()V"), (35, .class_ 44), (1, u "java/util/Objects"), (0, u "requireNonNull"), (48, u "(Ljava/lang/Object;Ljava/lang/String;)Ljava/lang/Object;")] 89

def k9m0 : Method := { name := "<init>", desc := "()V", sig := { parameters := [], returnType := none }, accessFlags := 2, code := none }
def k9c1 : Code := { maxStack := 3, maxLocals := 2, code := jdk_31_method_11_code, exceptionTable := #[], attributes := #[] }
def k9m1 : Method := { name := "requireNonNull", desc := "(Ljava/lang/Object;Ljava/lang/String;)Ljava/lang/Object;", sig := { parameters := [(.object "java/lang/Object"), (.object "java/lang/String")], returnType := some (.object "java/lang/Object") }, accessFlags := 9, code := some k9c1 }
/-- java/util/Objects -/
def k9 : Class := { plain "java/util/Objects" (some 0) with
  accessFlags := 49
  interfaces := #[]
  cf := some (fileOf pool9 42 #[] #[{ accessFlags := 2, nameIndex := 5, descriptorIndex := 6, attributes := #[] }, { accessFlags := 9, nameIndex := 45, descriptorIndex := 94, attributes := #[] }] 49 2 #[] #[])
  fields := #[]
  methods := #[k9m0, k9m1]
  instanceTypes := #[]
  staticTypes := #[]
  resolved := Array.replicate 184 none
  statics := none }

def pool10 : Array CpInfo := pool [(6, .class_ 8), (1, u "java/lang/Object"), (0, u "<init>"), (0, u "()V"), (1, .class_ 14), (1, u "java/lang/StringUTF16"), (31, u "$assertionsDisabled"), (0, u "Z"), (13, u "HI_BYTE_SHIFT"), (0, u "I"), (2, u "LO_BYTE_SHIFT"), (49, .methodref 12 116), (0, .nameAndType 117 118), (0, u "compress"), (0, u "([CI[BII)I"), (3, u "([CII)[B"), (138, u "coderFromArrayLen"), (0, u "([BI)B"), (106, .class_ 371), (1, u "java/lang/StringUTF16$LinesSpliterator"), (58, u "MAX_LENGTH"), (196, .class_ 628), (0, u "java/lang/StringUTF16$CodePointsSpliterator"), (0, .class_ 630), (0, u "java/lang/StringUTF16$CharsSpliterator")] 4

def k10m0 : Method := { name := "<init>", desc := "()V", sig := { parameters := [], returnType := none }, accessFlags := 0, code := none }
def k10c1 : Code := { maxStack := 2, maxLocals := 2, code := jdk_52_method_15_code, exceptionTable := #[], attributes := #[] }
def k10m1 : Method := { name := "coderFromArrayLen", desc := "([BI)B", sig := { parameters := [(.array .byte), .int], returnType := some .byte }, accessFlags := 8, code := some k10c1 }
def k10c2 : Code := { maxStack := 5, maxLocals := 6, code := jdk_52_method_16_code, exceptionTable := #[], attributes := #[] }
def k10m2 : Method := { name := "compress", desc := "([CII)[B", sig := { parameters := [(.array .char), .int, .int], returnType := some (.array .byte) }, accessFlags := 9, code := some k10c2 }
def k10c3 : Code := { maxStack := 3, maxLocals := 7, code := jdk_52_method_21_code, exceptionTable := #[], attributes := #[] }
def k10m3 : Method := { name := "compress", desc := "([CI[BII)I", sig := { parameters := [(.array .char), .int, (.array .byte), .int, .int], returnType := some .int }, accessFlags := 9, code := some k10c3 }
/-- java/lang/StringUTF16 -/
def k10 : Class := { plain "java/lang/StringUTF16" (some 0) with
  accessFlags := 48
  interfaces := #[]
  cf := some (fileOf pool10 12 #[.nestMembers #[627, 629, 369]] #[{ accessFlags := 0, nameIndex := 9, descriptorIndex := 10, attributes := #[] }, { accessFlags := 8, nameIndex := 261, descriptorIndex := 262, attributes := #[] }, { accessFlags := 9, nameIndex := 117, descriptorIndex := 122, attributes := #[] }, { accessFlags := 9, nameIndex := 117, descriptorIndex := 118, attributes := #[] }] 48 6 #[] #[{ accessFlags := 26, nameIndex := 61, descriptorIndex := 62, attributes := #[] }, { accessFlags := 26, nameIndex := 65, descriptorIndex := 62, attributes := #[] }, { accessFlags := 24, nameIndex := 430, descriptorIndex := 62, attributes := #[] }, { accessFlags := 4120, nameIndex := 46, descriptorIndex := 47, attributes := #[] }])
  fields := #[{ name := "HI_BYTE_SHIFT", type := .int, accessFlags := 26, slot := 0, constantValue := 0 }, { name := "LO_BYTE_SHIFT", type := .int, accessFlags := 26, slot := 1, constantValue := 0 }, { name := "MAX_LENGTH", type := .int, accessFlags := 24, slot := 2, constantValue := 0 }, { name := "$assertionsDisabled", type := .boolean, accessFlags := 4120, slot := 3, constantValue := 0 }]
  methods := #[k10m0, k10m1, k10m2, k10m3]
  instanceTypes := #[]
  staticTypes := #[.int, .int, .int, .boolean]
  resolved := Array.replicate 635 none
  statics := none }

def pool11 : Array CpInfo := pool [(4, .class_ 6), (1, u "java/lang/Object"), (0, u "<init>"), (0, u "()V"), (5, .class_ 16), (1, u "java/lang/StringLatin1"), (104, u "$assertionsDisabled"), (0, u "Z"), (98, .class_ 223), (1, u "java/lang/StringLatin1$LinesSpliterator"), (166, .class_ 391), (0, u "java/lang/StringLatin1$CharsSpliterator")] 3

def k11m0 : Method := { name := "<init>", desc := "()V", sig := { parameters := [], returnType := none }, accessFlags := 0, code := none }
/-- java/lang/StringLatin1 -/
def k11 : Class := { plain "java/lang/StringLatin1" (some 0) with
  accessFlags := 48
  interfaces := #[]
  cf := some (fileOf pool11 14 #[.nestMembers #[390, 221]] #[{ accessFlags := 0, nameIndex := 7, descriptorIndex := 8, attributes := #[] }] 48 4 #[] #[{ accessFlags := 4120, nameIndex := 121, descriptorIndex := 122, attributes := #[] }])
  fields := #[{ name := "$assertionsDisabled", type := .boolean, accessFlags := 4120, slot := 0, constantValue := 0 }]
  methods := #[k11m0]
  instanceTypes := #[]
  staticTypes := #[.boolean]
  resolved := Array.replicate 395 none
  statics := none }

def pool12 : Array CpInfo := pool [(2, .class_ 4), (1, u "java/lang/Object"), (0, u "<init>"), (0, u "()V"), (17, .class_ 26), (1, u "jdk/internal/util/Preconditions"), (28, .class_ 56), (0, u "jdk/internal/util/Preconditions$4"), (57, .class_ 115), (0, u "jdk/internal/util/Preconditions$1"), (7, u "SIOOBE_FORMATTER"), (0, u "Ljava/util/function/BiFunction;"), (0, .class_ 126), (0, u "jdk/internal/util/Preconditions$2"), (3, u "AIOOBE_FORMATTER"), (0, .class_ 132), (0, u "jdk/internal/util/Preconditions$3"), (3, u "IOOBE_FORMATTER")] 57

def k12m0 : Method := { name := "<init>", desc := "()V", sig := { parameters := [], returnType := none }, accessFlags := 1, code := none }
/-- jdk/internal/util/Preconditions -/
def k12 : Class := { plain "jdk/internal/util/Preconditions" (some 0) with
  accessFlags := 33
  interfaces := #[]
  cf := some (fileOf pool12 24 #[.nestMembers #[55, 131, 125, 114]] #[{ accessFlags := 1, nameIndex := 5, descriptorIndex := 6, attributes := #[] }] 33 2 #[] #[{ accessFlags := 25, nameIndex := 123, descriptorIndex := 124, attributes := #[] }, { accessFlags := 25, nameIndex := 130, descriptorIndex := 124, attributes := #[] }, { accessFlags := 25, nameIndex := 136, descriptorIndex := 124, attributes := #[] }])
  fields := #[{ name := "SIOOBE_FORMATTER", type := (.object "java/util/function/BiFunction"), accessFlags := 25, slot := 0, constantValue := 0 }, { name := "AIOOBE_FORMATTER", type := (.object "java/util/function/BiFunction"), accessFlags := 25, slot := 1, constantValue := 0 }, { name := "IOOBE_FORMATTER", type := (.object "java/util/function/BiFunction"), accessFlags := 25, slot := 2, constantValue := 0 }]
  methods := #[k12m0]
  instanceTypes := #[]
  staticTypes := #[(.object "java/util/function/BiFunction"), (.object "java/util/function/BiFunction"), (.object "java/util/function/BiFunction")]
  resolved := Array.replicate 194 none
  statics := some 1 }

def pool13 : Array CpInfo := pool [(9, u "<init>"), (6, .class_ 18), (1, u "java/lang/Object"), (0, u "()V"), (1, .class_ 23), (1, u "jdk/internal/util/ArraysSupport"), (0, u "LOG2_ARRAY_LONG_INDEX_SCALE"), (0, u "I"), (2, u "U"), (0, u "Ljdk/internal/misc/Unsafe;"), (8, u "BIG_ENDIAN"), (0, u "Z"), (8, u "LOG2_BYTE_BIT_SIZE"), (4, u "LOG2_ARRAY_INT_INDEX_SCALE"), (54, u "JLA"), (0, u "Ljdk/internal/access/JavaLangAccess;"), (11, u "LOG2_ARRAY_BOOLEAN_INDEX_SCALE"), (9, u "LOG2_ARRAY_BYTE_INDEX_SCALE"), (5, u "LOG2_ARRAY_CHAR_INDEX_SCALE"), (5, u "LOG2_ARRAY_SHORT_INDEX_SCALE"), (18, u "LOG2_ARRAY_FLOAT_INDEX_SCALE"), (24, u "LOG2_ARRAY_DOUBLE_INDEX_SCALE"), (89, u "T_BOOLEAN"), (2, u "T_CHAR"), (1, u "T_FLOAT"), (1, u "T_DOUBLE"), (1, u "T_BYTE"), (1, u "T_SHORT"), (1, u "T_INT"), (1, u "T_LONG"), (1, u "SOFT_MAX_ARRAY_LENGTH")] 83

def k13m0 : Method := { name := "<init>", desc := "()V", sig := { parameters := [], returnType := none }, accessFlags := 2, code := none }
/-- jdk/internal/util/ArraysSupport -/
def k13 : Class := { plain "jdk/internal/util/ArraysSupport" (some 0) with
  accessFlags := 33
  interfaces := #[]
  cf := some (fileOf pool13 21 #[] #[{ accessFlags := 2, nameIndex := 9, descriptorIndex := 19, attributes := #[] }] 33 16 #[] #[{ accessFlags := 24, nameIndex := 28, descriptorIndex := 29, attributes := #[] }, { accessFlags := 26, nameIndex := 38, descriptorIndex := 39, attributes := #[] }, { accessFlags := 25, nameIndex := 121, descriptorIndex := 25, attributes := #[] }, { accessFlags := 25, nameIndex := 131, descriptorIndex := 25, attributes := #[] }, { accessFlags := 25, nameIndex := 137, descriptorIndex := 25, attributes := #[] }, { accessFlags := 25, nameIndex := 143, descriptorIndex := 25, attributes := #[] }, { accessFlags := 25, nameIndex := 53, descriptorIndex := 25, attributes := #[] }, { accessFlags := 25, nameIndex := 24, descriptorIndex := 25, attributes := #[] }, { accessFlags := 25, nameIndex := 162, descriptorIndex := 25, attributes := #[] }, { accessFlags := 25, nameIndex := 187, descriptorIndex := 25, attributes := #[] }, { accessFlags := 26, nameIndex := 48, descriptorIndex := 25, attributes := #[] }, { accessFlags := 25, nameIndex := 277, descriptorIndex := 25, attributes := #[] }, { accessFlags := 25, nameIndex := 280, descriptorIndex := 25, attributes := #[] }, { accessFlags := 25, nameIndex := 282, descriptorIndex := 25, attributes := #[] }, { accessFlags := 25, nameIndex := 284, descriptorIndex := 25, attributes := #[] }, { accessFlags := 25, nameIndex := 286, descriptorIndex := 25, attributes := #[] }, { accessFlags := 25, nameIndex := 288, descriptorIndex := 25, attributes := #[] }, { accessFlags := 25, nameIndex := 290, descriptorIndex := 25, attributes := #[] }, { accessFlags := 25, nameIndex := 292, descriptorIndex := 25, attributes := #[] }, { accessFlags := 26, nameIndex := 108, descriptorIndex := 109, attributes := #[] }, { accessFlags := 25, nameIndex := 294, descriptorIndex := 25, attributes := #[] }])
  fields := #[{ name := "U", type := (.object "jdk/internal/misc/Unsafe"), accessFlags := 24, slot := 0, constantValue := 0 }, { name := "BIG_ENDIAN", type := .boolean, accessFlags := 26, slot := 1, constantValue := 0 }, { name := "LOG2_ARRAY_BOOLEAN_INDEX_SCALE", type := .int, accessFlags := 25, slot := 2, constantValue := 0 }, { name := "LOG2_ARRAY_BYTE_INDEX_SCALE", type := .int, accessFlags := 25, slot := 3, constantValue := 0 }, { name := "LOG2_ARRAY_CHAR_INDEX_SCALE", type := .int, accessFlags := 25, slot := 4, constantValue := 0 }, { name := "LOG2_ARRAY_SHORT_INDEX_SCALE", type := .int, accessFlags := 25, slot := 5, constantValue := 0 }, { name := "LOG2_ARRAY_INT_INDEX_SCALE", type := .int, accessFlags := 25, slot := 6, constantValue := 0 }, { name := "LOG2_ARRAY_LONG_INDEX_SCALE", type := .int, accessFlags := 25, slot := 7, constantValue := 0 }, { name := "LOG2_ARRAY_FLOAT_INDEX_SCALE", type := .int, accessFlags := 25, slot := 8, constantValue := 0 }, { name := "LOG2_ARRAY_DOUBLE_INDEX_SCALE", type := .int, accessFlags := 25, slot := 9, constantValue := 0 }, { name := "LOG2_BYTE_BIT_SIZE", type := .int, accessFlags := 26, slot := 10, constantValue := 0 }, { name := "T_BOOLEAN", type := .int, accessFlags := 25, slot := 11, constantValue := 0 }, { name := "T_CHAR", type := .int, accessFlags := 25, slot := 12, constantValue := 0 }, { name := "T_FLOAT", type := .int, accessFlags := 25, slot := 13, constantValue := 0 }, { name := "T_DOUBLE", type := .int, accessFlags := 25, slot := 14, constantValue := 0 }, { name := "T_BYTE", type := .int, accessFlags := 25, slot := 15, constantValue := 0 }, { name := "T_SHORT", type := .int, accessFlags := 25, slot := 16, constantValue := 0 }, { name := "T_INT", type := .int, accessFlags := 25, slot := 17, constantValue := 0 }, { name := "T_LONG", type := .int, accessFlags := 25, slot := 18, constantValue := 0 }, { name := "JLA", type := (.object "jdk/internal/access/JavaLangAccess"), accessFlags := 26, slot := 19, constantValue := 0 }, { name := "SOFT_MAX_ARRAY_LENGTH", type := .int, accessFlags := 25, slot := 20, constantValue := 0 }]
  methods := #[k13m0]
  instanceTypes := #[]
  staticTypes := #[(.object "jdk/internal/misc/Unsafe"), .boolean, .int, .int, .int, .int, .int, .int, .int, .int, .int, .int, .int, .int, .int, .int, .int, .int, .int, (.object "jdk/internal/access/JavaLangAccess"), .int]
  resolved := Array.replicate 378 none
  statics := none }

def pool14 : Array CpInfo := pool [(1, u "java/lang/Cloneable"), (0, .class_ 1), (0, u "java/lang/Object"), (0, .class_ 3)] 3

/-- java/lang/Cloneable -/
def k14 : Class := { plain "java/lang/Cloneable" (some 0) with
  accessFlags := 1537
  interfaces := #[]
  cf := some (fileOf pool14 2 #[] #[] 1537 4 #[] #[])
  fields := #[]
  methods := #[]
  instanceTypes := #[]
  staticTypes := #[]
  resolved := Array.replicate 8 none
  statics := none }

/-- the primitive byte -/
def k15 : Class := { plain "byte" none with kind := .primitive 'B', accessFlags := 0x411 }
/-- [B -/
def k16 : Class := { plain "[B" (some 0) with kind := .array 15 .byte, interfaces := #[14, 2], accessFlags := 1041 }

/-- the primitive char -/
def k17 : Class := { plain "char" none with kind := .primitive 'C', accessFlags := 0x411 }
/-- [C -/
def k18 : Class := { plain "[C" (some 0) with kind := .array 17 .char, interfaces := #[14, 2], accessFlags := 1041 }

/-- the primitive int -/
def k19 : Class := { plain "int" none with kind := .primitive 'I', accessFlags := 0x411 }
/-- [I -/
def k20 : Class := { plain "[I" (some 0) with kind := .array 19 .int, interfaces := #[14, 2], accessFlags := 1041 }

def heap : Heap := #[{ cls := 7, slots := #[.long 0, .int 1, .null, .int 0, .null, .int 0, .int 0], vm := .statics 7 },
  { cls := 12, slots := #[.null, .null, .null], vm := .statics 12 }]
def classes : Array Class := #[k0, k1, k2, k3, k4, k5, k6, k7, k8, k9, k10, k11, k12, k13, k14, k15, k16, k17, k18, k19, k20]
def interned : List (Array UInt16 × Addr) := []
def slotsUsed : Nat := 10
def theMethod : MethodId := ⟨1, 2⟩
def args0 : Array Value := #[.int 3, .int 5]
def aboutOver (below : List Frame) : State where
  vm := { classes := classes, interned := interned.toArray }
  heap := heap
  slotsUsed := slotsUsed
  threads := #[{ frames := .invoking theMethod args0 :: below }]
def below0 : List Frame := [.native { method := ⟨0, 0⟩, args := #[] }]
def about1 : State := aboutOver below0
def p0 : Program := .bare "" "" ""
def e0 : Env := launch0.env 0 0 0
theorem w_frames : about1.frames = Frame.invoking theMethod args0 :: below0 := rfl
set_option maxRecDepth 65536 in
theorem w_args : argsFit about1.vm theMethod args0 = true := by decide +kernel
set_option maxRecDepth 65536 in
theorem w_heap : heapFits about1 = true := by decide +kernel
set_option maxRecDepth 65536 in
theorem w_runnable : about1.curStatus? = some .runnable := by decide +kernel
set_option maxRecDepth 65536 in
theorem w_alone : about1.alone = true := by decide +kernel
set_option maxRecDepth 65536 in
theorem w_named : about1.methodNamed? x = some theMethod := by decide +kernel
set_option maxRecDepth 65536 in
theorem w_hears : about1.hears theMethod below0 = true := by decide +kernel
set_option maxRecDepth 65536 in
theorem w_ripe : about1.ripe theMethod args0 below0 = true := by decide +kernel
theorem w_running : about1.status = .running := rfl
set_option maxRecDepth 65536 in
theorem w_room : about1.hasRoom e0.platform room_1 = true :=
  launch0.hasRoom_least _ room_1 (by decide +kernel) (by decide +kernel) (by decide +kernel) (by decide +kernel) (by decide +kernel) (by decide +kernel)
theorem allAtoms_all (ts : List Jvm.Cond) (a : Array Jvm.Value) (st : Jvm.State) : (allAtoms ts).before a st = ts.all (fun c => c.before a st) := by
  induction ts with
  | nil => rfl
  | cons c t ih =>
    show (Jvm.Cond.and c (allAtoms t)).before a st = _
    rw [Jvm.Cond.before_and, ih, List.all_cons]
def words1 : List Jvm.Cond := Jvm.Cond.code x code maxLocals ret :: tables_1
/-- a 'code' word, met by the world's own term for the bytes: nothing is compared byte by byte -/
theorem code_word {y : MethodName} {bytes : ByteArray} {mx : Nat} {rt : Option FieldType} {a : Array Value} {s : State} {m : MethodId} {meth : Method} {c : Code} (h1 : s.methodNamed? y = some m) (h2 : s.vm.method? m = some meth) (h3 : meth.code = some c) (h4 : c.code = bytes)
    (h5 : (c.maxLocals == mx && c.exceptionTable.isEmpty && decide (c.maxStack ≤ mostOperands) && decide (meth.sig.returnType = rt) && !meth.locks && decide (parseMethodDescriptor y.desc = some meth.sig)) = true) : (Jvm.Cond.code y bytes mx rt).before a s = true := by
  simp only [Bool.and_eq_true, beq_iff_eq, Bool.not_eq_true', decide_eq_true_eq] at h5
  obtain ⟨⟨⟨⟨⟨g1, g2⟩, g3⟩, g4⟩, g5⟩, g6⟩ := h5
  simp [Cond.before, Cond.holds, Cond.value, h1, h2, h3, h4, g1, g2, g3, g4, g5, g6]
def isCode : Jvm.Cond → Bool
  | .code _ _ _ _ => true
  | _ => false
theorem all_split {L : List Jvm.Cond} {P : Jvm.Cond → Bool} (h1 : L.all (fun c => isCode c || P c) = true) (h2 : ∀ c ∈ L.filter isCode, P c = true) : L.all P = true := by
  refine List.all_eq_true.mpr fun c hc => ?_
  have h := List.all_eq_true.mp h1 c hc
  rcases Bool.eq_false_or_eq_true (isCode c) with hi | hi
  · exact h2 c (List.mem_filter.mpr ⟨hc, hi⟩)
  · simpa [hi] using h
set_option maxRecDepth 65536 in
theorem w_c0 : (Jvm.Cond.code x code maxLocals ret).before args0 about1 = true := code_word (m := ⟨1, 2⟩) (meth := k1m2) (c := k1c2) (by decide +kernel) rfl rfl rfl (by decide +kernel)
set_option maxRecDepth 65536 in
theorem w_c1 : (Jvm.Cond.code ({ cls := "com/example/handoff/handoff/internal/PayloadEmptyPinLaw", name := "chars", desc := "(II)[C" } : Jvm.MethodName) method_2_code (6 : Nat) (Option.some (Jvm.ClassFile.FieldType.array Jvm.ClassFile.FieldType.char))).before args0 about1 = true := code_word (m := ⟨1, 1⟩) (meth := k1m1) (c := k1c1) (by decide +kernel) rfl rfl rfl (by decide +kernel)
set_option maxRecDepth 65536 in
theorem w_c2 : (Jvm.Cond.code ({ cls := "java/lang/String", name := "<init>", desc := "([C)V" } : Jvm.MethodName) jdk_42_method_3_code (2 : Nat) (Option.none : Option Jvm.ClassFile.FieldType)).before args0 about1 = true := code_word (m := ⟨7, 1⟩) (meth := k7m1) (c := k7c1) (by decide +kernel) rfl rfl rfl (by decide +kernel)
set_option maxRecDepth 65536 in
theorem w_c3 : (Jvm.Cond.code ({ cls := "java/lang/String", name := "<init>", desc := "([CIILjava/lang/Void;)V" } : Jvm.MethodName) jdk_42_method_149_code (6 : Nat) (Option.none : Option Jvm.ClassFile.FieldType)).before args0 about1 = true := code_word (m := ⟨7, 4⟩) (meth := k7m4) (c := k7c4) (by decide +kernel) rfl rfl rfl (by decide +kernel)
set_option maxRecDepth 65536 in
theorem w_c4 : (Jvm.Cond.code ({ cls := "java/lang/Object", name := "<init>", desc := "()V" } : Jvm.MethodName) object_method_1_code (1 : Nat) (Option.none : Option Jvm.ClassFile.FieldType)).before args0 about1 = true := code_word (m := ⟨0, 0⟩) (meth := k0m0) (c := k0c0) (by decide +kernel) rfl rfl rfl (by decide +kernel)
set_option maxRecDepth 65536 in
theorem w_c5 : (Jvm.Cond.code ({ cls := "com/example/handoff/handoff/internal/Payload", name := "empty", desc := "(Ljava/lang/String;)Lcom/example/handoff/handoff/internal/Payload;" } : Jvm.MethodName) prog_19_method_3_code (1 : Nat) (Option.some (Jvm.ClassFile.FieldType.object "com/example/handoff/handoff/internal/Payload"))).before args0 about1 = true := code_word (m := ⟨8, 1⟩) (meth := k8m1) (c := k8c1) (by decide +kernel) rfl rfl rfl (by decide +kernel)
set_option maxRecDepth 65536 in
theorem w_c6 : (Jvm.Cond.code ({ cls := "java/util/Objects", name := "requireNonNull", desc := "(Ljava/lang/Object;Ljava/lang/String;)Ljava/lang/Object;" } : Jvm.MethodName) jdk_31_method_11_code (2 : Nat) (Option.some (Jvm.ClassFile.FieldType.object "java/lang/Object"))).before args0 about1 = true := code_word (m := ⟨9, 1⟩) (meth := k9m1) (c := k9c1) (by decide +kernel) rfl rfl rfl (by decide +kernel)
set_option maxRecDepth 65536 in
theorem w_c7 : (Jvm.Cond.code ({ cls := "com/example/handoff/handoff/internal/Payload", name := "<init>", desc := "(Ljava/lang/String;[B)V" } : Jvm.MethodName) prog_19_method_1_code (3 : Nat) (Option.none : Option Jvm.ClassFile.FieldType)).before args0 about1 = true := code_word (m := ⟨8, 0⟩) (meth := k8m0) (c := k8c0) (by decide +kernel) rfl rfl rfl (by decide +kernel)
set_option maxRecDepth 65536 in
theorem w_c8 : (Jvm.Cond.code ({ cls := "com/example/handoff/handoff/internal/Payload", name := "getContentType", desc := "()Ljava/lang/String;" } : Jvm.MethodName) prog_19_method_4_code (1 : Nat) (Option.some (Jvm.ClassFile.FieldType.object "java/lang/String"))).before args0 about1 = true := code_word (m := ⟨8, 2⟩) (meth := k8m2) (c := k8c2) (by decide +kernel) rfl rfl rfl (by decide +kernel)
set_option maxRecDepth 65536 in
theorem w_c9 : (Jvm.Cond.code ({ cls := "com/example/handoff/handoff/internal/Payload", name := "getBytes", desc := "()[B" } : Jvm.MethodName) prog_19_method_5_code (1 : Nat) (Option.some (Jvm.ClassFile.FieldType.array Jvm.ClassFile.FieldType.byte))).before args0 about1 = true := code_word (m := ⟨8, 3⟩) (meth := k8m3) (c := k8c3) (by decide +kernel) rfl rfl rfl (by decide +kernel)
set_option maxRecDepth 65536 in
theorem w_c10 : (Jvm.Cond.code ({ cls := "java/lang/String", name := "equals", desc := "(Ljava/lang/Object;)Z" } : Jvm.MethodName) jdk_42_method_66_code (3 : Nat) (Option.some Jvm.ClassFile.FieldType.boolean)).before args0 about1 = true := code_word (m := ⟨7, 3⟩) (meth := k7m3) (c := k7c3) (by decide +kernel) rfl rfl rfl (by decide +kernel)
set_option maxRecDepth 65536 in
theorem w_c11 : (Jvm.Cond.code ({ cls := "java/lang/String", name := "length", desc := "()I" } : Jvm.MethodName) jdk_42_method_54_code (1 : Nat) (Option.some Jvm.ClassFile.FieldType.int)).before args0 about1 = true := code_word (m := ⟨7, 2⟩) (meth := k7m2) (c := k7c2) (by decide +kernel) rfl rfl rfl (by decide +kernel)
set_option maxRecDepth 65536 in
theorem w_c12 : (Jvm.Cond.code ({ cls := "java/lang/String", name := "coder", desc := "()B" } : Jvm.MethodName) jdk_42_method_152_code (1 : Nat) (Option.some Jvm.ClassFile.FieldType.byte)).before args0 about1 = true := code_word (m := ⟨7, 5⟩) (meth := k7m5) (c := k7c5) (by decide +kernel) rfl rfl rfl (by decide +kernel)
set_option maxRecDepth 65536 in
theorem w_c13 : (Jvm.Cond.code ({ cls := "java/lang/StringUTF16", name := "compress", desc := "([CII)[B" } : Jvm.MethodName) jdk_52_method_16_code (6 : Nat) (Option.some (Jvm.ClassFile.FieldType.array Jvm.ClassFile.FieldType.byte))).before args0 about1 = true := code_word (m := ⟨10, 2⟩) (meth := k10m2) (c := k10c2) (by decide +kernel) rfl rfl rfl (by decide +kernel)
set_option maxRecDepth 65536 in
theorem w_c14 : (Jvm.Cond.code ({ cls := "java/lang/StringUTF16", name := "compress", desc := "([CI[BII)I" } : Jvm.MethodName) jdk_52_method_21_code (7 : Nat) (Option.some Jvm.ClassFile.FieldType.int)).before args0 about1 = true := code_word (m := ⟨10, 3⟩) (meth := k10m3) (c := k10c3) (by decide +kernel) rfl rfl rfl (by decide +kernel)
set_option maxRecDepth 65536 in
theorem w_c15 : (Jvm.Cond.code ({ cls := "java/lang/StringUTF16", name := "coderFromArrayLen", desc := "([BI)B" } : Jvm.MethodName) jdk_52_method_15_code (2 : Nat) (Option.some Jvm.ClassFile.FieldType.byte)).before args0 about1 = true := code_word (m := ⟨10, 1⟩) (meth := k10m1) (c := k10c1) (by decide +kernel) rfl rfl rfl (by decide +kernel)
def codes1 : List Jvm.Cond := [Jvm.Cond.code x code maxLocals ret, Jvm.Cond.code ({ cls := "com/example/handoff/handoff/internal/PayloadEmptyPinLaw", name := "chars", desc := "(II)[C" } : Jvm.MethodName) method_2_code (6 : Nat) (Option.some (Jvm.ClassFile.FieldType.array Jvm.ClassFile.FieldType.char)), Jvm.Cond.code ({ cls := "java/lang/String", name := "<init>", desc := "([C)V" } : Jvm.MethodName) jdk_42_method_3_code (2 : Nat) (Option.none : Option Jvm.ClassFile.FieldType), Jvm.Cond.code ({ cls := "java/lang/String", name := "<init>", desc := "([CIILjava/lang/Void;)V" } : Jvm.MethodName) jdk_42_method_149_code (6 : Nat) (Option.none : Option Jvm.ClassFile.FieldType), Jvm.Cond.code ({ cls := "java/lang/Object", name := "<init>", desc := "()V" } : Jvm.MethodName) object_method_1_code (1 : Nat) (Option.none : Option Jvm.ClassFile.FieldType), Jvm.Cond.code ({ cls := "com/example/handoff/handoff/internal/Payload", name := "empty", desc := "(Ljava/lang/String;)Lcom/example/handoff/handoff/internal/Payload;" } : Jvm.MethodName) prog_19_method_3_code (1 : Nat) (Option.some (Jvm.ClassFile.FieldType.object "com/example/handoff/handoff/internal/Payload")), Jvm.Cond.code ({ cls := "java/util/Objects", name := "requireNonNull", desc := "(Ljava/lang/Object;Ljava/lang/String;)Ljava/lang/Object;" } : Jvm.MethodName) jdk_31_method_11_code (2 : Nat) (Option.some (Jvm.ClassFile.FieldType.object "java/lang/Object")), Jvm.Cond.code ({ cls := "com/example/handoff/handoff/internal/Payload", name := "<init>", desc := "(Ljava/lang/String;[B)V" } : Jvm.MethodName) prog_19_method_1_code (3 : Nat) (Option.none : Option Jvm.ClassFile.FieldType), Jvm.Cond.code ({ cls := "com/example/handoff/handoff/internal/Payload", name := "getContentType", desc := "()Ljava/lang/String;" } : Jvm.MethodName) prog_19_method_4_code (1 : Nat) (Option.some (Jvm.ClassFile.FieldType.object "java/lang/String")), Jvm.Cond.code ({ cls := "com/example/handoff/handoff/internal/Payload", name := "getBytes", desc := "()[B" } : Jvm.MethodName) prog_19_method_5_code (1 : Nat) (Option.some (Jvm.ClassFile.FieldType.array Jvm.ClassFile.FieldType.byte)), Jvm.Cond.code ({ cls := "java/lang/String", name := "equals", desc := "(Ljava/lang/Object;)Z" } : Jvm.MethodName) jdk_42_method_66_code (3 : Nat) (Option.some Jvm.ClassFile.FieldType.boolean), Jvm.Cond.code ({ cls := "java/lang/String", name := "length", desc := "()I" } : Jvm.MethodName) jdk_42_method_54_code (1 : Nat) (Option.some Jvm.ClassFile.FieldType.int), Jvm.Cond.code ({ cls := "java/lang/String", name := "coder", desc := "()B" } : Jvm.MethodName) jdk_42_method_152_code (1 : Nat) (Option.some Jvm.ClassFile.FieldType.byte), Jvm.Cond.code ({ cls := "java/lang/StringUTF16", name := "compress", desc := "([CII)[B" } : Jvm.MethodName) jdk_52_method_16_code (6 : Nat) (Option.some (Jvm.ClassFile.FieldType.array Jvm.ClassFile.FieldType.byte)), Jvm.Cond.code ({ cls := "java/lang/StringUTF16", name := "compress", desc := "([CI[BII)I" } : Jvm.MethodName) jdk_52_method_21_code (7 : Nat) (Option.some Jvm.ClassFile.FieldType.int), Jvm.Cond.code ({ cls := "java/lang/StringUTF16", name := "coderFromArrayLen", desc := "([BI)B" } : Jvm.MethodName) jdk_52_method_15_code (2 : Nat) (Option.some Jvm.ClassFile.FieldType.byte)]
set_option maxRecDepth 65536 in
theorem codes_eq : words1.filter isCode = codes1 := rfl
theorem w_codes : ∀ c ∈ words1.filter isCode, c.before args0 about1 = true := by
  rw [codes_eq]
  intro c hc
  simp only [codes1, List.mem_cons, List.not_mem_nil, or_false] at hc
  rcases hc with rfl | rfl | rfl | rfl | rfl | rfl | rfl | rfl | rfl | rfl | rfl | rfl | rfl | rfl | rfl | rfl
  · exact w_c0
  · exact w_c1
  · exact w_c2
  · exact w_c3
  · exact w_c4
  · exact w_c5
  · exact w_c6
  · exact w_c7
  · exact w_c8
  · exact w_c9
  · exact w_c10
  · exact w_c11
  · exact w_c12
  · exact w_c13
  · exact w_c14
  · exact w_c15
set_option maxRecDepth 65536 in
theorem w_t1 : (words1.take 24).all (fun c => isCode c || c.before args0 about1) = true := by decide +kernel
set_option maxRecDepth 65536 in
theorem w_t2 : ((words1.drop 24).take 24).all (fun c => isCode c || c.before args0 about1) = true := by decide +kernel
set_option maxRecDepth 65536 in
theorem w_t3 : (((words1.drop 24).drop 24).take 24).all (fun c => isCode c || c.before args0 about1) = true := by decide +kernel
set_option maxRecDepth 65536 in
theorem w_t4 : (((words1.drop 24).drop 24).drop 24).all (fun c => isCode c || c.before args0 about1) = true := by decide +kernel
theorem w_tables : (allAtoms (Jvm.Cond.code x code maxLocals ret :: tables_1)).before args0 about1 = true := by
  rw [allAtoms_all]
  show words1.all (fun c => c.before args0 about1) = true
  refine all_split ?_ w_codes
  rw [← List.take_append_drop 24 words1, List.all_append, w_t1, ← List.take_append_drop 24 (words1.drop 24), List.all_append, w_t2, ← List.take_append_drop 24 ((words1.drop 24).drop 24), List.all_append, w_t3, w_t4]
  rfl
set_option maxRecDepth 65536 in
theorem w_rest : rest_1_c.before args0 about1 = true := by decide +kernel
set_option maxRecDepth 65536 in
theorem w_case : (Jvm.Cond.and given_1 narrow_1).before args0 about1 = true := by decide +kernel
set_option maxRecDepth 65536 in
theorem w_consts : constsHeld consts_1 about1 := Jvm.Lit.constsHeldB_iff.mp (by decide +kernel)
theorem w_applies : (headSpec (Jvm.Cond.code x code maxLocals ret :: tables_1) room_1).applies x e0.platform about1 = true :=
  (Spec.applies_iff w_frames).mpr ⟨w_running, w_runnable, w_alone, w_named, w_hears, w_ripe, w_room, w_tables⟩
theorem atStart : AtStart classFile x code maxLocals ret World_1 tables_1 room_1 Calls_1 rest_1 Pre_1 launch0 p0 e0 about1 theMethod args0 below0 :=
  ⟨lists_1, trivial, launch0.admits_env _ _ _, launch0.least_env, fairChoices_fair.cas, fairChoices_fair.clock, w_frames, w_args, w_heap, w_applies, ⟨w_consts, trivial⟩, w_rest, w_case⟩
end start1
theorem witness_1 : WitnessClaimed_1 := ⟨start1.p0, start1.e0, start1.about1, start1.theMethod, start1.args0, start1.below0, start1.atStart⟩
end Jvm.Pilot.@@N@@
